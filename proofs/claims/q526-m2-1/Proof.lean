import JvmDerived
import JvmDerived.Pilot.@@N@@Statement
import JvmDerived.Pilot.@@N@@Code
set_option linter.unusedVariables false
set_option linter.unusedSimpArgs false
/- laws to paste: Road.backV, Road.lenW, Road.eqW, Road.codOf (cut by pick.py; bodies as the Statement names them) -/
namespace Jvm.Pilot.@@N@@
namespace StrChars
open Jvm Sem ClassFile Op Lib Jvm.Stand Jvm.Free.XT Jvm.Free.ALB Jvm.Free.JM Jvm.Free
open Jvm.Lib.Cold (StaticIs)
/-- a char array whose places are chars -/
def Ch (a : Addr) (A : Cell) (U : State) : Prop := Arr .char a A U ∧ Typed .char A
theorem Ch.mv {a : Addr} {A : Cell} {U U' : State} (h : Ch a A U) (hal : U.vm.Alike U'.vm) (hh : U'.heap = U.heap) : Ch a A U' := ⟨h.1.mv hal hh, h.2⟩
theorem Ch.keep {a : Addr} {A : Cell} {U U' : State} (h : Ch a A U) (hal : U.vm.Alike U'.vm) (hk : U'.heap[a]? = some A) : Ch a A U' := ⟨h.1.keep hal hk, h.2⟩
/-- what place i of a char[]'s cell holds -/
def cv (A : Cell) (i : Nat) : Int32 := match A.slots[i]? with | some (.int x) => x | _ => 0
theorem Ch.get {a : Addr} {A : Cell} {U : State} (h : Ch a A U) {i : Nat} (hi : i < A.slots.size) : A.slots[i]? = some (.int (cv A i)) := by
  have e := Array.getElem?_eq_getElem hi
  have f := h.2 i _ e
  unfold cv; rw [e]
  generalize A.slots[i] = v at f
  cases v <;> simp [fits] at f ⊢
/-- the byte that i2b leaves of a char -/
def lo8 (x : Int32) : Int32 := x.toInt8.toInt32
theorem fits_lo8 (y : Int32) : fits .byte (.int (lo8 y)) = true := by
  have h1 := y.toInt8.le_toInt
  have h2 := y.toInt8.toInt_lt
  simp only [lo8, fits, Bool.and_eq_true, decide_eq_true_eq, Int32.le_iff_toInt_le, Int8.toInt_toInt32, show (-128 : Int32).toInt = -128 from by decide, show (127 : Int32).toInt = 127 from by decide]
  omega
/-- A' is A but that each place j of lo .. hi - 1 holds f j -/
def Laid (A A' : Cell) (lo hi : Nat) (f : Nat → Value) : Prop := A'.cls = A.cls ∧ A'.vm = A.vm ∧ A'.slots.size = A.slots.size ∧ ∀ i, A'.slots[i]? = if lo ≤ i ∧ i < hi then some (f i) else A.slots[i]?
theorem Laid.zero (A : Cell) (lo : Nat) (f : Nat → Value) : Laid A A lo (lo + 0) f := ⟨rfl, rfl, rfl, fun i => by rw [if_neg (by omega)]⟩
theorem Laid.step {A Ak : Cell} {lo k : Nat} {f : Nat → Value} {v : Value} (h : Laid A Ak lo k f) (hlo : lo ≤ k) (hk : k < Ak.slots.size) (hv : v = f k) : Laid A (Ak.setSlot k v) lo (k + 1) f := by
  refine ⟨h.1, h.2.1, by simpa [Cell.setSlot] using h.2.2.1, fun i => ?_⟩
  by_cases e : k = i
  · subst e; rw [Cell.slots_setSlot_self v hk, if_pos (by omega), hv]
  · rw [Cell.slots_setSlot_ne v e, h.2.2.2 i]
    by_cases q : lo ≤ i ∧ i < k
    · rw [if_pos q, if_pos (by omega)]
    · rw [if_neg q, if_neg (by omega)]
def U16 : String := "java/lang/StringUTF16"
namespace Cmp5
def yN : MethodName := ⟨"java/lang/StringUTF16", "compress", "([CI[BII)I"⟩
abbrev yB : ByteArray := jdk_52_method_21_code
theorem d0 : decode yB 0 = .ok (.iconst 0, 1) := by decide +kernel
theorem d1 : decode yB 1 = .ok (.istore 5, 2) := by decide +kernel
theorem d3 : decode yB 3 = .ok (.iload 5, 2) := by decide +kernel
theorem d5 : decode yB 5 = .ok (.iload 4, 2) := by decide +kernel
theorem d7 : decode yB 7 = .ok (.if_icmp (.ge) 37, 3) := by decide +kernel
theorem d10 : decode yB 10 = .ok (.aload_n 0, 1) := by decide +kernel
theorem d11 : decode yB 11 = .ok (.iload_n 1, 1) := by decide +kernel
theorem d12 : decode yB 12 = .ok (.caload, 1) := by decide +kernel
theorem d13 : decode yB 13 = .ok (.istore 6, 2) := by decide +kernel
theorem d15 : decode yB 15 = .ok (.iload 6, 2) := by decide +kernel
theorem d17 : decode yB 17 = .ok (.sipush 255, 3) := by decide +kernel
theorem d20 : decode yB 20 = .ok (.if_icmp (.le) 6, 3) := by decide +kernel
theorem d26 : decode yB 26 = .ok (.aload_n 2, 1) := by decide +kernel
theorem d27 : decode yB 27 = .ok (.iload_n 3, 1) := by decide +kernel
theorem d28 : decode yB 28 = .ok (.iload 6, 2) := by decide +kernel
theorem d30 : decode yB 30 = .ok (.i2b, 1) := by decide +kernel
theorem d31 : decode yB 31 = .ok (.bastore, 1) := by decide +kernel
theorem d32 : decode yB 32 = .ok (.iinc 1 1, 3) := by decide +kernel
theorem d35 : decode yB 35 = .ok (.iinc 3 1, 3) := by decide +kernel
theorem d38 : decode yB 38 = .ok (.iinc 5 1, 3) := by decide +kernel
theorem d41 : decode yB 41 = .ok (.goto (-38), 3) := by decide +kernel
theorem d44 : decode yB 44 = .ok (.iload 4, 2) := by decide +kernel
theorem d46 : decode yB 46 = .ok (.ireturn, 1) := by decide +kernel
def site : List Cond := []
def tab : Cond := tabOf yN yB 7 (some .int) site
def P (b : Addr) (A : Cell) (d : Addr) (B : Cell) (o q len : Nat) (args : Array Value) (s : State) : Prop := args = #[.ref b, .int (Int32.ofNat o), .ref d, .int (Int32.ofNat q), .int (Int32.ofNat len)] ∧ Ch b A s ∧ Arr .byte d B s ∧ b ≠ d ∧ o + len ≤ A.slots.size ∧ q + len ≤ B.slots.size ∧ ∀ i, i < len → ¬ 255 < cv A (o + i)
def E (b : Addr) (A : Cell) (d : Addr) (B : Cell) (o q len : Nat) (r : Option Value) (s u : State) : Prop := r = some (.int (Int32.ofNat len)) ∧ ∃ B', Put d B' s u ∧ Laid B B' q (q + len) (fun j => Value.int (lo8 (cv A (o + (j - q)))))
/-- no char of the range above 255: len; the places written hold each char's low byte -/
theorem law (l : Launch) (b : Addr) (A : Cell) (d : Addr) (B : Cell) (o q len : Nat) : Law l yN 5 5 0 0 yB 7 (some .int) site (P b A d B o q len) (E b A d B o q len) (copyLocs d q len) 0 0 := by
  refine Law.of_walk (plainFor_of_name (by decide +kernel)) (by decide +kernel) (by decide +kernel) (by decide) (fun _ _ h => by rw [h.1]; rfl) (fun _ U U' hal hh h => ⟨h.1, h.2.1.mv hal hh, h.2.2.1.mv hal hh, h.2.2.2⟩) (fun r U U' V V' h1 hal h2 h => ⟨h.1, h.2.elim fun B' q => ⟨B', q.1.mv h1 h2, q.2⟩⟩) ?_
  intro p e s m args below meth c s₁ X0 hexec hbytes hml hret hlk hnm hown hh0 W hP
  obtain ⟨rfl, hA, hB, hne, l1, l2, hp⟩ := hP
  have c1 : Steps p.tables e below (s₁.setTop (entryFrame m #[.ref b, .int (Int32.ofNat o), .ref d, .int (Int32.ofNat q), .int (Int32.ofNat len)] 7)) (s₁.setTop (mkF m 0 #[.val (.ref b), .val (.int (Int32.ofNat o)), .val (.ref d), .val (.int (Int32.ofNat q)), .val (.int (Int32.ofNat len)), .unset, .unset] [])) := entry rfl
  have hA0 := hA.1.mv X0.warmed.alike hh0
  have hB0 := hB.mv X0.warmed.alike hh0
  have a31 := hA.1.2.2.2
  have c2 : Steps p.tables e below (s₁.setTop (entryFrame m #[.ref b, .int (Int32.ofNat o), .ref d, .int (Int32.ofNat q), .int (Int32.ofNat len)] 7)) (s₁.setTop (mkF m 3 #[.val (.ref b), .val (.int (Int32.ofNat o)), .val (.ref d), .val (.int (Int32.ofNat q)), .val (.int (Int32.ofNat len)), .val (.int 0), .unset] [])) := c1.trans (by
    refine iconstV X0.here hexec rfl 0 (hb hbytes d0) (by decide) ?_
    refine XS.istore X0.here hexec rfl (hb hbytes d1) rfl rfl ?_
    exact Steps.refl _)
  have loop : ∀ (r i : Nat), i + r = len → ∀ (z : Slot), (z = .unset ∨ ∃ w, z = .val w ∧ w.category = 1) → ∀ (Tl : State) (Bk : Cell), Stand p l e { frames := 0, locals := 0, cells := 0, slots := 0 } s m #[.ref b, .int (Int32.ofNat o), .ref d, .int (Int32.ofNat q), .int (Int32.ofNat len)] below meth c Tl ([] ++ copyLocs d q i) 0 0 → Put d Bk s₁ Tl → Laid B Bk q (q + i) (fun j => Value.int (lo8 (cv A (o + (j - q))))) →
      Steps p.tables e below (s₁.setTop (entryFrame m #[.ref b, .int (Int32.ofNat o), .ref d, .int (Int32.ofNat q), .int (Int32.ofNat len)] 7)) (Tl.setTop (mkF m 3 #[.val (.ref b), .val (.int (Int32.ofNat (o + i))), .val (.ref d), .val (.int (Int32.ofNat (q + i))), .val (.int (Int32.ofNat len)), .val (.int (Int32.ofNat i)), z] [])) → ∃ (T' : State) (B' : Cell) (z' : Slot), Stand p l e { frames := 0, locals := 0, cells := 0, slots := 0 } s m #[.ref b, .int (Int32.ofNat o), .ref d, .int (Int32.ofNat q), .int (Int32.ofNat len)] below meth c T' ([] ++ copyLocs d q len) 0 0 ∧ Put d B' s₁ T' ∧ Laid B B' q (q + len) (fun j => Value.int (lo8 (cv A (o + (j - q))))) ∧
      Steps p.tables e below (s₁.setTop (entryFrame m #[.ref b, .int (Int32.ofNat o), .ref d, .int (Int32.ofNat q), .int (Int32.ofNat len)] 7)) (T'.setTop (mkF m 3 #[.val (.ref b), .val (.int (Int32.ofNat (o + len))), .val (.ref d), .val (.int (Int32.ofNat (q + len))), .val (.int (Int32.ofNat len)), .val (.int (Int32.ofNat len)), z'] [])) := by
    intro r
    induction r with
    | zero =>
      intro i hi z hz Tl Bk Xl pl fl cl
      have hil : i = len := by omega
      rw [hil] at Xl fl cl
      exact ⟨Tl, Bk, z, Xl, pl, fl, cl⟩
    | succ r ih =>
      intro i hi z hz Tl Bk Xl pl fl cl
      have all := X0.warmed.alike.symm.trans Xl.warmed.alike
      have hAl := hA0.keep all (pl.other hne hA0.1)
      have hBk := hB0.like all pl.1 fl.1 fl.2.1 fl.2.2.1
      have hlt : q + i < Bk.slots.size := by rw [fl.2.2.1]; omega
      have c3 : Steps p.tables e below (s₁.setTop (entryFrame m #[.ref b, .int (Int32.ofNat o), .ref d, .int (Int32.ofNat q), .int (Int32.ofNat len)] 7)) (Tl.setTop (mkF m 12 #[.val (.ref b), .val (.int (Int32.ofNat (o + i))), .val (.ref d), .val (.int (Int32.ofNat (q + i))), .val (.int (Int32.ofNat len)), .val (.int (Int32.ofNat i)), z] [.int (Int32.ofNat (o + i)), .ref b])) := cl.trans (by
        refine XS.iload Xl.here hexec rfl (hb hbytes d3) rfl ?_
        refine XS.iload Xl.here hexec rfl (hb hbytes d5) rfl ?_
        refine XS.icmpNo Xl.here hexec rfl (hb hbytes d7) rfl (ii_ge_f (lt32 (by omega) (by omega))) ?_
        refine XS.aloadN Xl.here hexec rfl (hb hbytes d10) rfl rfl ?_
        refine XS.iloadN Xl.here hexec rfl (hb hbytes d11) rfl ?_
        exact Steps.refl _)
      have c4 : Steps p.tables e below (s₁.setTop (entryFrame m #[.ref b, .int (Int32.ofNat o), .ref d, .int (Int32.ofNat q), .int (Int32.ofNat len)] 7)) (Tl.setTop (mkF m 13 #[.val (.ref b), .val (.int (Int32.ofNat (o + i))), .val (.ref d), .val (.int (Int32.ofNat (q + i))), .val (.int (Int32.ofNat len)), .val (.int (Int32.ofNat i)), z] [.int (cv A (o + i))])) := c3.trans (by
        refine Xl.aget hexec hAl rfl (hA.get (i := o + i) (by omega)) rfl rfl (hb hbytes d12) ?_
        exact Steps.refl _)
      have c5 : Steps p.tables e below (s₁.setTop (entryFrame m #[.ref b, .int (Int32.ofNat o), .ref d, .int (Int32.ofNat q), .int (Int32.ofNat len)] 7)) (Tl.setTop (mkF m 15 #[.val (.ref b), .val (.int (Int32.ofNat (o + i))), .val (.ref d), .val (.int (Int32.ofNat (q + i))), .val (.int (Int32.ofNat len)), .val (.int (Int32.ofNat i)), .val (.int (cv A (o + i)))] [])) := c4.trans (by
        refine XS.istoreS Xl.here hexec rfl (hb hbytes d13) rfl rfl hz ?_
        exact Steps.refl _)
      have c6 : Steps p.tables e below (s₁.setTop (entryFrame m #[.ref b, .int (Int32.ofNat o), .ref d, .int (Int32.ofNat q), .int (Int32.ofNat len)] 7)) (Tl.setTop (mkF m 31 #[.val (.ref b), .val (.int (Int32.ofNat (o + i))), .val (.ref d), .val (.int (Int32.ofNat (q + i))), .val (.int (Int32.ofNat len)), .val (.int (Int32.ofNat i)), .val (.int (cv A (o + i)))] [.int (lo8 (cv A (o + i))), .int (Int32.ofNat (q + i)), .ref d])) := c5.trans (by
        refine XS.iload Xl.here hexec rfl (hb hbytes d15) rfl ?_
        refine sipushV Xl.here hexec rfl 255 (hb hbytes d17) (by decide) ?_
        refine XS.icmpYes Xl.here hexec rfl (pc0 := 20) rfl (hb hbytes d20) rfl (ii_le_t (hp i (by omega))) (by decide) rfl ?_
        refine XS.aloadN Xl.here hexec rfl (hb hbytes d26) rfl rfl ?_
        refine XS.iloadN Xl.here hexec rfl (hb hbytes d27) rfl ?_
        refine XS.iload Xl.here hexec rfl (hb hbytes d28) rfl ?_
        refine i2b Xl.here hexec rfl (hb hbytes d30) rfl ?_
        exact Steps.refl _)
      obtain ⟨T7, X7, p7, st7⟩ := Xl.aput hexec hBk rfl hlt rfl (fits_lo8 (cv A (o + i))) (g := (mkF m 31 #[.val (.ref b), .val (.int (Int32.ofNat (o + i))), .val (.ref d), .val (.int (Int32.ofNat (q + i))), .val (.int (Int32.ofNat len)), .val (.int (Int32.ofNat i)), .val (.int (cv A (o + i)))] [.int (lo8 (cv A (o + i))), .int (Int32.ofNat (q + i)), .ref d])) rfl (rest := []) rfl (hb hbytes d31)
      have c8 : Steps p.tables e below (s₁.setTop (entryFrame m #[.ref b, .int (Int32.ofNat o), .ref d, .int (Int32.ofNat q), .int (Int32.ofNat len)] 7)) (T7.setTop (mkF m 32 #[.val (.ref b), .val (.int (Int32.ofNat (o + i))), .val (.ref d), .val (.int (Int32.ofNat (q + i))), .val (.int (Int32.ofNat len)), .val (.int (Int32.ofNat i)), .val (.int (cv A (o + i)))] [])) := c6.trans (st7 _ (Steps.refl _))
      have c9 : Steps p.tables e below (s₁.setTop (entryFrame m #[.ref b, .int (Int32.ofNat o), .ref d, .int (Int32.ofNat q), .int (Int32.ofNat len)] 7)) (T7.setTop (mkF m 3 #[.val (.ref b), .val (.int (Int32.ofNat (o + i) + 1)), .val (.ref d), .val (.int (Int32.ofNat (q + i) + 1)), .val (.int (Int32.ofNat len)), .val (.int (Int32.ofNat i + 1)), .val (.int (cv A (o + i)))] [])) := c8.trans (by
        refine iincV X7.here hexec rfl 1 (hb hbytes d32) (by decide) rfl rfl ?_
        refine iincV X7.here hexec rfl 1 (hb hbytes d35) (by decide) rfl rfl ?_
        refine iincV X7.here hexec rfl 1 (hb hbytes d38) (by decide) rfl rfl ?_
        refine XS.goto X7.here hexec rfl (pc0 := 41) rfl (hb hbytes d41) (by decide) rfl ?_
        exact Steps.refl _)
      have c10 : Steps p.tables e below (s₁.setTop (entryFrame m #[.ref b, .int (Int32.ofNat o), .ref d, .int (Int32.ofNat q), .int (Int32.ofNat len)] 7)) (T7.setTop (mkF m 3 #[.val (.ref b), .val (.int (Int32.ofNat (o + (i + 1)))), .val (.ref d), .val (.int (Int32.ofNat (q + (i + 1)))), .val (.int (Int32.ofNat len)), .val (.int (Int32.ofNat (i + 1))), .val (.int (cv A (o + i)))] [])) := by
        have := c9
        rw [succ32, succ32, succ32] at this
        exact this
      exact ih (i + 1) (by omega) _ (Or.inr ⟨_, rfl, rfl⟩) T7 _ (by rw [copyLocs_step, ← List.append_assoc]; exact X7) (pl.trans p7) (fl.step (by omega) hlt (by simp)) c10
  obtain ⟨T9, B9, z9, X9, p9, f9, g9⟩ := loop len 0 (by omega) .unset (Or.inl rfl) s₁ B (by simpa [copyLocs] using X0) ⟨hB0.1, fun _ _ => rfl, rfl⟩ (Laid.zero _ _ _) c2
  have c11 : Steps p.tables e below (s₁.setTop (entryFrame m #[.ref b, .int (Int32.ofNat o), .ref d, .int (Int32.ofNat q), .int (Int32.ofNat len)] 7)) (T9.setTop (mkF m 46 #[.val (.ref b), .val (.int (Int32.ofNat (o + len))), .val (.ref d), .val (.int (Int32.ofNat (q + len))), .val (.int (Int32.ofNat len)), .val (.int (Int32.ofNat len)), z9] [.int (Int32.ofNat len)])) := g9.trans (by
    refine XS.iload X9.here hexec rfl (hb hbytes d3) rfl ?_
    refine XS.iload X9.here hexec rfl (hb hbytes d5) rfl ?_
    refine XS.icmpYes X9.here hexec rfl (pc0 := 7) rfl (hb hbytes d7) rfl (ii_ge_t (nlt32 (by omega) (Nat.le_refl _))) (by decide) rfl ?_
    refine XS.iload X9.here hexec rfl (hb hbytes d44) rfl ?_
    exact Steps.refl _)
  exact ⟨T9, some (.int (Int32.ofNat len)), _, _, _, X9, by simp, rfl, rfl, (fun h => by cases h), ⟨rfl, B9, p9.from hh0, f9⟩, fun fs hl => c11.trans (X9.ireturnOut hexec hret rfl (Or.inl rfl) (hb hbytes d46) hl)⟩
end Cmp5
namespace Cmp3
def yN : MethodName := ⟨"java/lang/StringUTF16", "compress", "([CII)[B"⟩
abbrev yB : ByteArray := jdk_52_method_16_code
theorem d0 : decode yB 0 = .ok (.iload_n 2, 1) := by decide +kernel
theorem d1 : decode yB 1 = .ok (.newarray .byte, 2) := by decide +kernel
theorem d3 : decode yB 3 = .ok (.astore_n 3, 1) := by decide +kernel
theorem d4 : decode yB 4 = .ok (.aload_n 0, 1) := by decide +kernel
theorem d5 : decode yB 5 = .ok (.iload_n 1, 1) := by decide +kernel
theorem d6 : decode yB 6 = .ok (.aload_n 3, 1) := by decide +kernel
theorem d7 : decode yB 7 = .ok (.iconst 0, 1) := by decide +kernel
theorem d8 : decode yB 8 = .ok (.iload_n 2, 1) := by decide +kernel
theorem d9 : decode yB 9 = .ok (.invokestatic 115, 3) := by decide +kernel
theorem d12 : decode yB 12 = .ok (.istore 4, 2) := by decide +kernel
theorem d14 : decode yB 14 = .ok (.iload 4, 2) := by decide +kernel
theorem d16 : decode yB 16 = .ok (.iload_n 2, 1) := by decide +kernel
theorem d17 : decode yB 17 = .ok (.if_icmp (.eq) 40, 3) := by decide +kernel
theorem d57 : decode yB 57 = .ok (.aload_n 3, 1) := by decide +kernel
theorem d58 : decode yB 58 = .ok (.areturn, 1) := by decide +kernel
def site : List Cond := [.arrayClass .byte, Cmp5.tab] ++ staticW U16 115 Cmp5.yN
def tab : Cond := tabOf yN yB 6 (some (.array .byte)) site
def P (b : Addr) (A : Cell) (o len : Nat) (args : Array Value) (s : State) : Prop := args = #[.ref b, .int (Int32.ofNat o), .int (Int32.ofNat len)] ∧ Ch b A s ∧ o + len ≤ A.slots.size ∧ len ≤ 536870912 ∧ ∀ i, i < len → ¬ 255 < cv A (o + i)
def E (b : Addr) (A : Cell) (o len : Nat) (r : Option Value) (s u : State) : Prop := NewArr .byte "[B" len (fun j => .int (lo8 (cv A (o + j)))) r s u ∧ u.heap.size = s.heap.size + 1
/-- no char of the range above 255: a new byte[] of their low bytes -/
theorem law (l : Launch) (b : Addr) (A : Cell) (o len : Nat) : Law l yN 3 3 1 18 yB 6 (some (.array .byte)) site (P b A o len) (E b A o len) [] 1 len := by
  refine Law.of_walk (plainFor_of_name (by decide +kernel)) (by decide +kernel) (by decide +kernel) (by decide) (fun _ _ h => by rw [h.1]; rfl) (fun _ U U' hal hh h => ⟨h.1, h.2.1.mv hal hh, h.2.2⟩) (fun r U U' V V' h1 hal h2 h => ⟨NewArr.mv r U U' V V' h1 hal h2 h.1, by rw [h1, h2]; exact h.2⟩) ?_
  intro p e s m args below meth c s₁ X0 hexec hbytes hml hret hlk hnm hown hh0 W hP
  obtain ⟨rfl, hA, l1, l2, hp⟩ := hP
  have a31 := hA.1.2.2.2
  have c1 : Steps p.tables e below (s₁.setTop (entryFrame m #[.ref b, .int (Int32.ofNat o), .int (Int32.ofNat len)] 6)) (s₁.setTop (mkF m 0 #[.val (.ref b), .val (.int (Int32.ofNat o)), .val (.int (Int32.ofNat len)), .unset, .unset, .unset] [])) := entry rfl
  have c2 : Steps p.tables e below (s₁.setTop (entryFrame m #[.ref b, .int (Int32.ofNat o), .int (Int32.ofNat len)] 6)) (s₁.setTop (mkF m 1 #[.val (.ref b), .val (.int (Int32.ofNat o)), .val (.int (Int32.ofNat len)), .unset, .unset, .unset] [.int (Int32.ofNat len)])) := c1.trans (by
    refine XS.iloadN X0.here hexec rfl (hb hbytes d0) rfl ?_
    exact Steps.refl _)
  obtain ⟨T3, B3, X3, ba3, bs3, bv3, bh3, bf3, st3⟩ := X0.anew hexec (atype := .byte) (wk W (.arrayClass .byte)) rfl (by show len * 1 ≤ _; omega) (by omega) (g := (mkF m 1 #[.val (.ref b), .val (.int (Int32.ofNat o)), .val (.int (Int32.ofNat len)), .unset, .unset, .unset] [.int (Int32.ofNat len)])) rfl (hb hbytes d1) (rest := []) rfl (Nat.le_refl _) (by show 0 + len ≤ len; omega)
  rw [hh0] at ba3 st3
  have kp3 : XT.Kept s T3 := (XT.Kept.of_eq hh0).push bh3
  have hA3 := hA.keep X3.warmed.alike (kp3 _ _ hA.1.1)
  have hne : b ≠ s.heap.size := hA.1.ne
  have c4 : Steps p.tables e below (s₁.setTop (entryFrame m #[.ref b, .int (Int32.ofNat o), .int (Int32.ofNat len)] 6)) (T3.setTop (mkF m 3 #[.val (.ref b), .val (.int (Int32.ofNat o)), .val (.int (Int32.ofNat len)), .unset, .unset, .unset] [.ref s.heap.size])) := c2.trans (st3 _ (Steps.refl _))
  have c5 : Steps p.tables e below (s₁.setTop (entryFrame m #[.ref b, .int (Int32.ofNat o), .int (Int32.ofNat len)] 6)) (T3.setTop (mkF m 9 #[.val (.ref b), .val (.int (Int32.ofNat o)), .val (.int (Int32.ofNat len)), .val (.ref s.heap.size), .unset, .unset] [.int (Int32.ofNat len), .int 0, .ref s.heap.size, .int (Int32.ofNat o), .ref b])) := c4.trans (by
    refine XS.astoreN X3.here hexec rfl (hb hbytes d3) rfl rfl rfl ?_
    refine XS.aloadN X3.here hexec rfl (hb hbytes d4) rfl rfl ?_
    refine XS.iloadN X3.here hexec rfl (hb hbytes d5) rfl ?_
    refine XS.aloadN X3.here hexec rfl (hb hbytes d6) rfl rfl ?_
    refine iconstV X3.here hexec rfl 0 (hb hbytes d7) (by decide) ?_
    refine XS.iloadN X3.here hexec rfl (hb hbytes d8) rfl ?_
    exact Steps.refl _)
  obtain ⟨v6, T6, X6, E6, g6⟩ := X3.callS hexec (Cmp5.law l b A s.heap.size B3 o 0 len) hown (wks W (staticW U16 115 Cmp5.yN)) (wk W Cmp5.tab) (W := 0) (Nat.le_of_ble_eq_true rfl) (Nat.le_of_ble_eq_true rfl) (Nat.le_refl _) (by show 0 + len + 0 ≤ len; omega) (g := (mkF m 9 #[.val (.ref b), .val (.int (Int32.ofNat o)), .val (.int (Int32.ofNat len)), .val (.ref s.heap.size), .unset, .unset] [.int (Int32.ofNat len), .int (Int32.ofNat 0), .ref s.heap.size, .int (Int32.ofNat o), .ref b])) rfl (by rw [hml]; rfl) c5 (argsL := [.ref b, .int (Int32.ofNat o), .ref s.heap.size, .int (Int32.ofNat 0), .int (Int32.ofNat len)]) (rest := []) rfl rfl (by show 2 * 0 + 0 ≤ _; decide) (hb hbytes d9) (⟨rfl, hA3, ba3, hne, l1, by rw [bs3]; simp, hp⟩)
  obtain ⟨rfl, B6, p6, f6⟩ := E6
  have c7 : Steps p.tables e below (s₁.setTop (entryFrame m #[.ref b, .int (Int32.ofNat o), .int (Int32.ofNat len)] 6)) (T6.setTop (mkF m 12 #[.val (.ref b), .val (.int (Int32.ofNat o)), .val (.int (Int32.ofNat len)), .val (.ref s.heap.size), .unset, .unset] [.int (Int32.ofNat len)])) := g6
  have c8 : Steps p.tables e below (s₁.setTop (entryFrame m #[.ref b, .int (Int32.ofNat o), .int (Int32.ofNat len)] 6)) (T6.setTop (mkF m 58 #[.val (.ref b), .val (.int (Int32.ofNat o)), .val (.int (Int32.ofNat len)), .val (.ref s.heap.size), .val (.int (Int32.ofNat len)), .unset] [.ref s.heap.size])) := c7.trans (by
    refine XS.istore X6.here hexec rfl (hb hbytes d12) rfl rfl ?_
    refine XS.iload X6.here hexec rfl (hb hbytes d14) rfl ?_
    refine XS.iloadN X6.here hexec rfl (hb hbytes d16) rfl ?_
    refine XS.icmpYes X6.here hexec rfl (pc0 := 17) rfl (hb hbytes d17) rfl (ii_eq_t rfl) (by decide) rfl ?_
    refine XS.aloadN X6.here hexec rfl (hb hbytes d57) rfl rfl ?_
    exact Steps.refl _)
  have X8 := X6.wide (L' := []) (cells' := 1) (slots' := len) (fun x hx hlt => by
    simp only [List.nil_append, copyLocs, List.mem_map, List.mem_range] at hx
    obtain ⟨i, -, rfl⟩ := hx
    exact absurd hlt (Nat.lt_irrefl _)) (Nat.le_refl _) (by omega)
  exact ⟨T6, some (.ref s.heap.size), _, _, _, X8, rfl, rfl, rfl, (fun h => by cases h), ⟨⟨rfl, B6, ba3.like (X3.warmed.alike.symm.trans X6.warmed.alike) p6.1 f6.1 f6.2.1 f6.2.2.1, f6.2.1.trans bv3, by rw [X6.warmed.alike.findClass, f6.1]; exact bf3, by rw [f6.2.2.1, bs3]; simp, fun j hj => by rw [f6.2.2.2 j, if_pos (by omega)]; rfl, kp3.put p6 (Nat.le_refl _)⟩, by rw [p6.2.2, bh3, hh0]; simp⟩, fun fs hl => c8.trans (X8.areturnOut hexec rfl hret rfl (hb hbytes d58) hl)⟩
end Cmp3
namespace CodL
def yN : MethodName := ⟨"java/lang/StringUTF16", "coderFromArrayLen", "([BI)B"⟩
abbrev yB : ByteArray := jdk_52_method_15_code
theorem d0 : decode yB 0 = .ok (.iload_n 1, 1) := by decide +kernel
theorem d1 : decode yB 1 = .ok (.aload_n 0, 1) := by decide +kernel
theorem d2 : decode yB 2 = .ok (.arraylength, 1) := by decide +kernel
theorem d3 : decode yB 3 = .ok (.isub, 1) := by decide +kernel
theorem d4 : decode yB 4 = .ok (.bipush 31, 2) := by decide +kernel
theorem d6 : decode yB 6 = .ok (.iushr, 1) := by decide +kernel
theorem d7 : decode yB 7 = .ok (.i2b, 1) := by decide +kernel
theorem d8 : decode yB 8 = .ok (.ireturn, 1) := by decide +kernel
def site : List Cond := []
def tab : Cond := tabOf yN yB 2 (some .byte) site
def P (d : Addr) (B : Cell) (args : Array Value) (s : State) : Prop := args = #[.ref d, .int (Int32.ofNat B.slots.size)] ∧ Arr .byte d B s
def E (r : Option Value) (s u : State) : Prop := XT.PureE (some (.int 0)) r s u
/-- an array as long as the number of chars: LATIN1 -/
theorem law (l : Launch) (d : Addr) (B : Cell) : Law l yN 2 2 0 0 yB 2 (some .byte) site (P d B) E [] 0 0 := by
  refine Law.of_walk (plainFor_of_name (by decide +kernel)) (by decide +kernel) (by decide +kernel) (by decide) (fun _ _ h => by rw [h.1]; rfl) (fun _ U U' hal hh h => ⟨h.1, h.2.mv hal hh⟩) (fun r U U' V V' h1 hal h2 h => XT.PureE.mv r U U' V V' h1 hal h2 h) ?_
  intro p e s m args below meth c s₁ X0 hexec hbytes hml hret hlk hnm hown hh0 W hP
  obtain ⟨rfl, hB⟩ := hP
  have hB0 := hB.mv X0.warmed.alike hh0
  have c1 : Steps p.tables e below (s₁.setTop (entryFrame m #[.ref d, .int (Int32.ofNat B.slots.size)] 2)) (s₁.setTop (mkF m 0 #[.val (.ref d), .val (.int (Int32.ofNat B.slots.size))] [])) := entry rfl
  have c2 : Steps p.tables e below (s₁.setTop (entryFrame m #[.ref d, .int (Int32.ofNat B.slots.size)] 2)) (s₁.setTop (mkF m 2 #[.val (.ref d), .val (.int (Int32.ofNat B.slots.size))] [.ref d, .int (Int32.ofNat B.slots.size)])) := c1.trans (by
    refine XS.iloadN X0.here hexec rfl (hb hbytes d0) rfl ?_
    refine XS.aloadN X0.here hexec rfl (hb hbytes d1) rfl rfl ?_
    exact Steps.refl _)
  have c3 : Steps p.tables e below (s₁.setTop (entryFrame m #[.ref d, .int (Int32.ofNat B.slots.size)] 2)) (s₁.setTop (mkF m 8 #[.val (.ref d), .val (.int (Int32.ofNat B.slots.size))] [.int (lo8 (ushr (Int32.ofNat B.slots.size - Int32.ofNat B.slots.size) 31))])) := c2.trans (by
    refine X0.alen hexec hB0 rfl rfl (hb hbytes d2) ?_
    refine XS.isub X0.here hexec rfl (hb hbytes d3) rfl ?_
    refine bipushV X0.here hexec rfl 31 (hb hbytes d4) (by decide) ?_
    refine iushr X0.here hexec rfl (hb hbytes d6) rfl ?_
    refine i2b X0.here hexec rfl (hb hbytes d7) rfl ?_
    exact Steps.refl _)
  have e0 : lo8 (ushr (Int32.ofNat B.slots.size - Int32.ofNat B.slots.size) 31) = 0 := by rw [Int32.sub_self]; decide
  rw [e0] at c3
  exact ⟨s₁, some (.int 0), _, _, _, X0, rfl, rfl, rfl, (fun h => by cases h), ⟨rfl, hh0⟩, fun fs hl => c3.trans (X0.ireturnOut hexec hret rfl (Or.inr (Or.inr (Or.inl rfl))) (hb hbytes d8) hl)⟩
end CodL
/-- the String at a is Latin-1 over a new byte[] (the heap's one new cell): the low bytes of the len chars of A from o on; every cell but a is kept -/
def Got (a : Addr) (D : Cell) (fV fC : Field) (A : Cell) (o len : Nat) (r : Option Value) (s u : State) : Prop := r = none ∧ ∃ D' V : Cell, Blank "java/lang/String" a D' u ∧ Same D D' [fV.slot, fC.slot] ∧ D'.slots[fV.slot]? = some (.ref s.heap.size) ∧ D'.slots[fC.slot]? = some (.int 0) ∧ Arr .byte s.heap.size V u ∧ V.vm = .none ∧ u.vm.findClass "[B" = some V.cls ∧ V.slots.size = len ∧ (∀ j, j < len → V.slots[j]? = some (.int (lo8 (cv A (o + j))))) ∧ (∀ (y : Addr) (c : Cell), y ≠ a → s.heap[y]? = some c → u.heap[y]? = some c) ∧ u.heap.size = s.heap.size + 1
theorem Got.mv {a : Addr} {D A : Cell} {fV fC : Field} {o len : Nat} : ∀ r (U U' V V' : State), U'.heap = U.heap → V.vm.Alike V'.vm → V'.heap = V.heap → Got a D fV fC A o len r U V → Got a D fV fC A o len r U' V' :=
  fun r U U' V V' h1 hal h2 ⟨e0, D', X, a1, a2, a3, a4, a5, a6, a7, a8, a9, a10, a11⟩ => ⟨e0, D', X, a1.mv hal h2, a2, by rw [h1]; exact a3, a4, by rw [h1]; exact a5.mv hal h2, a6, by rw [hal.findClass]; exact a7, a8, a9, by rw [h1, h2]; exact a10, by rw [h1, h2]; exact a11⟩
namespace New4
def yN : MethodName := ⟨"java/lang/String", "<init>", "([CIILjava/lang/Void;)V"⟩
abbrev yB : ByteArray := jdk_42_method_149_code
theorem d0 : decode yB 0 = .ok (.aload_n 0, 1) := by decide +kernel
theorem d1 : decode yB 1 = .ok (.invokespecial 1, 3) := by decide +kernel
theorem d4 : decode yB 4 = .ok (.iload_n 3, 1) := by decide +kernel
theorem d5 : decode yB 5 = .ok (.ifCond (.ne) 22, 3) := by decide +kernel
theorem d27 : decode yB 27 = .ok (.getstatic 38, 3) := by decide +kernel
theorem d30 : decode yB 30 = .ok (.ifCond (.eq) 28, 3) := by decide +kernel
theorem d33 : decode yB 33 = .ok (.aload_n 1, 1) := by decide +kernel
theorem d34 : decode yB 34 = .ok (.iload_n 2, 1) := by decide +kernel
theorem d35 : decode yB 35 = .ok (.iload_n 3, 1) := by decide +kernel
theorem d36 : decode yB 36 = .ok (.invokestatic 177, 3) := by decide +kernel
theorem d39 : decode yB 39 = .ok (.astore 5, 2) := by decide +kernel
theorem d41 : decode yB 41 = .ok (.aload_n 0, 1) := by decide +kernel
theorem d42 : decode yB 42 = .ok (.aload 5, 2) := by decide +kernel
theorem d44 : decode yB 44 = .ok (.iload_n 3, 1) := by decide +kernel
theorem d45 : decode yB 45 = .ok (.invokestatic 47, 3) := by decide +kernel
theorem d48 : decode yB 48 = .ok (.putfield 15, 3) := by decide +kernel
theorem d51 : decode yB 51 = .ok (.aload_n 0, 1) := by decide +kernel
theorem d52 : decode yB 52 = .ok (.aload 5, 2) := by decide +kernel
theorem d54 : decode yB 54 = .ok (.putfield 9, 3) := by decide +kernel
theorem d57 : decode yB 57 = .ok (.return_, 1) := by decide +kernel
def site : List Cond := [.fieldLink "java/lang/String" 38 "java/lang/String" "COMPACT_STRINGS" "Z", Cmp3.tab, CodL.tab, .laysFinal "java/lang/String" "java/lang/String" "value" "[B", .fieldLink "java/lang/String" 9 "java/lang/String" "value" "[B", .laysFinal "java/lang/String" "java/lang/String" "coder" "B", .fieldLink "java/lang/String" 15 "java/lang/String" "coder" "B"] ++ objW "java/lang/String" 1 ++ staticW "java/lang/String" 177 Cmp3.yN ++ staticW "java/lang/String" 47 CodL.yN
def tab : Cond := tabOf yN yB 6 none site
def P (a : Addr) (D : Cell) (fV fC : Field) (b : Addr) (A : Cell) (z : Int32) (o len : Nat) (args : Array Value) (s : State) : Prop := args = #[.ref a, .ref b, .int (Int32.ofNat o), .int (Int32.ofNat len), .null] ∧ Blank "java/lang/String" a D s ∧ Found "java/lang/String" "value" "[B" fV s ∧ Found "java/lang/String" "coder" "B" fC s ∧ Ch b A s ∧ StaticIs s "java/lang/String" "COMPACT_STRINGS" "Z" (.int z) ∧ ¬ z = 0 ∧ 0 < len ∧ o + len ≤ A.slots.size ∧ len ≤ 536870912 ∧ ∀ i, i < len → ¬ 255 < cv A (o + i)
def E (a : Addr) (D : Cell) (fV fC : Field) (A : Cell) (o len : Nat) (r : Option Value) (s u : State) : Prop := Got a D fV fC A o len r s u
/-- len > 0, no char of the range above 255: a Latin-1 String of their low bytes -/
theorem law (l : Launch) (a : Addr) (D : Cell) (fV fC : Field) (b : Addr) (A : Cell) (z : Int32) (o len : Nat) : Law l yN 5 4 2 35 yB 6 none site (P a D fV fC b A z o len) (E a D fV fC A o len) [⟨a, fC.slot⟩, ⟨a, fV.slot⟩] 1 len := by
  refine Law.of_walk (plainFor_of_name (by decide +kernel)) (by decide +kernel) (by decide +kernel) (by decide) (fun _ _ h => by rw [h.1]; rfl) (fun _ U U' hal hh h => ⟨h.1, h.2.1.mv hal hh, h.2.2.1.al hal, h.2.2.2.1.al hal, h.2.2.2.2.1.mv hal hh, h.2.2.2.2.2.1.there hal hh, h.2.2.2.2.2.2⟩) (fun r U U' V V' h1 hal h2 h => Got.mv r U U' V V' h1 hal h2 h) ?_
  intro p e s m args below meth c s₁ X0 hexec hbytes hml hret hlk hnm hown hh0 W hP
  obtain ⟨rfl, hB, f1, f2, hA, s1, hz, l0, l1, l2, hp⟩ := hP
  have a31 := hA.1.2.2.2
  have c1 : Steps p.tables e below (s₁.setTop (entryFrame m #[.ref a, .ref b, .int (Int32.ofNat o), .int (Int32.ofNat len), .null] 6)) (s₁.setTop (mkF m 0 #[.val (.ref a), .val (.ref b), .val (.int (Int32.ofNat o)), .val (.int (Int32.ofNat len)), .val .null, .unset] [])) := entry rfl
  have c2 : Steps p.tables e below (s₁.setTop (entryFrame m #[.ref a, .ref b, .int (Int32.ofNat o), .int (Int32.ofNat len), .null] 6)) (s₁.setTop (mkF m 1 #[.val (.ref a), .val (.ref b), .val (.int (Int32.ofNat o)), .val (.int (Int32.ofNat len)), .val .null, .unset] [.ref a])) := c1.trans (by
    refine XS.aloadN X0.here hexec rfl (hb hbytes d0) rfl rfl ?_
    exact Steps.refl _)
  obtain ⟨T3, X3, q3, st3⟩ := X0.oinit hexec hown (wks W (objW "java/lang/String" 1)) (g := (mkF m 1 #[.val (.ref a), .val (.ref b), .val (.int (Int32.ofNat o)), .val (.int (Int32.ofNat len)), .val .null, .unset] [.ref a])) rfl (by rw [hml]; rfl) (rest := []) rfl (hb hbytes d1) (W := 0) (by show 2 * 0 + 0 ≤ _; decide) (Nat.le_of_ble_eq_true rfl) (Nat.le_of_ble_eq_true rfl)
  have hh3 := q3.trans hh0
  have c4 : Steps p.tables e below (s₁.setTop (entryFrame m #[.ref a, .ref b, .int (Int32.ofNat o), .int (Int32.ofNat len), .null] 6)) (T3.setTop (mkF m 27 #[.val (.ref a), .val (.ref b), .val (.int (Int32.ofNat o)), .val (.int (Int32.ofNat len)), .val .null, .unset] [])) := (c2.trans (st3 _ (Steps.refl _))).trans (by
    refine XS.iloadN X3.here hexec rfl (hb hbytes d4) rfl ?_
    refine XS.ifYes X3.here hexec rfl (pc0 := 5) rfl (hb hbytes d5) rfl (i0_ne_t (nz32 (by omega) l0)) (by decide) rfl ?_
    exact Steps.refl _)
  obtain ⟨T5, X5, q5, st5⟩ := X3.sget hexec hown (wk W (.fieldLink "java/lang/String" 38 "java/lang/String" "COMPACT_STRINGS" "Z")) s1 (fun _ _ h => by rw [hh3]; exact h) (g := (mkF m 27 #[.val (.ref a), .val (.ref b), .val (.int (Int32.ofNat o)), .val (.int (Int32.ofNat len)), .val .null, .unset] [])) rfl (hb hbytes d27)
  have hh5 := q5.trans hh3
  have c6 : Steps p.tables e below (s₁.setTop (entryFrame m #[.ref a, .ref b, .int (Int32.ofNat o), .int (Int32.ofNat len), .null] 6)) (T5.setTop (mkF m 30 #[.val (.ref a), .val (.ref b), .val (.int (Int32.ofNat o)), .val (.int (Int32.ofNat len)), .val .null, .unset] [.int z])) := c4.trans (st5 _ (Steps.refl _))
  have c7 : Steps p.tables e below (s₁.setTop (entryFrame m #[.ref a, .ref b, .int (Int32.ofNat o), .int (Int32.ofNat len), .null] 6)) (T5.setTop (mkF m 36 #[.val (.ref a), .val (.ref b), .val (.int (Int32.ofNat o)), .val (.int (Int32.ofNat len)), .val .null, .unset] [.int (Int32.ofNat len), .int (Int32.ofNat o), .ref b])) := c6.trans (by
    refine XS.ifNo X5.here hexec rfl (hb hbytes d30) rfl (i0_eq_f hz) ?_
    refine XS.aloadN X5.here hexec rfl (hb hbytes d33) rfl rfl ?_
    refine XS.iloadN X5.here hexec rfl (hb hbytes d34) rfl ?_
    refine XS.iloadN X5.here hexec rfl (hb hbytes d35) rfl ?_
    exact Steps.refl _)
  obtain ⟨v8, T8, X8, E8, g8⟩ := X5.callS hexec (Cmp3.law l b A o len) hown (wks W (staticW "java/lang/String" 177 Cmp3.yN)) (wk W Cmp3.tab) (W := 0) (Nat.le_of_ble_eq_true rfl) (Nat.le_of_ble_eq_true rfl) (Nat.le_refl _) (by show 0 + len ≤ len; omega) (g := (mkF m 36 #[.val (.ref a), .val (.ref b), .val (.int (Int32.ofNat o)), .val (.int (Int32.ofNat len)), .val .null, .unset] [.int (Int32.ofNat len), .int (Int32.ofNat o), .ref b])) rfl (by rw [hml]; rfl) c7 (argsL := [.ref b, .int (Int32.ofNat o), .int (Int32.ofNat len)]) (rest := []) rfl rfl (by show 2 * 0 + 0 ≤ _; decide) (hb hbytes d36) (⟨rfl, hA.mv X5.warmed.alike hh5, l1, l2, hp⟩)
  obtain ⟨e8, z8⟩ := E8
  obtain ⟨rfl, N, n1, n2, n3, n4, n5, n6⟩ := NewArr.mv _ T5 s _ _ hh5.symm (Vm.Alike.refl _) rfl e8
  rw [hh5] at z8
  have hB1 := hB.keep X8.warmed.alike (n6 _ _ hB.1)
  have hne : s.heap.size ≠ a := (Nat.ne_of_lt (Array.getElem?_eq_some_iff.mp hB.1).1).symm
  have c9 : Steps p.tables e below (s₁.setTop (entryFrame m #[.ref a, .ref b, .int (Int32.ofNat o), .int (Int32.ofNat len), .null] 6)) (T8.setTop (mkF m 39 #[.val (.ref a), .val (.ref b), .val (.int (Int32.ofNat o)), .val (.int (Int32.ofNat len)), .val .null, .unset] [.ref s.heap.size])) := g8
  have c10 : Steps p.tables e below (s₁.setTop (entryFrame m #[.ref a, .ref b, .int (Int32.ofNat o), .int (Int32.ofNat len), .null] 6)) (T8.setTop (mkF m 45 #[.val (.ref a), .val (.ref b), .val (.int (Int32.ofNat o)), .val (.int (Int32.ofNat len)), .val .null, .val (.ref s.heap.size)] [.int (Int32.ofNat N.slots.size), .ref s.heap.size, .ref a])) := by
    have hc : Steps p.tables e below (s₁.setTop (entryFrame m #[.ref a, .ref b, .int (Int32.ofNat o), .int (Int32.ofNat len), .null] 6)) (T8.setTop (mkF m 45 #[.val (.ref a), .val (.ref b), .val (.int (Int32.ofNat o)), .val (.int (Int32.ofNat len)), .val .null, .val (.ref s.heap.size)] [.int (Int32.ofNat len), .ref s.heap.size, .ref a])) := c9.trans (by
      refine XS.astore X8.here hexec rfl (hb hbytes d39) rfl rfl rfl ?_
      refine XS.aloadN X8.here hexec rfl (hb hbytes d41) rfl rfl ?_
      refine XS.aload X8.here hexec rfl (hb hbytes d42) rfl rfl ?_
      refine XS.iloadN X8.here hexec rfl (hb hbytes d44) rfl ?_
      exact Steps.refl _)
    rw [n4]; exact hc
  obtain ⟨v11, T11, X11, E11, g11⟩ := X8.callS hexec (CodL.law l s.heap.size N) hown (wks W (staticW "java/lang/String" 47 CodL.yN)) (wk W CodL.tab) (W := 1) (Nat.le_of_ble_eq_true rfl) (Nat.le_of_ble_eq_true rfl) (Nat.le_refl _) (by show 0 + len + 0 ≤ len; omega) (g := (mkF m 45 #[.val (.ref a), .val (.ref b), .val (.int (Int32.ofNat o)), .val (.int (Int32.ofNat len)), .val .null, .val (.ref s.heap.size)] [.int (Int32.ofNat N.slots.size), .ref s.heap.size, .ref a])) rfl (by rw [hml]; rfl) c10 (argsL := [.ref s.heap.size, .int (Int32.ofNat N.slots.size)]) (rest := [.ref a]) rfl rfl (by show 2 * 0 + (1 + 0) ≤ _; decide) (hb hbytes d45) (⟨rfl, n1⟩)
  obtain ⟨rfl, q11⟩ := E11
  have hB11 := hB1.mv (X8.warmed.alike.symm.trans X11.warmed.alike) q11
  have c12 : Steps p.tables e below (s₁.setTop (entryFrame m #[.ref a, .ref b, .int (Int32.ofNat o), .int (Int32.ofNat len), .null] 6)) (T11.setTop (mkF m 48 #[.val (.ref a), .val (.ref b), .val (.int (Int32.ofNat o)), .val (.int (Int32.ofNat len)), .val .null, .val (.ref s.heap.size)] [.int 0, .ref a])) := g11
  obtain ⟨T13, X13, p13, bl13, sl13, st13⟩ := X11.finit hexec hown (wk W (.fieldLink "java/lang/String" 15 "java/lang/String" "coder" "B")) (Or.inr ⟨_, (wk W (.laysFinal "java/lang/String" "java/lang/String" "coder" "B"))⟩) (Or.inl ⟨rfl, hnm⟩) f2 (Or.inl rfl) hB11 (t := .byte) (by decide +kernel) rfl (g := (mkF m 48 #[.val (.ref a), .val (.ref b), .val (.int (Int32.ofNat o)), .val (.int (Int32.ofNat len)), .val .null, .val (.ref s.heap.size)] [.int 0, .ref a])) rfl (rest := []) rfl (hb hbytes d48)
  have c14 : Steps p.tables e below (s₁.setTop (entryFrame m #[.ref a, .ref b, .int (Int32.ofNat o), .int (Int32.ofNat len), .null] 6)) (T13.setTop (mkF m 54 #[.val (.ref a), .val (.ref b), .val (.int (Int32.ofNat o)), .val (.int (Int32.ofNat len)), .val .null, .val (.ref s.heap.size)] [.ref s.heap.size, .ref a])) := (c12.trans (st13 _ (Steps.refl _))).trans (by
    refine XS.aloadN X13.here hexec rfl (hb hbytes d51) rfl rfl ?_
    refine XS.aload X13.here hexec rfl (hb hbytes d52) rfl rfl ?_
    exact Steps.refl _)
  obtain ⟨T15, X15, p15, bl15, sl15, st15⟩ := X13.finit hexec hown (wk W (.fieldLink "java/lang/String" 9 "java/lang/String" "value" "[B")) (Or.inr ⟨_, (wk W (.laysFinal "java/lang/String" "java/lang/String" "value" "[B"))⟩) (Or.inl ⟨rfl, hnm⟩) f1 (Or.inl rfl) bl13 (t := (.array .byte)) (by decide +kernel) rfl (g := (mkF m 54 #[.val (.ref a), .val (.ref b), .val (.int (Int32.ofNat o)), .val (.int (Int32.ofNat len)), .val .null, .val (.ref s.heap.size)] [.ref s.heap.size, .ref a])) rfl (rest := []) rfl (hb hbytes d54)
  have c16 : Steps p.tables e below (s₁.setTop (entryFrame m #[.ref a, .ref b, .int (Int32.ofNat o), .int (Int32.ofNat len), .null] 6)) (T15.setTop (mkF m 57 #[.val (.ref a), .val (.ref b), .val (.int (Int32.ofNat o)), .val (.int (Int32.ofNat len)), .val .null, .val (.ref s.heap.size)] [])) := c14.trans (st15 _ (Steps.refl _))
  have ap := apart (Or.inr ⟨_, (wk W (.laysFinal "java/lang/String" "java/lang/String" "value" "[B"))⟩) (Or.inr ⟨_, (wk W (.laysFinal "java/lang/String" "java/lang/String" "coder" "B"))⟩) f1 f2 (t₁ := .array .byte) (t₂ := .byte) (by decide +kernel) (by decide +kernel) (by decide)
  have al := X8.warmed.alike.symm.trans X15.warmed.alike
  have n7 : T11.heap[s.heap.size]? = some N := by rw [q11]; exact n1.1
  exact ⟨T15, none, _, _, _, X15, by simp, rfl, by omega, (fun _ => rfl), ⟨rfl, _, N, bl15, ((Same.refl D _).set _ (by simp)).set _ (by simp), sl15, (Cell.slots_setSlot_ne _ ap).trans sl13, n1.keep al (p15.other hne (p13.other hne n7)), n2, by rw [al.findClass]; exact n3, n4, n5, fun y c h1 h2 => p15.other h1 (p13.other h1 (by rw [q11]; exact n6 y c h2)), by rw [p15.2.2, p13.2.2, q11]; exact z8⟩, fun fs hl => c16.trans (X15.returnOut hexec hret (hb hbytes d57) hl)⟩
end New4
namespace New1
def yN : MethodName := ⟨"java/lang/String", "<init>", "([C)V"⟩
abbrev yB : ByteArray := jdk_42_method_3_code
theorem d0 : decode yB 0 = .ok (.aload_n 0, 1) := by decide +kernel
theorem d1 : decode yB 1 = .ok (.aload_n 1, 1) := by decide +kernel
theorem d2 : decode yB 2 = .ok (.iconst 0, 1) := by decide +kernel
theorem d3 : decode yB 3 = .ok (.aload_n 1, 1) := by decide +kernel
theorem d4 : decode yB 4 = .ok (.arraylength, 1) := by decide +kernel
theorem d5 : decode yB 5 = .ok (.aconst_null, 1) := by decide +kernel
theorem d6 : decode yB 6 = .ok (.invokespecial 27, 3) := by decide +kernel
theorem d9 : decode yB 9 = .ok (.return_, 1) := by decide +kernel
def site : List Cond := [New4.tab] ++ initW "java/lang/String" 27 New4.yN
def tab : Cond := tabOf yN yB 2 none site
def P (a : Addr) (D : Cell) (fV fC : Field) (b : Addr) (A : Cell) (z : Int32) (args : Array Value) (s : State) : Prop := args = #[.ref a, .ref b] ∧ Blank "java/lang/String" a D s ∧ Found "java/lang/String" "value" "[B" fV s ∧ Found "java/lang/String" "coder" "B" fC s ∧ Ch b A s ∧ StaticIs s "java/lang/String" "COMPACT_STRINGS" "Z" (.int z) ∧ ¬ z = 0 ∧ 0 < A.slots.size ∧ A.slots.size ≤ 536870912 ∧ ∀ i, i < A.slots.size → ¬ 255 < cv A i
def E (a : Addr) (D : Cell) (fV fC : Field) (A : Cell) (r : Option Value) (s u : State) : Prop := Got a D fV fC A 0 A.slots.size r s u
/-- new String(chars), not empty, no char above 255: a Latin-1 String of their low bytes -/
theorem law (l : Launch) (a : Addr) (D : Cell) (fV fC : Field) (b : Addr) (A : Cell) (z : Int32) : Law l yN 2 1 3 52 yB 2 none site (P a D fV fC b A z) (E a D fV fC A) [⟨a, fC.slot⟩, ⟨a, fV.slot⟩] 1 A.slots.size := by
  refine Law.of_walk (plainFor_of_name (by decide +kernel)) (by decide +kernel) (by decide +kernel) (by decide) (fun _ _ h => by rw [h.1]; rfl) (fun _ U U' hal hh h => ⟨h.1, h.2.1.mv hal hh, h.2.2.1.al hal, h.2.2.2.1.al hal, h.2.2.2.2.1.mv hal hh, h.2.2.2.2.2.1.there hal hh, h.2.2.2.2.2.2⟩) (fun r U U' V V' h1 hal h2 h => Got.mv r U U' V V' h1 hal h2 h) ?_
  intro p e s m args below meth c s₁ X0 hexec hbytes hml hret hlk hnm hown hh0 W hP
  obtain ⟨rfl, hB, f1, f2, hA, s1, hz, l0, l2, hp⟩ := hP
  have c1 : Steps p.tables e below (s₁.setTop (entryFrame m #[.ref a, .ref b] 2)) (s₁.setTop (mkF m 0 #[.val (.ref a), .val (.ref b)] [])) := entry rfl
  have c2 : Steps p.tables e below (s₁.setTop (entryFrame m #[.ref a, .ref b] 2)) (s₁.setTop (mkF m 6 #[.val (.ref a), .val (.ref b)] [.null, .int (Int32.ofNat A.slots.size), .int 0, .ref b, .ref a])) := c1.trans (by
    refine XS.aloadN X0.here hexec rfl (hb hbytes d0) rfl rfl ?_
    refine XS.aloadN X0.here hexec rfl (hb hbytes d1) rfl rfl ?_
    refine iconstV X0.here hexec rfl 0 (hb hbytes d2) (by decide) ?_
    refine XS.aloadN X0.here hexec rfl (hb hbytes d3) rfl rfl ?_
    refine X0.alen hexec (hA.1.mv X0.warmed.alike hh0) rfl rfl (hb hbytes d4) ?_
    refine XS.aconstNull X0.here hexec rfl (hb hbytes d5) ?_
    exact Steps.refl _)
  obtain ⟨v3, T3, X3, E3, g3⟩ := X0.callN hexec (New4.law l a D fV fC b A z 0 A.slots.size) rfl hown (wks W (initW "java/lang/String" 27 New4.yN)) (W New4.tab (by simp only [site, List.mem_cons, List.mem_append, true_or, or_true])) (W := 0) (Nat.le_of_ble_eq_true rfl) (Nat.le_of_ble_eq_true rfl) (Nat.le_refl _) (by show 0 + A.slots.size ≤ A.slots.size; omega) (g := (mkF m 6 #[.val (.ref a), .val (.ref b)] [.null, .int (Int32.ofNat A.slots.size), .int (Int32.ofNat 0), .ref b, .ref a])) rfl (by rw [hml]; rfl) c2 (argsL := [.ref b, .int (Int32.ofNat 0), .int (Int32.ofNat A.slots.size), .null]) (rest := []) rfl rfl (by show 2 * 0 + 0 ≤ _; decide) (hb hbytes d6) (⟨rfl, hB.mv X0.warmed.alike hh0, f1.al X0.warmed.alike, f2.al X0.warmed.alike, hA.mv X0.warmed.alike hh0, s1.there X0.warmed.alike hh0, hz, l0, by omega, l2, fun i hi => by rw [Nat.zero_add]; exact hp i hi⟩)
  have e0 := Got.mv _ s₁ s _ _ hh0.symm (Vm.Alike.refl _) rfl E3
  obtain rfl := e0.1
  have c4 : Steps p.tables e below (s₁.setTop (entryFrame m #[.ref a, .ref b] 2)) (T3.setTop (mkF m 9 #[.val (.ref a), .val (.ref b)] [])) := g3
  exact ⟨T3, none, _, _, _, X3, by simp, rfl, by omega, (fun _ => rfl), e0, fun fs hl => c4.trans (X3.returnOut hexec hret (hb hbytes d9) hl)⟩
theorem pays {l : Launch} {R : Room} {p : Program} {e : Env} {below : List Frame} {s : State} {sargs : Array Value} {len W : Nat} (a : Addr) (D : Cell) (fV fC : Field) (b : Addr) (A : Cell) (z : Int32) (htab : tab.before sargs s = true) (hfr : 4 ≤ R.frames) (hlo : W + 65 ≤ R.locals) :
    Back l R p e below s sargs yN len W (fun A₁ a₁ => A₁.cells + 1 ≤ R.cells ∧ A₁.slots + A.slots.size ≤ R.slots ∧ P a D fV fC b A z a₁ A₁.U) (fun A₁ _ v₁ B₁ => E a D fV fC A v₁ A₁.U B₁.U ∧ B₁.locs = A₁.locs ++ [⟨a, fC.slot⟩, ⟨a, fV.slot⟩] ∧ B₁.cells = A₁.cells + 1 ∧ B₁.slots = A₁.slots + A.slots.size) :=
  (law l a D fV fC b A z).pays htab hfr (by omega)
end New1
/-- the byte, read back as charAt reads it, is the char -/
theorem lo8_mask {x : Int32} (h0 : ¬ x < 0) (h1 : ¬ 255 < x) : lo8 x &&& 255 = x := by
  have t : ∀ k : Fin 256, lo8 (Int32.ofNat k.val) &&& 255 = Int32.ofNat k.val := by decide +kernel
  rw [Int32.lt_iff_toInt_lt] at h0 h1
  have e0 : (0 : Int32).toInt = 0 := rfl
  have e1 : (255 : Int32).toInt = 255 := rfl
  obtain ⟨k, hk⟩ : ∃ k : Nat, x.toInt = k := ⟨x.toInt.toNat, by omega⟩
  have hx : x = Int32.ofNat k := Int32.toInt_inj.mp (by rw [hk, Int32.toInt_ofNat_small (by omega)])
  rw [hx]
  exact t ⟨k, by omega⟩
end StrChars
namespace StrChars.Road
open Jvm Sem ClassFile Op Lib Jvm.Stand Jvm.Free Jvm.Free.XT
open Jvm.Lib.Cold (StaticIs)
abbrev ST : String := "java/lang/String"
/-- every table word that New1's law asks, flat -/
abbrev words : List Jvm.Cond := [.code New1.yN New1.yB 2 none, .initialized ST, .methodLink ST 27 New4.yN, .instanceMethod New4.yN,
  .code New4.yN New4.yB 6 none, .fieldLink ST 38 ST "COMPACT_STRINGS" "Z", .laysFinal ST ST "value" "[B", .fieldLink ST 9 ST "value" "[B", .laysFinal ST ST "coder" "B", .fieldLink ST 15 ST "coder" "B",
  .methodLink ST 1 Lib.objectInit, .instanceMethod Lib.objectInit, .code Lib.objectInit ⟨#[0xb1]⟩ 1 none, .methodLink ST 177 Cmp3.yN, .static Cmp3.yN, .methodLink ST 47 CodL.yN, .static CodL.yN,
  .code Cmp3.yN Cmp3.yB 6 (some (.array .byte)), .initialized U16, .arrayClass .byte, .methodLink U16 115 Cmp5.yN, .static Cmp5.yN, .code Cmp5.yN Cmp5.yB 7 (some .int), .code CodL.yN CodL.yB 2 (some .byte)]
theorem tab_of {a : Array Value} {s : State} (h : ∀ w ∈ words, w.before a s = true) : New1.tab.before a s = true := by
  have h5 : Cmp5.tab.before a s = true := unparts (wk h (.code Cmp5.yN Cmp5.yB 7 (some .int))) (wks h (.initialized Cmp5.yN.cls :: Cmp5.site))
  have hc : CodL.tab.before a s = true := unparts (wk h (.code CodL.yN CodL.yB 2 (some .byte))) (wks h (.initialized CodL.yN.cls :: CodL.site))
  have q5 : ∀ w ∈ Cmp5.tab :: words, w.before a s = true := fun w hw => (List.mem_cons.mp hw).elim (fun e => e ▸ h5) (h w)
  have h3 : Cmp3.tab.before a s = true := unparts (wk q5 (.code Cmp3.yN Cmp3.yB 6 (some (.array .byte)))) (wks q5 (.initialized Cmp3.yN.cls :: Cmp3.site))
  have q3 : ∀ w ∈ Cmp3.tab :: CodL.tab :: words, w.before a s = true := fun w hw => (List.mem_cons.mp hw).elim (fun e => e ▸ h3) fun hw => (List.mem_cons.mp hw).elim (fun e => e ▸ hc) (h w)
  have h4 : New4.tab.before a s = true := unparts (wk q3 (.code New4.yN New4.yB 6 none)) (wks q3 (.initialized New4.yN.cls :: New4.site))
  have q4 : ∀ w ∈ New4.tab :: words, w.before a s = true := fun w hw => (List.mem_cons.mp hw).elim (fun e => e ▸ h4) (h w)
  exact unparts (wk q4 (.code New1.yN New1.yB 2 none)) (wks q4 (.initialized New1.yN.cls :: New1.site))
/-- the words ride from the start Z to the walk's own state -/
theorem moved {Z s : State} {a0 args : Array Value} (hZ : Z.Warmed39 s.vm) (hw : ∀ d ∈ words, d.before a0 Z = true) : ∀ d ∈ words, d.before args s = true := fun d hd => by
  have q := hw d hd
  have t : ∀ d ∈ words, d = .arrayClass .byte ∨ (d.onTables && d.keepsFace) = true := by decide +kernel
  rcases t d hd with rfl | t
  · exact RoadKit.mvA hZ q
  · exact RoadKit.mv hZ q t
/-- WHAT COMES BACK, over the tables of the start Z: h the heap at the call, h' behind it -/
def Q (Z : State) (x : Addr) (A : Cell) (h : Heap) (v : Option Value) (h' : Heap) (L : List Loc) : Prop := v = none ∧ (∀ y ∈ L, y.base = x) ∧ RoadKit.Keep h h' [x] ∧ h'.size = h.size + 1 ∧ RoadKit.Exa Z h' x ST ∧ RoadKit.Fld Z h' x ST "value" "[B" (.ref h.size) ∧ RoadKit.Fld Z h' x ST "coder" "B" (.int 0) ∧
  (∃ V : Cell, RoadKit.Arr Z h' h.size V .byte ∧ V.vm = .none ∧ Z.vm.findClass "[B" = some V.cls ∧ V.slots.size = A.slots.size ∧ ∀ j, j < A.slots.size → V.slots[j]? = some (.int (lo8 (cv A j)))) ∧
  ∀ (O n d : String) (w : Value), RoadKit.Fld Z h x O n d w → RoadKit.slotOf Z O n d ≠ RoadKit.slotOf Z ST "value" "[B" → RoadKit.slotOf Z O n d ≠ RoadKit.slotOf Z ST "coder" "B" → RoadKit.Fld Z h' x O n d w
/-- **new String(chars) AT A CALL, IN THE ROAD'S FORM**: for specialBack behind newO: x the fresh String, b the char[] with the cell A -/
theorem back {p : Program} {l : Launch} {e : Env} {R : Room} {s : State} {args : Array Value} {below : List Frame} {len W : Nat} {Z : State} {a0 : Array Value} {h : Heap} (hZ : Z.Warmed39 s.vm) (hw : ∀ d ∈ words, d.before a0 Z = true) {kI : Nat} (wi : (Jvm.Cond.instantiable ST kI).before a0 Z = true)
    {x b : Addr} {A : Cell} {z : Int32} {v0 c0 : Value} (E : RoadKit.Exa Z h x ST) (V : RoadKit.Fld Z h x ST "value" "[B" v0) (C : RoadKit.Fld Z h x ST "coder" "B" c0) (K : RoadKit.Arr Z h b A .char) (hty : Typed .char A) (S : RoadKit.Sta Z h ST "COMPACT_STRINGS" "Z" (.int z)) (hz : ¬ z = 0)
    (l0 : 0 < A.slots.size) (l2 : A.slots.size ≤ 536870912) (hp : ∀ i, i < A.slots.size → ¬ 255 < cv A i) (hfr : 4 ≤ R.frames) (hlo : W + 65 ≤ R.locals) :
    Back l R p e below s args New1.yN len W (fun P a => a = #[.ref x, .ref b] ∧ P.U.heap = h ∧ P.cells + 1 ≤ R.cells ∧ P.slots + A.slots.size ≤ R.slots)
      (fun P _ v B => ∃ L, Q Z x A h v B.U.heap L ∧ B.locs = P.locs ++ L ∧ B.cells = P.cells + 1 ∧ B.slots = P.slots + A.slots.size) := by
  intro m meth c P g ig mk a X hg hsize hdg hW hn hp'
  obtain ⟨rfl, rfl, r1, r2⟩ := hp'
  have al : Z.vm.Alike P.U.vm := hZ.alike.trans X.warmed.alike
  obtain ⟨D, cfV, kV, iV, fV, hD, gV, stV, knV, obV, asV, slV⟩ := id V
  obtain ⟨D', cfC, kC, iC, fC, hD', gC, stC, -, -, asC, slC⟩ := id C
  cases hD.symm.trans hD'
  obtain ⟨D2, kD, e1, e2, e3, e4, e5⟩ := id E
  cases hD.symm.trans e1
  obtain ⟨c2, k2, i1, i2, i3, -⟩ := Cond.instantiable_spec wi
  cases e2.symm.trans i1
  cases e3.symm.trans i2
  obtain ⟨kU, u1, u2⟩ := al.2.2 _ _ e3
  have hB : Blank ST x D P.U := ⟨hD, ⟨knV, fun q hq => by rw [hq] at obV; cases obV⟩, by rw [al.findClass]; exact e2, kU, u1, by rw [u2]; exact i3, by rw [u2]; exact e5 i3⟩
  have F1 : Found ST "value" "[B" fV P.U := ⟨SBG.found_only al ⟨cfV, kV, iV, gV⟩, stV⟩
  have F2 : Found ST "coder" "B" fC P.U := ⟨SBG.found_only al ⟨cfC, kC, iC, gC⟩, stC⟩
  have hA : Ch b A P.U := ⟨⟨K.1, State.isArrayOf_alike al K.2.1, K.2.2, by omega⟩, hty⟩
  have hS : StaticIs P.U ST "COMPACT_STRINGS" "Z" (.int z) := by
    obtain ⟨cfS, iS, kS, fS, st, cS, t1, t2, t3, t4, t5, t6, t7⟩ := S
    exact StaticIs.there (s := { Z with heap := P.U.heap }) ⟨cfS, iS, kS, fS, st, cS, t1, t2, t3, t4, t5, (fun q => by rw [q] at t6; cases t6), t7⟩ al rfl
  obtain ⟨v, B, X', ⟨⟨hv, E', V', q1, q2, q3, q4, q5, q6, q7, q8, q9, q10, q11⟩, hl, hc, hs⟩, st⟩ := New1.pays x D fV fC b A z (tab_of (moved hZ hw)) hfr hlo m meth c P g ig mk _ X hg hsize hdg hW hn ⟨r1, r2, rfl, hB, F1, F2, hA, hS, hz, l0, l2, hp⟩
  have al' : Z.vm.Alike B.U.vm := hZ.alike.trans X'.warmed.alike
  have hsz : E'.slots.size = D.slots.size := by
    obtain ⟨-, -, -, kB, w1, w2, w3⟩ := q1
    obtain ⟨kB', y1, y2⟩ := al'.2.2 _ _ e3
    rw [q2.2.1] at w1
    cases w1.symm.trans y1
    rw [w3, e5 i3, y2]
  refine ⟨v, B, X', ⟨_, ⟨hv, ?_, ⟨by omega, fun y cy hy hn' => q10 y cy (by simpa using hn') hy, fun y cy hy => ?_⟩, q11, ⟨E', _, q1.1, by rw [q2.2.1]; exact e2, by rw [q2.2.1]; exact e3, by rw [q2.1]; exact obV, fun _ => by rw [hsz]; exact e5 i3⟩,
    ⟨E', cfV, kV, iV, fV, q1.1, gV, stV, by rw [q2.1]; exact knV, by rw [q2.1]; exact obV, by rw [q2.2.1]; exact asV, q3⟩, ⟨E', cfC, kC, iC, fC, q1.1, gC, stC, by rw [q2.1]; exact knV, by rw [q2.1]; exact obV, by rw [q2.2.1]; exact asC, q4⟩,
    ⟨V', ⟨q5.1, State.isArrayOf_alike al'.symm q5.2.1, q5.2.2.1⟩, q6, by rw [← al'.findClass]; exact q7, q8, fun j hj => by have := q9 j hj; rwa [Nat.zero_add] at this⟩, fun O n d w F n1 n2 => ?_⟩, hl, hc, hs⟩, st⟩
  · intro y hy
    simp only [List.mem_cons, List.not_mem_nil, or_false] at hy
    rcases hy with rfl | rfl <;> rfl
  · by_cases q : y = x
    · subst q
      cases hD.symm.trans hy
      exact ⟨E', q1.1, q2.2.1, q2.1, hsz⟩
    · exact ⟨cy, q10 y cy q hy, rfl, rfl, rfl⟩
  · obtain ⟨D3, cf, k, i, f, g1, g2, g3, g4, g5, g6, g7⟩ := F
    cases hD.symm.trans g1
    simp only [RoadKit.slotOf, g2, gV, gC, Option.map_some, Option.getD_some] at n1 n2
    exact ⟨E', cf, k, i, f, q1.1, g2, g3, by rw [q2.1]; exact g4, by rw [q2.1]; exact g5, by rw [q2.2.1]; exact g6, by rw [q2.2.2 f.slot (by simp [n1, n2])]; exact g7⟩
end StrChars.Road
namespace StrChars.Road
open Jvm Sem ClassFile Op Lib Jvm.Stand Jvm.Free Jvm.Free.XT
/-- WHAT COMES BACK, the byte[] as a list of values -/
def QA (Z : State) (x : Addr) (zn : Int32) (cs : List Int32) (h : Heap) (v : Option Value) (h' : Heap) (L : List Loc) : Prop := v = none ∧ (∀ y ∈ L, y.base = x) ∧ RoadKit.Keep h h' [x] ∧ h'.size = h.size + 1 ∧ RoadKit.Exa Z h' x ST ∧ RoadKit.Fld Z h' x ST "value" "[B" (.ref h.size) ∧ RoadKit.Fld Z h' x ST "coder" "B" (.int 0) ∧
  (∃ kb, Z.vm.findClass "[B" = some kb ∧ RoadKit.Arv Z h' h.size kb .byte zn (cs.map fun c => .int (lo8 c)) (.int 0)) ∧
  ∀ (O n d : String) (w : Value), RoadKit.Fld Z h x O n d w → RoadKit.slotOf Z O n d ≠ RoadKit.slotOf Z ST "value" "[B" → RoadKit.slotOf Z O n d ≠ RoadKit.slotOf Z ST "coder" "B" → RoadKit.Fld Z h' x O n d w
/-- **new String(chars) AT A CALL, THE ARRAYS AS LISTS**: the char[] at b holds cs, not empty, no char above 255 -/
theorem backArv {p : Program} {l : Launch} {e : Env} {R : Room} {s : State} {args : Array Value} {below : List Frame} {len W : Nat} {Z : State} {a0 : Array Value} {h : Heap} (hZ : Z.Warmed39 s.vm) (hw : ∀ d ∈ words, d.before a0 Z = true) {kI : Nat} (wi : (Jvm.Cond.instantiable ST kI).before a0 Z = true)
    {x b : Addr} {k : ClassId} {zn z : Int32} {cs : List Int32} {dv v0 c0 : Value} (E : RoadKit.Exa Z h x ST) (V : RoadKit.Fld Z h x ST "value" "[B" v0) (C : RoadKit.Fld Z h x ST "coder" "B" c0) (K : RoadKit.Arv Z h b k .char zn (cs.map Value.int) dv) (S : RoadKit.Sta Z h ST "COMPACT_STRINGS" "Z" (.int z)) (hz : ¬ z = 0)
    (hlen : zn.toNatClampNeg = cs.length) (h0 : 0 < cs.length) (hbig : cs.length ≤ 536870912) (hall : ∀ c ∈ cs, ¬ 255 < c) (hfr : 4 ≤ R.frames) (hlo : W + 65 ≤ R.locals) :
    Back l R p e below s args New1.yN len W (fun P a => a = #[.ref x, .ref b] ∧ P.U.heap = h ∧ P.cells + 1 ≤ R.cells ∧ P.slots + cs.length ≤ R.slots)
      (fun P _ v B => ∃ L, QA Z x zn cs h v B.U.heap L ∧ B.locs = P.locs ++ L ∧ B.cells = P.cells + 1 ∧ B.slots = P.slots + cs.length) := by
  obtain ⟨A, K1, K2, K3, K4, K5, K6⟩ := K
  have e : A.slots.size = cs.length := K3.trans hlen
  have hat : ∀ (i : Nat) (hi : i < cs.length), A.slots[i]? = some (.int cs[i]) := fun i hi => by rw [K5 i (by omega)]; simp [List.getD_eq_getElem?_getD, hi]
  have hcv : ∀ (i : Nat) (hi : i < cs.length), cv A i = cs[i] := fun i hi => by unfold cv; rw [hat i hi]
  have hty : Typed .char A := fun i v hv => by
    have hi : i < A.slots.size := (Array.getElem?_eq_some_iff.mp hv).1
    have q := K5 i hi
    rw [hv] at q
    rw [Option.some.inj q]
    exact K6 i hi
  refine Back.mono (back hZ hw wi E V C K1 hty S hz (by omega) (by omega) (fun i hi => by rw [hcv i (by omega)]; exact hall _ (List.getElem_mem _)) hfr hlo) (fun P a hp => ⟨hp.1, hp.2.1, hp.2.2.1, by rw [e]; exact hp.2.2.2⟩) (fun P a v B hp hq => ?_)
  obtain ⟨L, ⟨q1, q2, q3, q4, q5, q6, q7, ⟨V', v1, v2, v3, v4, v5⟩, q9⟩, hl, hc, hs⟩ := hq
  refine ⟨L, ⟨q1, q2, q3, q4, q5, q6, q7, ⟨V'.cls, v3, V', v1, rfl, by rw [v4, e, hlen], K4, fun i hi => ?_, fun i hi => ?_⟩, q9⟩, hl, hc, by rw [hs, e]⟩
  · have hi' : i < cs.length := by omega
    rw [v5 i (by omega), hcv i hi']; simp [List.getD_eq_getElem?_getD, hi']
  · have hi' : i < cs.length := by omega
    simp only [List.getD_eq_getElem?_getD, List.getElem?_map, List.getElem?_eq_getElem hi', Option.map_some, Option.getD_some]
    exact fits_lo8 _
end StrChars.Road
namespace StrChars.Road
open Jvm Sem ClassFile Op Lib Jvm.Stand Jvm.Free Jvm.Free.XT
/-- WHAT COMES BACK, in the writer's own shape -/
def QV (Z : State) (x : Addr) (N : Int32) (bs : List Int32) (h : Heap) (n0 : Nat) (v : Option Value) (h' : Heap) (L : List Loc) : Prop := v = none ∧ RoadKit.Fr n0 L ∧ RoadKit.Keep h h' [x] ∧ RoadKit.Exa Z h' x ST ∧ RoadKit.Fld Z h' x ST "coder" "B" (.int 0) ∧
  ∃ (t : Addr) (kb : ClassId), n0 ≤ t ∧ h.size ≤ t ∧ ¬ t = x ∧ RoadKit.Fld Z h' x ST "value" "[B" (.ref t) ∧ RoadKit.Arv Z h' t kb .byte N (bs.map Value.int) (.int 0)
/-- **new String(chars) AT A CALL, FOR THE WRITER**: a char[] of n known ints, each 0 to 255 -/
theorem backV {p : Program} {l : Launch} {e : Env} {R : Room} {s : State} {args : Array Value} {below : List Frame} {len W : Nat} {Z : State} {a0 : Array Value} {h : Heap} (hZ : Z.Warmed39 s.vm) (hw : ∀ d ∈ words, d.before a0 Z = true) {kI : Nat} (wi : (Jvm.Cond.instantiable ST kI).before a0 Z = true)
    {x b : Addr} {kC : ClassId} {cs bs : List Int32} {d v0 c0 : Value} {z N : Int32} {n n0 : Nat} (hx0 : n0 ≤ x) (hh0 : n0 ≤ h.size) (E : RoadKit.Exa Z h x ST) (V : RoadKit.Fld Z h x ST "value" "[B" v0) (C : RoadKit.Fld Z h x ST "coder" "B" c0) (K : RoadKit.Arv Z h b kC .char N (cs.map Value.int) d) (S : RoadKit.Sta Z h ST "COMPACT_STRINGS" "Z" (.int z)) (hz : ¬ z = 0)
    (hn : cs.length = n) (hN : N = Int32.ofNat n) (l0 : 0 < n) (l2 : n ≤ 4000) (hp : ∀ c ∈ cs, ¬ c < 0 ∧ ¬ (255 : Int32) < c) (hb : bs = cs.map (fun c => c.toInt8.toInt32)) (hfr : 4 ≤ R.frames) (hlo : W + 65 ≤ R.locals) :
    Back l R p e below s args (⟨"java/lang/String", "<init>", "([C)V"⟩ : MethodName) len W (fun P a => a = #[.ref x, .ref b] ∧ P.U.heap = h ∧ P.cells + 1 ≤ R.cells ∧ P.slots + n ≤ R.slots)
      (fun P _ v B => ∃ L, QV Z x N bs h n0 v B.U.heap L ∧ B.locs = P.locs ++ L ∧ B.cells = P.cells + 1 ∧ B.slots = P.slots + n) := by
  subst hn hN hb
  refine Back.mono (backArv hZ hw wi E V C K S hz (n32 (by omega)) l0 (by omega) (fun c hc => (hp c hc).2) hfr hlo) (fun P a hp => hp) (fun P a v B hp hq => ?_)
  obtain ⟨L, ⟨q1, q2, q3, q4, q5, q6, q7, ⟨kb, v1, v2⟩, q9⟩, hl, hc, hs⟩ := hq
  exact ⟨L, ⟨q1, fun y hy => by rw [q2 y hy]; exact hx0, q3, q5, q7, h.size, kb, hh0, Nat.le_refl _, Nat.ne_of_gt E.lt, q6, by rw [List.map_map]; exact v2⟩, hl, hc, hs⟩
end StrChars.Road
namespace StrChars
open Jvm Sem ClassFile Op Lib Jvm.Stand Jvm.Free.XT Jvm.Free.ALB Jvm.Free.JM Jvm.Free
open Jvm.Lib.Cold (StaticIs)
def hi8 (x : Int32) : Int32 := lo8 (x >>> ((8 : Int32) &&& 31))
/-- what StringUTF16.getChar makes of two bytes -/
def pairCh (u v : Int32) : Int32 := (((u &&& 255) <<< ((0 : Int32) &&& 31)) ||| ((v &&& 255) <<< ((8 : Int32) &&& 31))).toUInt32.toUInt16.toUInt32.toInt32
theorem shr0 (c : Int32) : c >>> ((0 : Int32) &&& 31) = c := by
  have e : ((0 : Int32) &&& 31) = 0 := by decide
  rw [e]
  apply Int32.toBitVec_inj.mp
  rw [Int32.toBitVec_shiftRight]
  have e1 : ((0 : Int32).toBitVec.smod 32) = 0#32 := by decide
  rw [e1, BitVec.sshiftRight_eq']
  exact BitVec.sshiftRight_zero
theorem lo8_and (x : Int32) : (lo8 x &&& 255).toBitVec.toNat = x.toBitVec.toNat % 256 := by
  have h : (lo8 x).toBitVec = (x.toBitVec.signExtend 8).signExtend 32 := by rw [lo8, Int8.toBitVec_toInt32, Int32.toBitVec_toInt8]
  rw [Int32.toBitVec_and, BitVec.toNat_and, h]
  have e : ((x.toBitVec.signExtend 8).signExtend 32).toNat % 256 = x.toBitVec.toNat % 256 := by
    rw [BitVec.toNat_signExtend]
    have hlt := x.toBitVec.isLt
    simp only [BitVec.toNat_setWidth, BitVec.toNat_signExtend]
    split <;> split <;> omega
  rw [← e]
  exact Nat.and_two_pow_sub_one_eq_mod _ 8
theorem pair_says {c : Int32} (h0 : ¬ c < 0) (h1 : ¬ 65535 < c) : pairCh (lo8 c) (hi8 c) = c := by
  rw [Int32.lt_iff_toInt_lt] at h0 h1
  have e0 : (0 : Int32).toInt = 0 := rfl
  have e1 : (65535 : Int32).toInt = 65535 := rfl
  have hc : c.toInt = c.toBitVec.toNat := by
    have := c.toBitVec.isLt
    have e : c.toInt = c.toBitVec.toInt := rfl
    rw [e] at h0 h1
    rw [e]
    rw [BitVec.toInt_eq_toNat_cond] at h0 h1 ⊢
    split at h0 <;> split <;> omega
  have hn : c.toBitVec.toNat < 65536 := by omega
  have a1 := lo8_and c
  have a2 : (hi8 c &&& 255).toBitVec.toNat = c.toBitVec.toNat / 256 := by
    rw [hi8, lo8_and]
    have e : ((8 : Int32) &&& 31) = 8 := by decide
    rw [e, Int32.toBitVec_shiftRight]
    have e2 : ((8 : Int32).toBitVec.smod 32) = 8#32 := by decide
    rw [e2, BitVec.sshiftRight_eq', BitVec.toNat_sshiftRight_of_msb_false (by rw [BitVec.msb_eq_false_iff_two_mul_lt]; omega)]
    show c.toBitVec.toNat >>> 8 % 256 = _
    rw [Nat.shiftRight_eq_div_pow]
    omega
  unfold pairCh
  apply Int32.toBitVec_inj.mp
  apply BitVec.eq_of_toNat_eq
  have f0 : ((0 : Int32) &&& 31) = 0 := by decide
  have f8 : ((8 : Int32) &&& 31) = 8 := by decide
  rw [f0, f8]
  have g : (((lo8 c &&& 255) <<< (0 : Int32)) ||| ((hi8 c &&& 255) <<< (8 : Int32))).toBitVec.toNat = c.toBitVec.toNat := by
    rw [Int32.toBitVec_or, Int32.toBitVec_shiftLeft, Int32.toBitVec_shiftLeft]
    have s0 : ((0 : Int32).toBitVec.smod 32) = 0#32 := by decide
    have s8 : ((8 : Int32).toBitVec.smod 32) = 8#32 := by decide
    rw [s0, s8, BitVec.toNat_or]
    simp only [BitVec.shiftLeft_eq', BitVec.toNat_shiftLeft, a1, a2]
    show (c.toBitVec.toNat % 256) <<< 0 % 2 ^ 32 ||| (c.toBitVec.toNat / 256) <<< 8 % 2 ^ 32 = _
    rw [Nat.shiftLeft_zero, Nat.mod_eq_of_lt (show c.toBitVec.toNat % 256 < 2 ^ 32 by omega), Nat.mod_eq_of_lt (show (c.toBitVec.toNat / 256) <<< 8 < 2 ^ 32 by rw [Nat.shiftLeft_eq]; omega), Nat.or_comm, ← Nat.shiftLeft_add_eq_or_of_lt (by omega), Nat.shiftLeft_eq]
    omega
  show BitVec.toNat (((((lo8 c &&& 255) <<< (0 : Int32)) ||| ((hi8 c &&& 255) <<< (8 : Int32))).toBitVec.setWidth 16).setWidth 32) = _
  rw [BitVec.toNat_setWidth, BitVec.toNat_setWidth, g]
  omega
end StrChars
namespace StrChars
open Jvm Sem ClassFile Op Lib Jvm.Stand Jvm.Free.XT Jvm.Free.ALB Jvm.Free.JM Jvm.Free
open Jvm.Lib.Cold (StaticIs)
theorem shr1 {n : Nat} (h : 2 * n < 2 ^ 31) : Int32.ofNat (2 * n) >>> ((1 : Int32) &&& 31) = Int32.ofNat n := by
  have e : ((1 : Int32) &&& 31) = 1 := by decide
  rw [e]
  apply Int32.toBitVec_inj.mp
  rw [Int32.toBitVec_shiftRight]
  have e1 : ((1 : Int32).toBitVec.smod 32) = 1#32 := by decide
  have hm : (BitVec.ofNat 32 (2 * n)).toNat = 2 * n := by rw [BitVec.toNat_ofNat, Nat.mod_eq_of_lt (by omega)]
  rw [e1, BitVec.sshiftRight_eq']
  apply BitVec.eq_of_toNat_eq
  show ((BitVec.ofNat 32 (2 * n)).sshiftRight 1).toNat = (BitVec.ofNat 32 n).toNat
  rw [BitVec.toNat_sshiftRight_of_msb_false (by rw [BitVec.msb_eq_false_iff_two_mul_lt, hm]; omega), hm, BitVec.toNat_ofNat, Nat.shiftRight_eq_div_pow]
  omega
/-- the array's cell V codes the n chars f 0 .. f (n - 1) by the coder cd, as the JDK does: coder 1 just where some char is above 255 -/
def Cod (cd : Int32) (n : Nat) (f : Nat → Int32) (V : Cell) : Prop := (cd = 0 ∧ V.slots.size = n ∧ ∀ j, j < n → V.slots[j]? = some (.int (lo8 (f j))) ∧ ¬ 255 < f j) ∨ (cd = 1 ∧ V.slots.size = 2 * n ∧ (∀ j, j < n → V.slots[2 * j]? = some (.int (lo8 (f j))) ∧ V.slots[2 * j + 1]? = some (.int (hi8 (f j)))) ∧ ∃ j, j < n ∧ 255 < f j)
theorem Cod.cd {cd : Int32} {n : Nat} {f : Nat → Int32} {V : Cell} (h : Cod cd n f V) : cd = 0 ∨ cd = 1 := h.imp (fun q => q.1) fun q => q.1
theorem Cod.len {cd : Int32} {n : Nat} {f : Nat → Int32} {V : Cell} (h : Cod cd n f V) (hs : V.slots.size < 2 ^ 31) : Int32.ofNat V.slots.size >>> (cd &&& 31) = Int32.ofNat n := by
  rcases h with ⟨rfl, h, -⟩ | ⟨rfl, h, -⟩
  · rw [shr0, h]
  · rw [h, shr1 (by omega)]
/-- **x is a String of the n chars f 0 .. f (n - 1)**, Latin-1 or UTF-16; its array at t has the cell V -/
def Txt (x t : Addr) (V : Cell) (cd : Int32) (n : Nat) (f : Nat → Int32) (U : State) : Prop := Exact "java/lang/String" x U ∧ Has x "java/lang/String" "value" "[B" (.ref t) U ∧ Has x "java/lang/String" "coder" "B" (.int cd) U ∧ XT.Arr .byte t V U ∧ Cod cd n f V ∧ ∀ j, j < n → ¬ f j < 0 ∧ ¬ 65535 < f j
theorem Txt.mv {x t : Addr} {V : Cell} {cd : Int32} {n : Nat} {f : Nat → Int32} {U U' : State} (h : Txt x t V cd n f U) (hal : U.vm.Alike U'.vm) (hh : U'.heap = U.heap) : Txt x t V cd n f U' := ⟨h.1.mv hal hh, h.2.1.mv hal hh, h.2.2.1.mv hal hh, h.2.2.2.1.mv hal hh, h.2.2.2.2⟩
namespace Cdr
def yN : MethodName := ⟨"java/lang/String", "coder", "()B"⟩
abbrev yB : ByteArray := jdk_42_method_152_code
theorem d0 : decode yB 0 = .ok (.getstatic 38, 3) := by decide +kernel
theorem d3 : decode yB 3 = .ok (.ifCond (.eq) 10, 3) := by decide +kernel
theorem d6 : decode yB 6 = .ok (.aload_n 0, 1) := by decide +kernel
theorem d7 : decode yB 7 = .ok (.getfield 15, 3) := by decide +kernel
theorem d10 : decode yB 10 = .ok (.goto 4, 3) := by decide +kernel
theorem d14 : decode yB 14 = .ok (.ireturn, 1) := by decide +kernel
def site : List Cond := [.fieldLink "java/lang/String" 38 "java/lang/String" "COMPACT_STRINGS" "Z", .fieldLink "java/lang/String" 15 "java/lang/String" "coder" "B"]
def tab : Cond := tabOf yN yB 1 (some .byte) site
def P (x : Addr) (cd z : Int32) (args : Array Value) (s : State) : Prop := args = #[.ref x] ∧ Has x "java/lang/String" "coder" "B" (.int cd) s ∧ (cd = 0 ∨ cd = 1) ∧ StaticIs s "java/lang/String" "COMPACT_STRINGS" "Z" (.int z) ∧ ¬ z = 0
def E (cd : Int32) (r : Option Value) (s u : State) : Prop := XT.PureE (some (.int cd)) r s u
theorem law (l : Launch) (x : Addr) (cd z : Int32) : Law l yN 1 0 0 0 yB 1 (some .byte) site (P x cd z) (E cd) [] 0 0 := by
  refine Law.of_walk (plainFor_of_name (by decide +kernel)) (by decide +kernel) (by decide +kernel) (by decide) (fun _ _ h => by rw [h.1]; rfl) (fun _ U U' hal hh h => ⟨h.1, h.2.1.mv hal hh, h.2.2.1, h.2.2.2.1.there hal hh, h.2.2.2.2⟩) (fun r U U' V V' h1 hal h2 h => XT.PureE.mv r U U' V V' h1 hal h2 h) ?_
  intro p e s m args below meth c s₁ X0 hexec hbytes hml hret hlk hnm hown hh0 W hP
  obtain ⟨rfl, hx, hc, s1, hz⟩ := hP
  have c1 : Steps p.tables e below (s₁.setTop (entryFrame m #[.ref x] 1)) (s₁.setTop (mkF m 0 #[.val (.ref x)] [])) := entry rfl
  obtain ⟨T2, X2, q2, st2⟩ := X0.sget hexec hown (wk W (.fieldLink "java/lang/String" 38 "java/lang/String" "COMPACT_STRINGS" "Z")) s1 (fun _ _ h => by rw [hh0]; exact h) (g := (mkF m 0 #[.val (.ref x)] [])) rfl (hb hbytes d0)
  have hh2 := q2.trans hh0
  have c3 : Steps p.tables e below (s₁.setTop (entryFrame m #[.ref x] 1)) (T2.setTop (mkF m 7 #[.val (.ref x)] [.ref x])) := (c1.trans (st2 _ (Steps.refl _))).trans (by
    refine XS.ifNo X2.here hexec rfl (hb hbytes d3) rfl (i0_eq_f hz) ?_
    refine XS.aloadN X2.here hexec rfl (hb hbytes d6) rfl rfl ?_
    exact Steps.refl _)
  obtain ⟨T4, X4, q4, st4⟩ := X2.hget hexec hown (wk W (.fieldLink "java/lang/String" 15 "java/lang/String" "coder" "B")) (hx.mv X2.warmed.alike hh2) (g := (mkF m 7 #[.val (.ref x)] [.ref x])) rfl (rest := []) rfl (hb hbytes d7)
  have c5 : Steps p.tables e below (s₁.setTop (entryFrame m #[.ref x] 1)) (T4.setTop (mkF m 14 #[.val (.ref x)] [.int cd])) := (c3.trans (st4 _ (Steps.refl _))).trans (by
    refine XS.goto X4.here hexec rfl (pc0 := 10) rfl (hb hbytes d10) (by decide) rfl ?_
    exact Steps.refl _)
  exact ⟨T4, some (.int cd), _, _, _, X4, rfl, rfl, rfl, (fun h => by cases h), ⟨rfl, q4.trans hh2⟩, fun fs hl => c5.trans (X4.ireturnOut hexec hret (by rcases hc with rfl | rfl <;> rfl) (Or.inr (Or.inr (Or.inl rfl))) (hb hbytes d14) hl)⟩
end Cdr
namespace Len
def yN : MethodName := ⟨"java/lang/String", "length", "()I"⟩
abbrev yB : ByteArray := jdk_42_method_54_code
theorem d0 : decode yB 0 = .ok (.aload_n 0, 1) := by decide +kernel
theorem d1 : decode yB 1 = .ok (.getfield 9, 3) := by decide +kernel
theorem d4 : decode yB 4 = .ok (.arraylength, 1) := by decide +kernel
theorem d5 : decode yB 5 = .ok (.aload_n 0, 1) := by decide +kernel
theorem d6 : decode yB 6 = .ok (.invokevirtual 335, 3) := by decide +kernel
theorem d9 : decode yB 9 = .ok (.ishr, 1) := by decide +kernel
theorem d10 : decode yB 10 = .ok (.ireturn, 1) := by decide +kernel
def site : List Cond := [.fieldLink "java/lang/String" 9 "java/lang/String" "value" "[B", Cdr.tab] ++ virtW "java/lang/String" 335 "java/lang/String" Cdr.yN Cdr.yN
def tab : Cond := tabOf yN yB 1 (some .int) site
def P (x t : Addr) (V : Cell) (cd : Int32) (n : Nat) (f : Nat → Int32) (z : Int32) (args : Array Value) (s : State) : Prop := args = #[.ref x] ∧ Txt x t V cd n f s ∧ StaticIs s "java/lang/String" "COMPACT_STRINGS" "Z" (.int z) ∧ ¬ z = 0
def E (n : Nat) (r : Option Value) (s u : State) : Prop := XT.PureE (some (.int (Int32.ofNat n))) r s u
/-- length() of a String of n chars, in either coding -/
theorem law (l : Launch) (x t : Addr) (V : Cell) (cd : Int32) (n : Nat) (f : Nat → Int32) (z : Int32) : Law l yN 1 0 1 13 yB 1 (some .int) site (P x t V cd n f z) (E n) [] 0 0 := by
  refine Law.of_walk (plainFor_of_name (by decide +kernel)) (by decide +kernel) (by decide +kernel) (by decide) (fun _ _ h => by rw [h.1]; rfl) (fun _ U U' hal hh h => ⟨h.1, h.2.1.mv hal hh, h.2.2.1.there hal hh, h.2.2.2⟩) (fun r U U' V V' h1 hal h2 h => XT.PureE.mv r U U' V V' h1 hal h2 h) ?_
  intro p e s m args below meth c s₁ X0 hexec hbytes hml hret hlk hnm hown hh0 W hP
  obtain ⟨rfl, hx, s1, hz⟩ := hP
  have v31 := hx.2.2.2.1.2.2.2
  have c1 : Steps p.tables e below (s₁.setTop (entryFrame m #[.ref x] 1)) (s₁.setTop (mkF m 1 #[.val (.ref x)] [.ref x])) := Steps.trans (entry rfl) (by
    show Steps p.tables e below (s₁.setTop (mkF m 0 #[.val (.ref x)] [])) _
    refine XS.aloadN X0.here hexec rfl (hb hbytes d0) rfl rfl ?_
    exact Steps.refl _)
  obtain ⟨T2, X2, q2, st2⟩ := X0.hget hexec hown (wk W (.fieldLink "java/lang/String" 9 "java/lang/String" "value" "[B")) (hx.mv X0.warmed.alike hh0).2.1 (g := (mkF m 1 #[.val (.ref x)] [.ref x])) rfl (rest := []) rfl (hb hbytes d1)
  have hh2 := q2.trans hh0
  have hx2 := hx.mv X2.warmed.alike hh2
  have c3 : Steps p.tables e below (s₁.setTop (entryFrame m #[.ref x] 1)) (T2.setTop (mkF m 6 #[.val (.ref x)] [.ref x, .int (Int32.ofNat V.slots.size)])) := (c1.trans (st2 _ (Steps.refl _))).trans (by
    refine X2.alen hexec hx2.2.2.2.1 rfl rfl (hb hbytes d4) ?_
    refine XS.aloadN X2.here hexec rfl (hb hbytes d5) rfl rfl ?_
    exact Steps.refl _)
  obtain ⟨v4, T4, X4, E4, g4⟩ := X2.callV hexec (Cdr.law l x cd z) hown (wks W (virtW "java/lang/String" 335 "java/lang/String" Cdr.yN Cdr.yN)) rfl (by decide) (wk W Cdr.tab) (W := 1) (Nat.le_of_ble_eq_true rfl) (Nat.le_of_ble_eq_true rfl) (Nat.le_refl _) (Nat.le_refl _) (hx2.1.fc X2.warmed.alike) hx2.1.is (g := (mkF m 6 #[.val (.ref x)] [.ref x, .int (Int32.ofNat V.slots.size)])) rfl (by rw [hml]; rfl) c3 (argsL := []) (rest := [.int (Int32.ofNat V.slots.size)]) rfl rfl (by show 2 * 0 + (1 + 0) ≤ _; decide) (hb hbytes d6) (⟨rfl, hx2.2.2.1, hx.2.2.2.2.1.cd, s1.there X2.warmed.alike hh2, hz⟩)
  obtain ⟨rfl, q4⟩ := E4
  have c5 : Steps p.tables e below (s₁.setTop (entryFrame m #[.ref x] 1)) (T4.setTop (mkF m 10 #[.val (.ref x)] [.int (Int32.ofNat V.slots.size >>> (cd &&& 31))])) := Steps.trans g4 (by
    refine ishr X4.here hexec rfl (hb hbytes d9) rfl ?_
    exact Steps.refl _)
  rw [hx.2.2.2.2.1.len v31] at c5
  exact ⟨T4, some (.int (Int32.ofNat n)), _, _, _, X4, rfl, rfl, rfl, (fun h => by cases h), ⟨rfl, q4.trans hh2⟩, fun fs hl => c5.trans (X4.ireturnOut hexec hret rfl (Or.inl rfl) (hb hbytes d10) hl)⟩
theorem pays {l : Launch} {R : Room} {p : Program} {e : Env} {below : List Frame} {s : State} {sargs : Array Value} {len W : Nat} (x t : Addr) (V : Cell) (cd : Int32) (n : Nat) (f : Nat → Int32) (z : Int32) (htab : tab.before sargs s = true) (hfr : 2 ≤ R.frames) (hlo : W + 25 ≤ R.locals) :
    Back l R p e below s sargs yN len W (fun A₁ a₁ => A₁.cells + 0 ≤ R.cells ∧ A₁.slots + 0 ≤ R.slots ∧ P x t V cd n f z a₁ A₁.U) (fun A₁ _ v₁ B₁ => E n v₁ A₁.U B₁.U ∧ B₁.locs = A₁.locs ++ [] ∧ B₁.cells = A₁.cells + 0 ∧ B₁.slots = A₁.slots + 0) :=
  (law l x t V cd n f z).pays htab hfr (by omega)
end Len
end StrChars
namespace StrChars.Road
open Jvm Sem ClassFile Op Lib Jvm.Stand Jvm.Free Jvm.Free.XT
open Jvm.Lib.Cold (StaticIs)
theorem consq {a : Array Value} {s : State} {c : Jvm.Cond} {L : List Jvm.Cond} (h0 : c.before a s = true) (h : ∀ w ∈ L, w.before a s = true) : ∀ w ∈ c :: L, w.before a s = true := fun w hw => (List.mem_cons.mp hw).elim (fun e => e ▸ h0) (h w)
/-- the words of String.length(), either coding -/
abbrev wordsLen : List Jvm.Cond := [.code Len.yN Len.yB 1 (some .int), .initialized ST, .fieldLink ST 9 ST "value" "[B", .fieldLink ST 38 ST "COMPACT_STRINGS" "Z", .fieldLink ST 15 ST "coder" "B", .code Cdr.yN Cdr.yB 1 (some .byte), .methodLink ST 335 Cdr.yN, .declares Cdr.yN, .selects ST Cdr.yN Cdr.yN, .instanceMethod Cdr.yN]
theorem tabLen_of {a : Array Value} {s : State} (h : ∀ w ∈ wordsLen, w.before a s = true) : Len.tab.before a s = true := by
  have hc : Cdr.tab.before a s = true := unparts (wk h (.code Cdr.yN Cdr.yB 1 (some .byte))) (wks h (.initialized Cdr.yN.cls :: Cdr.site))
  have q := consq hc h
  exact unparts (wk q (.code Len.yN Len.yB 1 (some .int))) (wks q (.initialized Len.yN.cls :: Len.site))
theorem movedLen {Z s : State} {a0 args : Array Value} (hZ : Z.Warmed39 s.vm) (hw : ∀ d ∈ wordsLen, d.before a0 Z = true) : ∀ d ∈ wordsLen, d.before args s = true := fun d hd => by
  have q := hw d hd
  have t : ∀ d ∈ wordsLen, d = .arrayClass .byte ∨ (d.onTables && d.keepsFace) = true := by decide +kernel
  rcases t d hd with rfl | t
  · exact RoadKit.mvA hZ q
  · exact RoadKit.mv hZ q t
/-- the bytes of the chars cs, low before high -/
def wideBytes : List Int32 → List Value
  | [] => []
  | c :: cs => .int (lo8 c) :: .int (hi8 c) :: wideBytes cs
theorem wide_lo (d : Value) : ∀ (cs : List Int32) (j : Nat), j < cs.length → (wideBytes cs).getD (2 * j) d = .int (lo8 (cs.getD j 0))
  | [], j, h => absurd h (Nat.not_lt_zero j)
  | c :: cs, 0, _ => rfl
  | c :: cs, j + 1, h => by
    have q := wide_lo d cs j (by simpa using h)
    rw [show 2 * (j + 1) = 2 * j + 1 + 1 from by omega]
    simpa [wideBytes] using q
theorem wide_hi (d : Value) : ∀ (cs : List Int32) (j : Nat), j < cs.length → (wideBytes cs).getD (2 * j + 1) d = .int (hi8 (cs.getD j 0))
  | [], j, h => absurd h (Nat.not_lt_zero j)
  | c :: cs, 0, _ => rfl
  | c :: cs, j + 1, h => by
    have q := wide_hi d cs j (by simpa using h)
    rw [show 2 * (j + 1) + 1 = 2 * j + 1 + 1 + 1 from by omega]
    simpa [wideBytes] using q
theorem low_at (d : Value) (cs : List Int32) (j : Nat) (h : j < cs.length) : (cs.map fun c => Value.int (lo8 c)).getD j d = .int (lo8 (cs.getD j 0)) := by
  simp [List.getD_eq_getElem?_getD, h]
/-- an array of N2 bytes vs codes the chars cs by the coder cd -/
def CodA (cs : List Int32) (cd N2 : Int32) (vs : List Value) : Prop := (cd = 0 ∧ N2 = Int32.ofNat cs.length ∧ vs = (cs.map fun c => Value.int (lo8 c)) ∧ ∀ c ∈ cs, ¬ 255 < c) ∨ (cd = 1 ∧ N2 = Int32.ofNat (2 * cs.length) ∧ vs = wideBytes cs ∧ ∃ c ∈ cs, 255 < c)
theorem CodA.cod {cs : List Int32} {cd N2 : Int32} {vs : List Value} {V : Cell} (h : CodA cs cd N2 vs) (hn : 2 * cs.length < 2 ^ 31) (hs : V.slots.size = N2.toNatClampNeg) (hv : RoadKit.Has V vs (.int 0)) : Cod cd cs.length (fun j => cs.getD j 0) V := by
  rcases h with ⟨rfl, rfl, rfl, h⟩ | ⟨rfl, rfl, rfl, c, hc, hw⟩
  · rw [n32 (by omega)] at hs
    exact Or.inl ⟨rfl, hs, fun j hj => ⟨by rw [hv j (by omega), low_at _ _ _ hj], by
      have e : cs.getD j 0 = cs[j] := by simp [List.getD_eq_getElem?_getD, hj]
      show ¬ 255 < cs.getD j 0
      rw [e]; exact h _ (List.getElem_mem _)⟩⟩
  · rw [n32 (by omega)] at hs
    obtain ⟨j, hj, rfl⟩ := List.getElem_of_mem hc
    exact Or.inr ⟨rfl, hs, fun j hj => ⟨by rw [hv _ (by omega), wide_lo _ _ _ hj], by rw [hv _ (by omega), wide_hi _ _ _ hj]⟩, j, hj, by
      have e : cs.getD j 0 = cs[j] := by simp [List.getD_eq_getElem?_getD, hj]
      show 255 < cs.getD j 0
      rw [e]; exact hw⟩
/-- an object of exactly java/lang/String, its two fields found: as the laws ask it -/
theorem strObj {Z U : State} {a0 : Array Value} {kI : Nat} (wi : (Jvm.Cond.instantiable ST kI).before a0 Z = true) (al : Z.vm.Alike U.vm) {x : Addr} {v0 c0 : Value} (E : RoadKit.Exa Z U.heap x ST) (V : RoadKit.Fld Z U.heap x ST "value" "[B" v0) (C : RoadKit.Fld Z U.heap x ST "coder" "B" c0) :
    ∃ (D : Cell) (fV fC : Field), Blank ST x D U ∧ Found ST "value" "[B" fV U ∧ Found ST "coder" "B" fC U ∧ D.slots[fV.slot]? = some v0 ∧ D.slots[fC.slot]? = some c0 ∧ RoadKit.slotOf Z ST "value" "[B" = fV.slot ∧ RoadKit.slotOf Z ST "coder" "B" = fC.slot := by
  obtain ⟨D, cfV, kV, iV, fV, hD, gV, stV, knV, obV, asV, slV⟩ := V
  obtain ⟨D', cfC, kC, iC, fC, hD', gC, stC, -, -, asC, slC⟩ := C
  cases hD.symm.trans hD'
  obtain ⟨D2, kD, e1, e2, e3, e4, e5⟩ := E
  cases hD.symm.trans e1
  obtain ⟨c2, k2, i1, i2, i3, -⟩ := Cond.instantiable_spec wi
  cases e2.symm.trans i1
  cases e3.symm.trans i2
  obtain ⟨kU, u1, u2⟩ := al.2.2 _ _ e3
  exact ⟨D, fV, fC, ⟨hD, ⟨knV, fun q hq => by rw [hq] at obV; cases obV⟩, by rw [al.findClass]; exact e2, kU, u1, by rw [u2]; exact i3, by rw [u2]; exact e5 i3⟩, ⟨SBG.found_only al ⟨cfV, kV, iV, gV⟩, stV⟩, ⟨SBG.found_only al ⟨cfC, kC, iC, gC⟩, stC⟩, slV, slC, by simp [RoadKit.slotOf, gV], by simp [RoadKit.slotOf, gC]⟩
theorem sta_is {Z U : State} (al : Z.vm.Alike U.vm) {C n d : String} {v : Value} (S : RoadKit.Sta Z U.heap C n d v) : StaticIs U C n d v := by
  obtain ⟨cfS, iS, kS, fS, st, cS, t1, t2, t3, t4, t5, t6, t7⟩ := S
  exact StaticIs.there (s := { Z with heap := U.heap }) ⟨cfS, iS, kS, fS, st, cS, t1, t2, t3, t4, t5, (fun q => by rw [q] at t6; cases t6), t7⟩ al rfl
/-- **length() OF SUCH A STRING** -/
theorem lenW {p : Program} {l : Launch} {e : Env} {R : Room} {s : State} {args : Array Value} {below : List Frame} {len W : Nat} {Z : State} {a0 : Array Value} {h : Heap} (hZ : Z.Warmed39 s.vm) (hw : ∀ d ∈ wordsLen, d.before a0 Z = true) {kI : Nat} (wi : (Jvm.Cond.instantiable ST kI).before a0 Z = true)
    {x t : Addr} {kb : ClassId} {cs : List Int32} {cd N2 z : Int32} {vs : List Value} (E : RoadKit.Exa Z h x ST) (V : RoadKit.Fld Z h x ST "value" "[B" (.ref t)) (C : RoadKit.Fld Z h x ST "coder" "B" (.int cd)) (K : RoadKit.Arv Z h t kb .byte N2 vs (.int 0)) (hc : CodA cs cd N2 vs) (hb : ∀ c ∈ cs, ¬ c < 0 ∧ ¬ (65535 : Int32) < c)
    (S : RoadKit.Sta Z h ST "COMPACT_STRINGS" "Z" (.int z)) (hz : ¬ z = 0) (l2 : cs.length ≤ 4000) (hfr : 2 ≤ R.frames) (hlo : W + 25 ≤ R.locals) :
    Back l R p e below s args (⟨"java/lang/String", "length", "()I"⟩ : MethodName) len W (fun P a => a = #[.ref x] ∧ P.U.heap = h ∧ P.cells + 0 ≤ R.cells ∧ P.slots + 0 ≤ R.slots)
      (fun P _ v B => ∃ L, (v = some (.int (Int32.ofNat cs.length)) ∧ L = [] ∧ B.U.heap = h) ∧ B.locs = P.locs ++ L ∧ B.cells = P.cells + 0 ∧ B.slots = P.slots + 0) := by
  obtain ⟨A, K1, K2, K3, K4, K5, K6⟩ := K
  have hcod := hc.cod (by omega) K3 K5
  intro m meth c P g ig mk a X hg hsize hdg hW hn hp'
  obtain ⟨rfl, rfl, r1, r2⟩ := hp'
  have al : Z.vm.Alike P.U.vm := hZ.alike.trans X.warmed.alike
  obtain ⟨D, fV, fC, hB, F1, F2, g1, g2, -, -⟩ := strObj wi al E V C
  have hx : Txt x t A cd cs.length (fun j => cs.getD j 0) P.U := ⟨⟨_, hB.2.2.1, D, hB.1, rfl, by cases q : D.vm <;> first | rfl | exact absurd q (hB.2.1.2 _)⟩, Has.of hB F1 g1, Has.of hB F2 g2, ⟨K1.1, State.isArrayOf_alike al K1.2.1, K1.2.2, by rcases hcod with ⟨-, q, -⟩ | ⟨-, q, -⟩ <;> omega⟩, hcod, fun j hj => by
    have e : cs.getD j 0 = cs[j] := by simp [List.getD_eq_getElem?_getD, hj]
    show ¬ cs.getD j 0 < 0 ∧ ¬ 65535 < cs.getD j 0
    rw [e]; exact hb _ (List.getElem_mem _)⟩
  obtain ⟨v, B, X', ⟨⟨hv, hh⟩, hl, hk, hs⟩, st⟩ := Len.pays x t A cd cs.length (fun j => cs.getD j 0) z (tabLen_of (movedLen hZ hw)) hfr hlo m meth c P g ig mk _ X hg hsize hdg hW hn ⟨r1, r2, rfl, hx, sta_is al S, hz⟩
  exact ⟨v, B, X', ⟨[], ⟨hv, rfl, hh⟩, hl, hk, hs⟩, st⟩
end StrChars.Road
namespace StrChars
open Jvm Sem ClassFile Op Lib Jvm.Stand Jvm.Free.XT Jvm.Free.ALB Jvm.Free.JM Jvm.Free
open Jvm.Lib.Cold (StaticIs)
/-- what place i of a byte[]'s cell holds -/
def yv (A : Cell) (i : Nat) : Int32 := match A.slots[i]? with | some (.int x) => x | _ => 0
theorem yv_get {a : Addr} {A : Cell} {U : State} (h : XT.Arr .byte a A U) (ht : Typed .byte A) {i : Nat} (hi : i < A.slots.size) : A.slots[i]? = some (.int (yv A i)) := by
  have e := Array.getElem?_eq_getElem hi
  have f := ht i _ e
  unfold yv; rw [e]
  generalize A.slots[i] = v at f
  cases v <;> simp [fits] at f ⊢
/-- the two arrays are equal, place for place -/
def EqC (A B : Cell) : Prop := A.slots.size = B.slots.size ∧ ∀ i, i < A.slots.size → yv A i = yv B i
/-- a boolean that says whether p -/
def Says01 (q : Prop) (r : Option Value) (s u : State) : Prop := ∃ v : Int32, r = some (.int v) ∧ u.heap = s.heap ∧ ((v = 1 ∧ q) ∨ (v = 0 ∧ ¬ q))
theorem Says01.mv {q : Prop} : ∀ r (U U' V V' : State), U'.heap = U.heap → V.vm.Alike V'.vm → V'.heap = V.heap → Says01 q r U V → Says01 q r U' V' :=
  fun r U U' V V' h1 _ h2 ⟨v, a, b, c⟩ => ⟨v, a, by rw [h1, h2]; exact b, c⟩
namespace LEq
def yN : MethodName := ⟨"java/lang/StringLatin1", "equals", "([B[B)Z"⟩
abbrev yB : ByteArray := jdk_43_method_13_code
theorem d0 : decode yB 0 = .ok (.aload_n 0, 1) := by decide +kernel
theorem d1 : decode yB 1 = .ok (.arraylength, 1) := by decide +kernel
theorem d2 : decode yB 2 = .ok (.aload_n 1, 1) := by decide +kernel
theorem d3 : decode yB 3 = .ok (.arraylength, 1) := by decide +kernel
theorem d4 : decode yB 4 = .ok (.if_icmp (.ne) 30, 3) := by decide +kernel
theorem d7 : decode yB 7 = .ok (.iconst 0, 1) := by decide +kernel
theorem d8 : decode yB 8 = .ok (.istore_n 2, 1) := by decide +kernel
theorem d9 : decode yB 9 = .ok (.iload_n 2, 1) := by decide +kernel
theorem d10 : decode yB 10 = .ok (.aload_n 0, 1) := by decide +kernel
theorem d11 : decode yB 11 = .ok (.arraylength, 1) := by decide +kernel
theorem d12 : decode yB 12 = .ok (.if_icmp (.ge) 20, 3) := by decide +kernel
theorem d15 : decode yB 15 = .ok (.aload_n 0, 1) := by decide +kernel
theorem d16 : decode yB 16 = .ok (.iload_n 2, 1) := by decide +kernel
theorem d17 : decode yB 17 = .ok (.baload, 1) := by decide +kernel
theorem d18 : decode yB 18 = .ok (.aload_n 1, 1) := by decide +kernel
theorem d19 : decode yB 19 = .ok (.iload_n 2, 1) := by decide +kernel
theorem d20 : decode yB 20 = .ok (.baload, 1) := by decide +kernel
theorem d21 : decode yB 21 = .ok (.if_icmp (.eq) 5, 3) := by decide +kernel
theorem d24 : decode yB 24 = .ok (.iconst 0, 1) := by decide +kernel
theorem d25 : decode yB 25 = .ok (.ireturn, 1) := by decide +kernel
theorem d26 : decode yB 26 = .ok (.iinc 2 1, 3) := by decide +kernel
theorem d29 : decode yB 29 = .ok (.goto (-20), 3) := by decide +kernel
theorem d32 : decode yB 32 = .ok (.iconst 1, 1) := by decide +kernel
theorem d33 : decode yB 33 = .ok (.ireturn, 1) := by decide +kernel
theorem d34 : decode yB 34 = .ok (.iconst 0, 1) := by decide +kernel
theorem d35 : decode yB 35 = .ok (.ireturn, 1) := by decide +kernel
def site : List Cond := []
def tab : Cond := tabOf yN yB 3 (some .boolean) site
def P (a : Addr) (A : Cell) (b : Addr) (B : Cell) (args : Array Value) (s : State) : Prop := args = #[.ref a, .ref b] ∧ XT.Arr .byte a A s ∧ Typed .byte A ∧ XT.Arr .byte b B s ∧ Typed .byte B
/-- whether two byte[] are equal, place for place -/
theorem law (l : Launch) (a : Addr) (A : Cell) (b : Addr) (B : Cell) : Law l yN 2 2 0 0 yB 3 (some .boolean) site (P a A b B) (Says01 (EqC A B)) [] 0 0 := by
  refine Law.of_walk (plainFor_of_name (by decide +kernel)) (by decide +kernel) (by decide +kernel) (by decide) (fun _ _ h => by rw [h.1]; rfl) (fun _ U U' hal hh h => ⟨h.1, h.2.1.mv hal hh, h.2.2.1, h.2.2.2.1.mv hal hh, h.2.2.2.2⟩) (fun r U U' V V' h1 hal h2 h => Says01.mv r U U' V V' h1 hal h2 h) ?_
  intro p e s m args below meth c s₁ X0 hexec hbytes hml hret hlk hnm hown hh0 W hP
  obtain ⟨rfl, hA, tA, hB, tB⟩ := hP
  have a31 := hA.2.2.2
  have b31 := hB.2.2.2
  have hA0 := hA.mv X0.warmed.alike hh0
  have hB0 := hB.mv X0.warmed.alike hh0
  have c1 : Steps p.tables e below (s₁.setTop (entryFrame m #[.ref a, .ref b] 3)) (s₁.setTop (mkF m 0 #[.val (.ref a), .val (.ref b), .unset] [])) := entry rfl
  have c2 : Steps p.tables e below (s₁.setTop (entryFrame m #[.ref a, .ref b] 3)) (s₁.setTop (mkF m 4 #[.val (.ref a), .val (.ref b), .unset] [.int (Int32.ofNat B.slots.size), .int (Int32.ofNat A.slots.size)])) := c1.trans (by
    refine XS.aloadN X0.here hexec rfl (hb hbytes d0) rfl rfl ?_
    refine X0.alen hexec hA0 rfl rfl (hb hbytes d1) ?_
    refine XS.aloadN X0.here hexec rfl (hb hbytes d2) rfl rfl ?_
    refine X0.alen hexec hB0 rfl rfl (hb hbytes d3) ?_
    exact Steps.refl _)
  by_cases hs : A.slots.size = B.slots.size
  · have c3 : Steps p.tables e below (s₁.setTop (entryFrame m #[.ref a, .ref b] 3)) (s₁.setTop (mkF m 9 #[.val (.ref a), .val (.ref b), .val (.int 0)] [])) := c2.trans (by
      refine XS.icmpNo X0.here hexec rfl (hb hbytes d4) rfl (ii_ne_f (by rw [hs])) ?_
      refine iconstV X0.here hexec rfl 0 (hb hbytes d7) (by decide) ?_
      refine XS.istoreN X0.here hexec rfl (hb hbytes d8) rfl rfl ?_
      exact Steps.refl _)
    have loop : ∀ (r i : Nat), i + r = A.slots.size → (∀ j, j < i → yv A j = yv B j) → Steps p.tables e below (s₁.setTop (entryFrame m #[.ref a, .ref b] 3)) (s₁.setTop (mkF m 9 #[.val (.ref a), .val (.ref b), .val (.int (Int32.ofNat i))] [])) → ∃ (pc : Nat) (Ls : Array Slot) (v : Int32), (pc = 25 ∨ pc = 33) ∧ ((v = 1 ∧ EqC A B) ∨ (v = 0 ∧ ¬ EqC A B)) ∧ Steps p.tables e below (s₁.setTop (entryFrame m #[.ref a, .ref b] 3)) (s₁.setTop (mkF m pc Ls [.int v])) := by
      intro r
      induction r with
      | zero =>
        intro i hi he cl
        exact ⟨33, _, 1, Or.inr rfl, Or.inl ⟨rfl, hs, fun j hj => he j (by omega)⟩, cl.trans (by
          refine XS.iloadN X0.here hexec rfl (hb hbytes d9) rfl ?_
          refine XS.aloadN X0.here hexec rfl (hb hbytes d10) rfl rfl ?_
          refine X0.alen hexec hA0 rfl rfl (hb hbytes d11) ?_
          refine XS.icmpYes X0.here hexec rfl (pc0 := 12) rfl (hb hbytes d12) rfl (ii_ge_t (nlt32 (by omega) (by omega))) (by decide) rfl ?_
          refine iconstV X0.here hexec rfl 1 (hb hbytes d32) (by decide) ?_
          exact Steps.refl _)⟩
      | succ r ih =>
        intro i hi he cl
        have c4 : Steps p.tables e below (s₁.setTop (entryFrame m #[.ref a, .ref b] 3)) (s₁.setTop (mkF m 21 #[.val (.ref a), .val (.ref b), .val (.int (Int32.ofNat i))] [.int (yv B i), .int (yv A i)])) := cl.trans (by
          refine XS.iloadN X0.here hexec rfl (hb hbytes d9) rfl ?_
          refine XS.aloadN X0.here hexec rfl (hb hbytes d10) rfl rfl ?_
          refine X0.alen hexec hA0 rfl rfl (hb hbytes d11) ?_
          refine XS.icmpNo X0.here hexec rfl (hb hbytes d12) rfl (ii_ge_f (lt32 (by omega) (by omega))) ?_
          refine XS.aloadN X0.here hexec rfl (hb hbytes d15) rfl rfl ?_
          refine XS.iloadN X0.here hexec rfl (hb hbytes d16) rfl ?_
          refine X0.aget hexec hA0 rfl (yv_get hA tA (i := i) (by omega)) rfl rfl (hb hbytes d17) ?_
          refine XS.aloadN X0.here hexec rfl (hb hbytes d18) rfl rfl ?_
          refine XS.iloadN X0.here hexec rfl (hb hbytes d19) rfl ?_
          refine X0.aget hexec hB0 rfl (yv_get hB tB (i := i) (by omega)) rfl rfl (hb hbytes d20) ?_
          exact Steps.refl _)
        by_cases hv : yv A i = yv B i
        · have c5 : Steps p.tables e below (s₁.setTop (entryFrame m #[.ref a, .ref b] 3)) (s₁.setTop (mkF m 9 #[.val (.ref a), .val (.ref b), .val (.int (Int32.ofNat i + 1))] [])) := c4.trans (by
            refine XS.icmpYes X0.here hexec rfl (pc0 := 21) rfl (hb hbytes d21) rfl (ii_eq_t hv) (by decide) rfl ?_
            refine iincV X0.here hexec rfl 1 (hb hbytes d26) (by decide) rfl rfl ?_
            refine XS.goto X0.here hexec rfl (pc0 := 29) rfl (hb hbytes d29) (by decide) rfl ?_
            exact Steps.refl _)
          rw [succ32] at c5
          exact ih (i + 1) (by omega) (fun j hj => by
            by_cases e : j = i
            · rw [e]; exact hv
            · exact he j (by omega)) c5
        · exact ⟨25, _, 0, Or.inl rfl, Or.inr ⟨rfl, fun q => hv (q.2 i (by omega))⟩, c4.trans (by
            refine XS.icmpNo X0.here hexec rfl (hb hbytes d21) rfl (ii_eq_f hv) ?_
            refine iconstV X0.here hexec rfl 0 (hb hbytes d24) (by decide) ?_
            exact Steps.refl _)⟩
    obtain ⟨pc, Ls, v, hpc, hv, cz⟩ := loop A.slots.size 0 (by omega) (fun j hj => absurd hj (Nat.not_lt_zero j)) c3
    have nv : narrow .boolean (.int v) = .int v := by rcases hv with ⟨rfl, -⟩ | ⟨rfl, -⟩ <;> rfl
    rcases hpc with rfl | rfl
    · exact ⟨s₁, some (.int v), _, _, _, X0, rfl, rfl, rfl, (fun h => by cases h), ⟨v, rfl, hh0, hv⟩, fun fs hl => cz.trans (X0.ireturnOut hexec hret nv (Or.inr (Or.inl rfl)) (hb hbytes d25) hl)⟩
    · exact ⟨s₁, some (.int v), _, _, _, X0, rfl, rfl, rfl, (fun h => by cases h), ⟨v, rfl, hh0, hv⟩, fun fs hl => cz.trans (X0.ireturnOut hexec hret nv (Or.inr (Or.inl rfl)) (hb hbytes d33) hl)⟩
  · have c3 : Steps p.tables e below (s₁.setTop (entryFrame m #[.ref a, .ref b] 3)) (s₁.setTop (mkF m 35 #[.val (.ref a), .val (.ref b), .unset] [.int 0])) := c2.trans (by
      refine XS.icmpYes X0.here hexec rfl (pc0 := 4) rfl (hb hbytes d4) rfl (ii_ne_t (ne32 a31 b31 hs)) (by decide) rfl ?_
      refine iconstV X0.here hexec rfl 0 (hb hbytes d34) (by decide) ?_
      exact Steps.refl _)
    exact ⟨s₁, some (.int 0), _, _, _, X0, rfl, rfl, rfl, (fun h => by cases h), ⟨0, rfl, hh0, Or.inr ⟨rfl, fun q => hs q.1⟩⟩, fun fs hl => c3.trans (X0.ireturnOut hexec hret rfl (Or.inr (Or.inl rfl)) (hb hbytes d35) hl)⟩
end LEq
theorem Cod.ty {cd : Int32} {n : Nat} {f : Nat → Int32} {V : Cell} (h : Cod cd n f V) : Typed .byte V := fun i v hv => by
  have hi : i < V.slots.size := (Array.getElem?_eq_some_iff.mp hv).1
  rcases h with ⟨-, k1, k2⟩ | ⟨-, k1, k2, -⟩
  · rw [(k2 i (by omega)).1] at hv; cases hv; exact fits_lo8 _
  · rcases Nat.mod_two_eq_zero_or_one i with e | e
    · obtain ⟨j, rfl⟩ : ∃ j, i = 2 * j := ⟨i / 2, by omega⟩
      rw [(k2 j (by omega)).1] at hv; cases hv; exact fits_lo8 _
    · obtain ⟨j, rfl⟩ : ∃ j, i = 2 * j + 1 := ⟨i / 2, by omega⟩
      rw [(k2 j (by omega)).2] at hv; cases hv; exact fits_lo8 _
/-- the same text -/
def SameT (n : Nat) (f : Nat → Int32) (k : Nat) (g : Nat → Int32) : Prop := n = k ∧ ∀ j, j < n → f j = g j
theorem lo8_inj {x y : Int32} (h0 : ¬ x < 0) (h1 : ¬ 255 < x) (k0 : ¬ y < 0) (k1 : ¬ 255 < y) (h : lo8 x = lo8 y) : x = y := by
  rw [← lo8_mask h0 h1, ← lo8_mask k0 k1, h]
/-- arrays coded by one coder are equal just where the texts are -/
theorem Cod.eqv {cd : Int32} {n k : Nat} {f g : Nat → Int32} {V V' : Cell} (h : Cod cd n f V) (h' : Cod cd k g V') (hf : ∀ j, j < n → ¬ f j < 0 ∧ ¬ 65535 < f j) (hg : ∀ j, j < k → ¬ g j < 0 ∧ ¬ 65535 < g j) : EqC V V' ↔ SameT n f k g := by
  have yvv : ∀ {W : Cell} {i : Nat} {x : Int32}, W.slots[i]? = some (.int x) → yv W i = x := fun q => by unfold yv; rw [q]
  rcases h with ⟨rfl, k1, k2⟩ | ⟨rfl, k1, k2, -⟩
  · rcases h' with ⟨-, m1, m2⟩ | ⟨e, -⟩
    · constructor
      · rintro ⟨e1, e2⟩
        refine ⟨by omega, fun j hj => ?_⟩
        have q := e2 j (by omega)
        rw [yvv (k2 j hj).1, yvv (m2 j (by omega)).1] at q
        exact lo8_inj (hf j hj).1 (k2 j hj).2 (hg j (by omega)).1 (m2 j (by omega)).2 q
      · rintro ⟨rfl, e2⟩
        refine ⟨by omega, fun j hj => ?_⟩
        rw [yvv (k2 j (by omega)).1, yvv (m2 j (by omega)).1, e2 j (by omega)]
    · exact absurd e (by decide)
  · rcases h' with ⟨e, -⟩ | ⟨-, m1, m2, -⟩
    · exact absurd e (by decide)
    · constructor
      · rintro ⟨e1, e2⟩
        refine ⟨by omega, fun j hj => ?_⟩
        have q1 := e2 (2 * j) (by omega)
        have q2 := e2 (2 * j + 1) (by omega)
        rw [yvv (k2 j hj).1, yvv (m2 j (by omega)).1] at q1
        rw [yvv (k2 j hj).2, yvv (m2 j (by omega)).2] at q2
        rw [← pair_says (hf j hj).1 (hf j hj).2, ← pair_says (hg j (by omega)).1 (hg j (by omega)).2, q1, q2]
      · rintro ⟨rfl, e2⟩
        refine ⟨by omega, fun i hi => ?_⟩
        rcases Nat.mod_two_eq_zero_or_one i with e | e
        · obtain ⟨j, rfl⟩ : ∃ j, i = 2 * j := ⟨i / 2, by omega⟩
          rw [yvv (k2 j (by omega)).1, yvv (m2 j (by omega)).1, e2 j (by omega)]
        · obtain ⟨j, rfl⟩ : ∃ j, i = 2 * j + 1 := ⟨i / 2, by omega⟩
          rw [yvv (k2 j (by omega)).2, yvv (m2 j (by omega)).2, e2 j (by omega)]
/-- two codings differ: so do the texts -/
theorem Cod.dif {cd cd' : Int32} {n k : Nat} {f g : Nat → Int32} {V V' : Cell} (h : Cod cd n f V) (h' : Cod cd' k g V') (hne : ¬ cd = cd') : ¬ SameT n f k g := by
  rintro ⟨rfl, e⟩
  rcases h with ⟨rfl, -, k2⟩ | ⟨rfl, -, -, j, hj, hw⟩
  · rcases h' with ⟨rfl, -⟩ | ⟨-, -, -, j, hj, hw⟩
    · exact hne rfl
    · exact (k2 j hj).2 (by rw [e j hj]; exact hw)
  · rcases h' with ⟨-, -, m2⟩ | ⟨rfl, -⟩
    · exact (m2 j hj).2 (by rw [← e j hj]; exact hw)
    · exact hne rfl
/-- an object of exactly C is an instance of C -/
theorem cinst {p : Program} {l : Launch} {e : Env} {R : Room} {s : State} {m : MethodId} {args : Array Value} {below : List Frame} {meth : Method} {c : Code} {T : State} {locs : List Loc} {cells slots : Nat} (X : Stand p l e R s m args below meth c T locs cells slots) (hexec : p.tables.exec = Jvm.exec) {own C : String} {index : Nat} (hown : s.vm.findClass own = some m.cls) (hlink : (Cond.classLink own index C).before args s = true) {a : Addr} (hE : Exact C a T)
    {g : JFrame} (hg : g.method = m) {rest : List Value} (hstack : g.stack = .ref a :: rest) (hdg : decode c.code g.pc = .ok (.instanceof index, 3)) :
    ∃ T', Stand p l e R s m args below meth c T' locs cells slots ∧ T'.heap = T.heap ∧ ∀ target, Steps p.tables e below (T'.setTop { g with pc := g.pc + 3, stack := .int 1 :: rest }) target → Steps p.tables e below (T.setTop g) target := by
  obtain ⟨cB, h1, D, h2, h3, h4⟩ := hE
  have h1' : s.vm.findClass C = some cB := by rw [← X.warmed.alike.findClass]; exact h1
  obtain ⟨vm', X', st⟩ := X.instanceofYes hexec hown hlink h2 h4 h1' (by rw [h3]; exact Jvm.Free.SB.assignable_self _ _) hg hstack hdg
  exact ⟨_, X', rfl, st⟩
theorem cself {p : Program} {l : Launch} {e : Env} {R : Room} {s : State} {m : MethodId} {args : Array Value} {below : List Frame} {meth : Method} {c : Code} {T : State} {locs : List Loc} {cells slots : Nat} (X : Stand p l e R s m args below meth c T locs cells slots) (hexec : p.tables.exec = Jvm.exec) {own C : String} {index : Nat} (hown : s.vm.findClass own = some m.cls) (hlink : (Cond.classLink own index C).before args s = true) {a : Addr} (hE : Exact C a T)
    {g : JFrame} (hg : g.method = m) {rest : List Value} (hstack : g.stack = .ref a :: rest) (hdg : decode c.code g.pc = .ok (.checkcast index, 3)) :
    ∃ T', Stand p l e R s m args below meth c T' locs cells slots ∧ T'.heap = T.heap ∧ ∀ target, Steps p.tables e below (T'.setTop { g with pc := g.pc + 3, stack := .ref a :: rest }) target → Steps p.tables e below (T.setTop g) target := by
  obtain ⟨cB, h1, D, h2, h3, h4⟩ := hE
  have h1' : s.vm.findClass C = some cB := by rw [← X.warmed.alike.findClass]; exact h1
  obtain ⟨vm', X', st⟩ := X.checkcastYes hexec hown hlink h2 h4 h1' (by rw [h3]; exact Jvm.Free.SB.assignable_self _ _) hg hstack hdg
  exact ⟨_, X', rfl, fun t h => st t (by rw [← hstack] at h; exact h)⟩
namespace SEq
def yN : MethodName := ⟨"java/lang/String", "equals", "(Ljava/lang/Object;)Z"⟩
abbrev yB : ByteArray := jdk_42_method_66_code
theorem d0 : decode yB 0 = .ok (.aload_n 0, 1) := by decide +kernel
theorem d1 : decode yB 1 = .ok (.aload_n 1, 1) := by decide +kernel
theorem d2 : decode yB 2 = .ok (.if_acmp (.ne) 5, 3) := by decide +kernel
theorem d5 : decode yB 5 = .ok (.iconst 1, 1) := by decide +kernel
theorem d6 : decode yB 6 = .ok (.ireturn, 1) := by decide +kernel
theorem d7 : decode yB 7 = .ok (.aload_n 1, 1) := by decide +kernel
theorem d8 : decode yB 8 = .ok (.instanceof 10, 3) := by decide +kernel
theorem d11 : decode yB 11 = .ok (.ifCond (.eq) 43, 3) := by decide +kernel
theorem d14 : decode yB 14 = .ok (.aload_n 1, 1) := by decide +kernel
theorem d15 : decode yB 15 = .ok (.checkcast 10, 3) := by decide +kernel
theorem d18 : decode yB 18 = .ok (.astore_n 2, 1) := by decide +kernel
theorem d19 : decode yB 19 = .ok (.getstatic 38, 3) := by decide +kernel
theorem d22 : decode yB 22 = .ok (.ifCond (.eq) 14, 3) := by decide +kernel
theorem d25 : decode yB 25 = .ok (.aload_n 0, 1) := by decide +kernel
theorem d26 : decode yB 26 = .ok (.getfield 15, 3) := by decide +kernel
theorem d29 : decode yB 29 = .ok (.aload_n 2, 1) := by decide +kernel
theorem d30 : decode yB 30 = .ok (.getfield 15, 3) := by decide +kernel
theorem d33 : decode yB 33 = .ok (.if_icmp (.ne) 21, 3) := by decide +kernel
theorem d36 : decode yB 36 = .ok (.aload_n 0, 1) := by decide +kernel
theorem d37 : decode yB 37 = .ok (.getfield 9, 3) := by decide +kernel
theorem d40 : decode yB 40 = .ok (.aload_n 2, 1) := by decide +kernel
theorem d41 : decode yB 41 = .ok (.getfield 9, 3) := by decide +kernel
theorem d44 : decode yB 44 = .ok (.invokestatic 541, 3) := by decide +kernel
theorem d47 : decode yB 47 = .ok (.ifCond (.eq) 7, 3) := by decide +kernel
theorem d50 : decode yB 50 = .ok (.iconst 1, 1) := by decide +kernel
theorem d51 : decode yB 51 = .ok (.goto 4, 3) := by decide +kernel
theorem d54 : decode yB 54 = .ok (.iconst 0, 1) := by decide +kernel
theorem d55 : decode yB 55 = .ok (.ireturn, 1) := by decide +kernel
def site : List Cond := [.classLink "java/lang/String" 10 "java/lang/String", .fieldLink "java/lang/String" 38 "java/lang/String" "COMPACT_STRINGS" "Z", .fieldLink "java/lang/String" 15 "java/lang/String" "coder" "B", .fieldLink "java/lang/String" 9 "java/lang/String" "value" "[B", LEq.tab] ++ staticW "java/lang/String" 541 LEq.yN
def tab : Cond := tabOf yN yB 3 (some .boolean) site
def P (x t : Addr) (V : Cell) (cd : Int32) (n : Nat) (f : Nat → Int32) (y t' : Addr) (V' : Cell) (cd' : Int32) (k : Nat) (g : Nat → Int32) (z : Int32) (args : Array Value) (s : State) : Prop := args = #[.ref x, .ref y] ∧ Txt x t V cd n f s ∧ Txt y t' V' cd' k g s ∧ StaticIs s "java/lang/String" "COMPACT_STRINGS" "Z" (.int z) ∧ ¬ z = 0
/-- equals(Object) of two Strings: whether the texts are the same -/
theorem law (l : Launch) (x t : Addr) (V : Cell) (cd : Int32) (n : Nat) (f : Nat → Int32) (y t' : Addr) (V' : Cell) (cd' : Int32) (k : Nat) (g : Nat → Int32) (z : Int32) : Law l yN 2 1 1 14 yB 3 (some .boolean) site (P x t V cd n f y t' V' cd' k g z) (Says01 (SameT n f k g)) [] 0 0 := by
  refine Law.of_walk (plainFor_of_name (by decide +kernel)) (by decide +kernel) (by decide +kernel) (by decide) (fun _ _ h => by rw [h.1]; rfl) (fun _ U U' hal hh h => ⟨h.1, h.2.1.mv hal hh, h.2.2.1.mv hal hh, h.2.2.2.1.there hal hh, h.2.2.2.2⟩) (fun r U U' V V' h1 hal h2 h => Says01.mv r U U' V V' h1 hal h2 h) ?_
  intro p e s m args below meth c s₁ X0 hexec hbytes hml hret hlk hnm hown hh0 W hP
  obtain ⟨rfl, hx, hy, s1, hz⟩ := hP
  have c1 : Steps p.tables e below (s₁.setTop (entryFrame m #[.ref x, .ref y] 3)) (s₁.setTop (mkF m 2 #[.val (.ref x), .val (.ref y), .unset] [.ref y, .ref x])) := Steps.trans (entry rfl) (by
    show Steps p.tables e below (s₁.setTop (mkF m 0 #[.val (.ref x), .val (.ref y), .unset] [])) _
    refine XS.aloadN X0.here hexec rfl (hb hbytes d0) rfl rfl ?_
    refine XS.aloadN X0.here hexec rfl (hb hbytes d1) rfl rfl ?_
    exact Steps.refl _)
  by_cases hxy : x = y
  · have c2 : Steps p.tables e below (s₁.setTop (entryFrame m #[.ref x, .ref y] 3)) (s₁.setTop (mkF m 6 #[.val (.ref x), .val (.ref y), .unset] [.int 1])) := c1.trans (by
      refine acmpNo X0.here hexec rfl (hb hbytes d2) rfl rfl rfl (by simp [acmp, hxy]) ?_
      refine iconstV X0.here hexec rfl 1 (hb hbytes d5) (by decide) ?_
      exact Steps.refl _)
    subst hxy
    have ec : cd = cd' := by
      obtain ⟨D, fd, a1, a2, a3⟩ := hx.2.2.1
      obtain ⟨D', fd', b1, b2, b3⟩ := hy.2.2.1
      cases a1.symm.trans b1
      obtain ⟨q1, q2, q3, q4⟩ := a2.1
      obtain ⟨r1, r2, r3, r4⟩ := b2.1
      cases q4.symm.trans r4
      cases a3.symm.trans b3; rfl
    have et : t = t' := by
      obtain ⟨D, fd, a1, a2, a3⟩ := hx.2.1
      obtain ⟨D', fd', b1, b2, b3⟩ := hy.2.1
      cases a1.symm.trans b1
      obtain ⟨q1, q2, q3, q4⟩ := a2.1
      obtain ⟨r1, r2, r3, r4⟩ := b2.1
      cases q4.symm.trans r4
      cases a3.symm.trans b3; rfl
    subst ec et
    have ev : V = V' := by cases hx.2.2.2.1.1.symm.trans hy.2.2.2.1.1; rfl
    subst ev
    have hs : SameT n f k g := (Cod.eqv hx.2.2.2.2.1 hy.2.2.2.2.1 hx.2.2.2.2.2 hy.2.2.2.2.2).mp ⟨rfl, fun _ _ => rfl⟩
    exact ⟨s₁, some (.int 1), _, _, _, X0, rfl, rfl, rfl, (fun h => by cases h), ⟨1, rfl, hh0, Or.inl ⟨rfl, hs⟩⟩, fun fs hl => c2.trans (X0.ireturnOut hexec hret rfl (Or.inr (Or.inl rfl)) (hb hbytes d6) hl)⟩
  · have c2 : Steps p.tables e below (s₁.setTop (entryFrame m #[.ref x, .ref y] 3)) (s₁.setTop (mkF m 8 #[.val (.ref x), .val (.ref y), .unset] [.ref y])) := c1.trans (by
      refine acmpYes X0.here hexec rfl (pc0 := 2) rfl (hb hbytes d2) rfl rfl rfl (by simp [acmp, hxy]) (by decide) rfl ?_
      refine XS.aloadN X0.here hexec rfl (hb hbytes d7) rfl rfl ?_
      exact Steps.refl _)
    obtain ⟨T3, X3, q3, st3⟩ := cinst X0 hexec hown (wk W (.classLink "java/lang/String" 10 "java/lang/String")) (hy.mv X0.warmed.alike hh0).1 (g := (mkF m 8 #[.val (.ref x), .val (.ref y), .unset] [.ref y])) rfl (rest := []) rfl (hb hbytes d8)
    have hh3 := q3.trans hh0
    have c4 : Steps p.tables e below (s₁.setTop (entryFrame m #[.ref x, .ref y] 3)) (T3.setTop (mkF m 15 #[.val (.ref x), .val (.ref y), .unset] [.ref y])) := (c2.trans (st3 _ (Steps.refl _))).trans (by
      refine XS.ifNo X3.here hexec rfl (hb hbytes d11) rfl (i0_eq_f (by decide)) ?_
      refine XS.aloadN X3.here hexec rfl (hb hbytes d14) rfl rfl ?_
      exact Steps.refl _)
    obtain ⟨T5, X5, q5, st5⟩ := cself X3 hexec hown (wk W (.classLink "java/lang/String" 10 "java/lang/String")) (hy.mv X3.warmed.alike hh3).1 (g := (mkF m 15 #[.val (.ref x), .val (.ref y), .unset] [.ref y])) rfl (rest := []) rfl (hb hbytes d15)
    have hh5 := q5.trans hh3
    have c6 : Steps p.tables e below (s₁.setTop (entryFrame m #[.ref x, .ref y] 3)) (T5.setTop (mkF m 19 #[.val (.ref x), .val (.ref y), .val (.ref y)] [])) := (c4.trans (st5 _ (Steps.refl _))).trans (by
      refine XS.astoreN X5.here hexec rfl (hb hbytes d18) rfl rfl rfl ?_
      exact Steps.refl _)
    obtain ⟨T7, X7, q7, st7⟩ := X5.sget hexec hown (wk W (.fieldLink "java/lang/String" 38 "java/lang/String" "COMPACT_STRINGS" "Z")) s1 (fun _ _ h => by rw [hh5]; exact h) (g := (mkF m 19 #[.val (.ref x), .val (.ref y), .val (.ref y)] [])) rfl (hb hbytes d19)
    have hh7 := q7.trans hh5
    have c8 : Steps p.tables e below (s₁.setTop (entryFrame m #[.ref x, .ref y] 3)) (T7.setTop (mkF m 26 #[.val (.ref x), .val (.ref y), .val (.ref y)] [.ref x])) := (c6.trans (st7 _ (Steps.refl _))).trans (by
      refine XS.ifNo X7.here hexec rfl (hb hbytes d22) rfl (i0_eq_f hz) ?_
      refine XS.aloadN X7.here hexec rfl (hb hbytes d25) rfl rfl ?_
      exact Steps.refl _)
    obtain ⟨T9, X9, q9, st9⟩ := X7.hget hexec hown (wk W (.fieldLink "java/lang/String" 15 "java/lang/String" "coder" "B")) (hx.mv X7.warmed.alike hh7).2.2.1 (g := (mkF m 26 #[.val (.ref x), .val (.ref y), .val (.ref y)] [.ref x])) rfl (rest := []) rfl (hb hbytes d26)
    have hh9 := q9.trans hh7
    have c10 : Steps p.tables e below (s₁.setTop (entryFrame m #[.ref x, .ref y] 3)) (T9.setTop (mkF m 30 #[.val (.ref x), .val (.ref y), .val (.ref y)] [.ref y, .int cd])) := (c8.trans (st9 _ (Steps.refl _))).trans (by
      refine XS.aloadN X9.here hexec rfl (hb hbytes d29) rfl rfl ?_
      exact Steps.refl _)
    obtain ⟨T11, X11, q11, st11⟩ := X9.hget hexec hown (wk W (.fieldLink "java/lang/String" 15 "java/lang/String" "coder" "B")) (hy.mv X9.warmed.alike hh9).2.2.1 (g := (mkF m 30 #[.val (.ref x), .val (.ref y), .val (.ref y)] [.ref y, .int cd])) rfl (rest := [.int cd]) rfl (hb hbytes d30)
    have hh11 := q11.trans hh9
    have c12 : Steps p.tables e below (s₁.setTop (entryFrame m #[.ref x, .ref y] 3)) (T11.setTop (mkF m 33 #[.val (.ref x), .val (.ref y), .val (.ref y)] [.int cd', .int cd])) := c10.trans (st11 _ (Steps.refl _))
    by_cases hcd : cd = cd'
    · subst hcd
      have c13 : Steps p.tables e below (s₁.setTop (entryFrame m #[.ref x, .ref y] 3)) (T11.setTop (mkF m 37 #[.val (.ref x), .val (.ref y), .val (.ref y)] [.ref x])) := c12.trans (by
        refine XS.icmpNo X11.here hexec rfl (hb hbytes d33) rfl (ii_ne_f rfl) ?_
        refine XS.aloadN X11.here hexec rfl (hb hbytes d36) rfl rfl ?_
        exact Steps.refl _)
      obtain ⟨T14, X14, q14, st14⟩ := X11.hget hexec hown (wk W (.fieldLink "java/lang/String" 9 "java/lang/String" "value" "[B")) (hx.mv X11.warmed.alike hh11).2.1 (g := (mkF m 37 #[.val (.ref x), .val (.ref y), .val (.ref y)] [.ref x])) rfl (rest := []) rfl (hb hbytes d37)
      have hh14 := q14.trans hh11
      have c15 : Steps p.tables e below (s₁.setTop (entryFrame m #[.ref x, .ref y] 3)) (T14.setTop (mkF m 41 #[.val (.ref x), .val (.ref y), .val (.ref y)] [.ref y, .ref t])) := (c13.trans (st14 _ (Steps.refl _))).trans (by
        refine XS.aloadN X14.here hexec rfl (hb hbytes d40) rfl rfl ?_
        exact Steps.refl _)
      obtain ⟨T16, X16, q16, st16⟩ := X14.hget hexec hown (wk W (.fieldLink "java/lang/String" 9 "java/lang/String" "value" "[B")) (hy.mv X14.warmed.alike hh14).2.1 (g := (mkF m 41 #[.val (.ref x), .val (.ref y), .val (.ref y)] [.ref y, .ref t])) rfl (rest := [.ref t]) rfl (hb hbytes d41)
      have hh16 := q16.trans hh14
      have c17 : Steps p.tables e below (s₁.setTop (entryFrame m #[.ref x, .ref y] 3)) (T16.setTop (mkF m 44 #[.val (.ref x), .val (.ref y), .val (.ref y)] [.ref t', .ref t])) := c15.trans (st16 _ (Steps.refl _))
      obtain ⟨v18, T18, X18, E18, g18⟩ := X16.callS hexec (LEq.law l t V t' V') hown (wks W (staticW "java/lang/String" 541 LEq.yN)) (wk W LEq.tab) (W := 0) (Nat.le_of_ble_eq_true rfl) (Nat.le_of_ble_eq_true rfl) (Nat.le_refl _) (Nat.le_refl _) (g := (mkF m 44 #[.val (.ref x), .val (.ref y), .val (.ref y)] [.ref t', .ref t])) rfl (by rw [hml]; rfl) c17 (argsL := [.ref t, .ref t']) (rest := []) rfl rfl (by show 2 * 0 + 0 ≤ _; decide) (hb hbytes d44) (⟨rfl, hx.2.2.2.1.mv X16.warmed.alike hh16, hx.2.2.2.2.1.ty, hy.2.2.2.1.mv X16.warmed.alike hh16, hy.2.2.2.2.1.ty⟩)
      obtain ⟨v, rfl, q18, hv⟩ := E18
      have iff := Cod.eqv hx.2.2.2.2.1 hy.2.2.2.2.1 hx.2.2.2.2.2 hy.2.2.2.2.2
      rcases hv with ⟨rfl, he⟩ | ⟨rfl, he⟩
      · have c19 : Steps p.tables e below (s₁.setTop (entryFrame m #[.ref x, .ref y] 3)) (T18.setTop (mkF m 55 #[.val (.ref x), .val (.ref y), .val (.ref y)] [.int 1])) := Steps.trans g18 (by
          refine XS.ifNo X18.here hexec rfl (hb hbytes d47) rfl (i0_eq_f (by decide)) ?_
          refine iconstV X18.here hexec rfl 1 (hb hbytes d50) (by decide) ?_
          refine XS.goto X18.here hexec rfl (pc0 := 51) rfl (hb hbytes d51) (by decide) rfl ?_
          exact Steps.refl _)
        exact ⟨T18, some (.int 1), _, _, _, X18, rfl, rfl, rfl, (fun h => by cases h), ⟨1, rfl, q18.trans hh16, Or.inl ⟨rfl, iff.mp he⟩⟩, fun fs hl => c19.trans (X18.ireturnOut hexec hret rfl (Or.inr (Or.inl rfl)) (hb hbytes d55) hl)⟩
      · have c19 : Steps p.tables e below (s₁.setTop (entryFrame m #[.ref x, .ref y] 3)) (T18.setTop (mkF m 55 #[.val (.ref x), .val (.ref y), .val (.ref y)] [.int 0])) := Steps.trans g18 (by
          refine XS.ifYes X18.here hexec rfl (pc0 := 47) rfl (hb hbytes d47) rfl (i0_eq_t rfl) (by decide) rfl ?_
          refine iconstV X18.here hexec rfl 0 (hb hbytes d54) (by decide) ?_
          exact Steps.refl _)
        exact ⟨T18, some (.int 0), _, _, _, X18, rfl, rfl, rfl, (fun h => by cases h), ⟨0, rfl, q18.trans hh16, Or.inr ⟨rfl, fun q => he (iff.mpr q)⟩⟩, fun fs hl => c19.trans (X18.ireturnOut hexec hret rfl (Or.inr (Or.inl rfl)) (hb hbytes d55) hl)⟩
    · have c13 : Steps p.tables e below (s₁.setTop (entryFrame m #[.ref x, .ref y] 3)) (T11.setTop (mkF m 55 #[.val (.ref x), .val (.ref y), .val (.ref y)] [.int 0])) := c12.trans (by
        refine XS.icmpYes X11.here hexec rfl (pc0 := 33) rfl (hb hbytes d33) rfl (ii_ne_t hcd) (by decide) rfl ?_
        refine iconstV X11.here hexec rfl 0 (hb hbytes d54) (by decide) ?_
        exact Steps.refl _)
      exact ⟨T11, some (.int 0), _, _, _, X11, rfl, rfl, rfl, (fun h => by cases h), ⟨0, rfl, hh11, Or.inr ⟨rfl, Cod.dif hx.2.2.2.2.1 hy.2.2.2.2.1 hcd⟩⟩, fun fs hl => c13.trans (X11.ireturnOut hexec hret rfl (Or.inr (Or.inl rfl)) (hb hbytes d55) hl)⟩
theorem pays {l : Launch} {R : Room} {p : Program} {e : Env} {below : List Frame} {s : State} {sargs : Array Value} {len W : Nat} (x t : Addr) (V : Cell) (cd : Int32) (n : Nat) (f : Nat → Int32) (y t' : Addr) (V' : Cell) (cd' : Int32) (k : Nat) (g : Nat → Int32) (z : Int32) (htab : tab.before sargs s = true) (hfr : 2 ≤ R.frames) (hlo : W + 28 ≤ R.locals) :
    Back l R p e below s sargs yN len W (fun A₁ a₁ => A₁.cells + 0 ≤ R.cells ∧ A₁.slots + 0 ≤ R.slots ∧ P x t V cd n f y t' V' cd' k g z a₁ A₁.U) (fun A₁ _ v₁ B₁ => Says01 (SameT n f k g) v₁ A₁.U B₁.U ∧ B₁.locs = A₁.locs ++ [] ∧ B₁.cells = A₁.cells + 0 ∧ B₁.slots = A₁.slots + 0) :=
  (law l x t V cd n f y t' V' cd' k g z).pays htab hfr (by omega)
end SEq
end StrChars
namespace StrChars.Road
open Jvm Sem ClassFile Op Lib Jvm.Stand Jvm.Free Jvm.Free.XT
open Jvm.Lib.Cold (StaticIs)
/-- the words of String.equals(Object) -/
abbrev wordsEq : List Jvm.Cond := [.code SEq.yN SEq.yB 3 (some .boolean), .initialized ST, .classLink ST 10 ST, .fieldLink ST 38 ST "COMPACT_STRINGS" "Z", .fieldLink ST 15 ST "coder" "B", .fieldLink ST 9 ST "value" "[B", .methodLink ST 541 LEq.yN, .static LEq.yN, .code LEq.yN LEq.yB 3 (some .boolean), .initialized "java/lang/StringLatin1"]
theorem tabEq_of {a : Array Value} {s : State} (h : ∀ w ∈ wordsEq, w.before a s = true) : SEq.tab.before a s = true := by
  have hl : LEq.tab.before a s = true := unparts (wk h (.code LEq.yN LEq.yB 3 (some .boolean))) (wks h (.initialized LEq.yN.cls :: LEq.site))
  have q := consq hl h
  exact unparts (wk q (.code SEq.yN SEq.yB 3 (some .boolean))) (wks q (.initialized SEq.yN.cls :: SEq.site))
theorem movedEq {Z s : State} {a0 args : Array Value} (hZ : Z.Warmed39 s.vm) (hw : ∀ d ∈ wordsEq, d.before a0 Z = true) : ∀ d ∈ wordsEq, d.before args s = true := fun d hd => by
  have t : ∀ d ∈ wordsEq, (d.onTables && d.keepsFace) = true := by decide +kernel
  exact RoadKit.mv hZ (hw d hd) (t d hd)
/-- the road's facts of a String, as the laws ask it -/
theorem txt_of {Z U : State} {a0 : Array Value} {kI : Nat} (wi : (Jvm.Cond.instantiable ST kI).before a0 Z = true) (al : Z.vm.Alike U.vm) {x t : Addr} {kb : ClassId} {cs : List Int32} {cd N2 : Int32} {vs : List Value} (E : RoadKit.Exa Z U.heap x ST) (V : RoadKit.Fld Z U.heap x ST "value" "[B" (.ref t)) (C : RoadKit.Fld Z U.heap x ST "coder" "B" (.int cd)) (K : RoadKit.Arv Z U.heap t kb .byte N2 vs (.int 0)) (hc : CodA cs cd N2 vs) (hb : ∀ c ∈ cs, ¬ c < 0 ∧ ¬ (65535 : Int32) < c) (l2 : cs.length ≤ 4000) :
    ∃ A, Txt x t A cd cs.length (fun j => cs.getD j 0) U := by
  obtain ⟨A, K1, K2, K3, K4, K5, K6⟩ := K
  have hcod := hc.cod (by omega) K3 K5
  obtain ⟨D, fV, fC, hB, F1, F2, g1, g2, -, -⟩ := strObj wi al E V C
  exact ⟨A, ⟨_, hB.2.2.1, D, hB.1, rfl, by cases q : D.vm <;> first | rfl | exact absurd q (hB.2.1.2 _)⟩, Has.of hB F1 g1, Has.of hB F2 g2, ⟨K1.1, State.isArrayOf_alike al K1.2.1, K1.2.2, by rcases hcod with ⟨-, q, -⟩ | ⟨-, q, -⟩ <;> omega⟩, hcod, fun j hj => by
    have e : cs.getD j 0 = cs[j] := by simp [List.getD_eq_getElem?_getD, hj]
    show ¬ cs.getD j 0 < 0 ∧ ¬ 65535 < cs.getD j 0
    rw [e]; exact hb _ (List.getElem_mem _)⟩
theorem same_list (cs ds : List Int32) : SameT cs.length (fun j => cs.getD j 0) ds.length (fun j => ds.getD j 0) ↔ cs = ds := by
  constructor
  · rintro ⟨e, q⟩
    refine List.ext_getElem e fun j h1 h2 => ?_
    have := q j h1
    simpa [List.getD_eq_getElem?_getD, h1, h2] using this
  · rintro rfl
    exact ⟨rfl, fun _ _ => rfl⟩
/-- **equals(Object) OF TWO SUCH STRINGS**: 1 just where the chars are the same -/
theorem eqW {p : Program} {l : Launch} {e : Env} {R : Room} {s : State} {args : Array Value} {below : List Frame} {len W : Nat} {Z : State} {a0 : Array Value} {h : Heap} (hZ : Z.Warmed39 s.vm) (hw : ∀ d ∈ wordsEq, d.before a0 Z = true) {kI : Nat} (wi : (Jvm.Cond.instantiable ST kI).before a0 Z = true)
    {x t : Addr} {kb : ClassId} {cs : List Int32} {cd N2 : Int32} {vs : List Value} (E : RoadKit.Exa Z h x ST) (V : RoadKit.Fld Z h x ST "value" "[B" (.ref t)) (C : RoadKit.Fld Z h x ST "coder" "B" (.int cd)) (K : RoadKit.Arv Z h t kb .byte N2 vs (.int 0)) (hc : CodA cs cd N2 vs) (hb : ∀ c ∈ cs, ¬ c < 0 ∧ ¬ (65535 : Int32) < c) (l2 : cs.length ≤ 4000)
    {y t' : Addr} {kb' : ClassId} {ds : List Int32} {cd' N2' : Int32} {vs' : List Value} (E' : RoadKit.Exa Z h y ST) (V' : RoadKit.Fld Z h y ST "value" "[B" (.ref t')) (C' : RoadKit.Fld Z h y ST "coder" "B" (.int cd')) (K' : RoadKit.Arv Z h t' kb' .byte N2' vs' (.int 0)) (hc' : CodA ds cd' N2' vs') (hb' : ∀ c ∈ ds, ¬ c < 0 ∧ ¬ (65535 : Int32) < c) (l2' : ds.length ≤ 4000)
    {z : Int32} (S : RoadKit.Sta Z h ST "COMPACT_STRINGS" "Z" (.int z)) (hz : ¬ z = 0) (hfr : 2 ≤ R.frames) (hlo : W + 28 ≤ R.locals) :
    Back l R p e below s args (⟨"java/lang/String", "equals", "(Ljava/lang/Object;)Z"⟩ : MethodName) len W (fun P a => a = #[.ref x, .ref y] ∧ P.U.heap = h ∧ P.cells + 0 ≤ R.cells ∧ P.slots + 0 ≤ R.slots)
      (fun P _ v B => ∃ L, (((v = some (.int 1) ∧ cs = ds) ∨ (v = some (.int 0) ∧ ¬ cs = ds)) ∧ L = [] ∧ B.U.heap = h) ∧ B.locs = P.locs ++ L ∧ B.cells = P.cells + 0 ∧ B.slots = P.slots + 0) := by
  intro m meth c P g ig mk a X hg hsize hdg hW hn hp'
  obtain ⟨rfl, rfl, r1, r2⟩ := hp'
  have al : Z.vm.Alike P.U.vm := hZ.alike.trans X.warmed.alike
  obtain ⟨A, hx⟩ := txt_of wi al E V C K hc hb l2
  obtain ⟨A', hy⟩ := txt_of wi al E' V' C' K' hc' hb' l2'
  obtain ⟨v, B, X', ⟨⟨w, hv, hh, hq⟩, hl, hk, hs⟩, st⟩ := SEq.pays x t A cd cs.length (fun j => cs.getD j 0) y t' A' cd' ds.length (fun j => ds.getD j 0) z (tabEq_of (movedEq hZ hw)) hfr hlo m meth c P g ig mk _ X hg hsize hdg hW hn ⟨r1, r2, rfl, hx, hy, sta_is al S, hz⟩
  refine ⟨v, B, X', ⟨[], ⟨?_, rfl, hh⟩, hl, hk, hs⟩, st⟩
  rcases hq with ⟨rfl, q⟩ | ⟨rfl, q⟩
  · exact Or.inl ⟨hv, (same_list cs ds).mp q⟩
  · exact Or.inr ⟨hv, fun e => q ((same_list cs ds).mpr e)⟩
end StrChars.Road
namespace StrChars.Road
open Jvm Sem ClassFile Op Lib Jvm.Stand Jvm.Free Jvm.Free.XT
open Jvm.Lib.Cold (StaticIs)
/-- what backV says of its String, as the contracts of this text ask it: cs's low bytes, coder 0 -/
theorem codOf {cs : List Int32} {n : Nat} (hn : cs.length = n) (hb : ∀ c ∈ cs, ¬ 255 < c) : CodA cs 0 (Int32.ofNat n) ((cs.map lo8).map Value.int) := Or.inl ⟨rfl, by rw [hn], by simp [List.map_map, Function.comp_def], hb⟩
end StrChars.Road
end Jvm.Pilot.@@N@@
namespace Jvm.Pilot.@@N@@
open Jvm Jvm.ClassFile Sem Op Lib Jvm.Free Jvm.Stand Jvm.LawKit Jvm.RoadKit Bundle Jvm.Pilot.@@N@@.Jvm.D
-- own prelude: a walk as a chain of goals Go (from here the method comes to its end, and Fin holds there)
def PT (W : Bool) (EL : List (String × Nat)) (Z : State) (a0 : Array Value) (own : String) (p : Program) (l : Launch) (e : Env) (R : Room) (s : State) (m : MethodId) (args : Array Value) (below : List Frame) (meth : Method) (c : Code) (T : State) (h : Heap) (cells slots : Nat) : Prop :=
  ∃ (vm0 : Vm) (k0 : Nat) (locs : List Loc), (W = false → vm0 = s.vm) ∧ Stand p l e R (s.setVm vm0) m args below meth c T locs cells slots ∧ T.heap = h ∧ p.tables.exec = Jvm.exec ∧ Z.Warmed39 vm0 ∧ vm0.findClass own = some m.cls ∧ s.Since vm0 k0 ∧ k0 ≤ h.size ∧ EW Z a0 EL ∧ CHr Z EL s.vm s.heap vm0 h ∧ Fr Z.heap.size locs ∧ Old Z Z.heap.size h
def Go (W : Bool) (EL : List (String × Nat)) (Z : State) (a0 : Array Value) (own : String) (p : Program) (l : Launch) (e : Env) (R : Room) (s : State) (m : MethodId) (args : Array Value) (below : List Frame) (meth : Method) (c : Code) (F : Outcome → State → Prop) (h : Heap) (cells slots : Nat) (g : JFrame) : Prop :=
  ∀ T, PT W EL Z a0 own p l e R s m args below meth c T h cells slots → ∃ t o, Steps p.tables e below (T.setTop g) t ∧ t.status = .running ∧ Ended t below o ∧ F o t
def Fend (W : Bool) (EL : List (String × Nat)) (Z : State) (s : State) (h0 : Heap) (ws : List Addr) (Q : Option Value → Heap → Prop) (dc ds : Nat) (o : Outcome) (t : State) : Prop :=
  ∃ v L, o = .returned v ∧ (Q v t.heap ∧ Fr Z.heap.size L ∧ Keep h0 t.heap ws) ∧ (W = true → CHr Z EL s.vm s.heap t.vm t.heap ∧ ReturnedEndW s o t L dc ds) ∧ (W = false → FrameEnd s o t L dc ds)
def Con (W : Bool) (EL : List (String × Nat)) (l : Launch) (Z : State) (y : MethodName) (bytes : ByteArray) (maxL : Nat) (ret : Option FieldType) (wl : List Jvm.Cond) (rm : Room) (as' : Array Value) (h : Heap) (ws : List Addr) (Q : Option Value → Heap → Prop) : Prop :=
  MetFree l y (head1 (Jvm.Cond.code y bytes maxL ret :: wl) rm) (fun a U => a = as' ∧ Z.Warmed39 U.vm ∧ U.heap = h ∧ (W = true → CHv Z EL U.vm h)) (fun _ _ _ _ _ => True) (fun _ U o U' => Fend W EL Z U h ws Q rm.cells rm.slots o U')
def rvl (Q : Value → Heap → Prop) (v : Option Value) (h : Heap) : Prop := ∃ x, v = some x ∧ Q x h
def rno (Q : Heap → Prop) (v : Option Value) (h : Heap) : Prop := v = none ∧ Q h
def Pay (l : Launch) (R : Room) (p : Program) (e : Env) (below : List Frame) (Z : State) (y : MethodName) (Wd : Nat) (as' : Array Value) (h : Heap) (dc ds : Nat) (ws : List Addr) (Q : Option Value → Heap → Prop) : Prop :=
  ∀ (s : State) (args : Array Value), Z.Warmed39 s.vm → Back l R p e below s args y 3 Wd (fun A a => a = as' ∧ A.U.heap = h ∧ A.cells + dc ≤ R.cells ∧ A.slots + ds ≤ R.slots) (fun A _ v B => ∃ L, (Q v B.U.heap ∧ Fr Z.heap.size L ∧ Keep h B.U.heap ws) ∧ B.locs = A.locs ++ L ∧ B.cells = A.cells + dc ∧ B.slots = A.slots + ds)
def PayW (EL : List (String × Nat)) (l : Launch) (R : Room) (p : Program) (e : Env) (below : List Frame) (Z : State) (y : MethodName) (Wd : Nat) (as' : Array Value) (h : Heap) (dc ds : Nat) (ws : List Addr) (Q : Option Value → Heap → Prop) : Prop :=
  ∀ (s : State) (vm0 : Vm) (args : Array Value), Z.Warmed39 vm0 → CHv Z EL vm0 h → BackS l R p e below (s.setVm vm0) args y 3 Wd (fun A a => a = as' ∧ A.U.heap = h ∧ A.cells + dc ≤ R.cells ∧ A.slots + ds ≤ R.slots) (fun A _ v B => ∃ L, (Q v B.U.heap ∧ Fr Z.heap.size L ∧ Keep h B.U.heap ws) ∧ B.locs = A.locs ++ L ∧ B.cells = A.cells + dc ∧ B.slots = A.slots + ds ∧ CHr Z EL vm0 h B.U.vm B.U.heap)
abbrev rm4 (a b c d : Nat) : Room := { frames := a, cells := b, slots := c, locals := d }
theorem nb {a b : Nat} (q : Nat.ble a b = true) : a ≤ b := Nat.le_of_ble_eq_true q
abbrev vi (x : Int32) : Slot := .val (.int x)
abbrev vr (x : Addr) : Slot := .val (.ref x)
abbrev un : Slot := .unset
section Own
variable {W : Bool} {EL : List (String × Nat)} {Z : State} {a0 : Array Value} {own : String} {p : Program} {l : Launch} {e : Env} {R : Room} {s : State} {m : MethodId} {args : Array Value} {below : List Frame} {meth : Method} {c : Code} {F : Outcome → State → Prop} {h : Heap} {cells slots cells' slots' : Nat} {pc pc' : Nat} {ls ls' : Array Slot} {st : List Value}
variable (pc')
theorem safe_nil {vm : Vm} {x : Addr} : Safe Z [] vm h x := fun ⟨_, hp, _⟩ => nomatch hp
theorem chv_nil {vm : Vm} : CHv Z [] vm h := fun _ hp => nomatch hp
theorem con_of {y : MethodName} {bytes : ByteArray} {maxL : Nat} {ret : Option FieldType} {wl : List Jvm.Cond} {rm : Room} {as' : Array Value} {ws : List Addr} {Q : Option Value → Heap → Prop} (hname : plainFor y = true) (hWE : W = false → EL = []) (hEL : EW Z a0 EL) (hO : Old Z Z.heap.size h) (hef : ∀ m, entryFrame m as' maxL = mkF m 0 ls [])
    (body : ∀ (p : Program) (e : Env) (s : State) (m : MethodId) (below : List Frame) (meth : Method) (c : Code), (∀ {pc : Nat} {r : Except DecodeError (Instr × Nat)}, decode bytes pc = r → decode c.code pc = r) → c.maxLocals = maxL → meth.sig.returnType = ret → meth.locks = false → meth.name = y.name → Go W EL Z a0 y.cls p l e rm s m as' below meth c (Fend W EL Z s h ws Q rm.cells rm.slots) h 0 0 (mkF m 0 ls [])) :
    Con W EL l Z y bytes maxL ret wl rm as' h ws Q := by
  refine MetFree.of_bodySF hname hisR ?_
  intro p e s m args below meth c s₁ Bd hml hP _
  obtain ⟨rfl, hZ, hh, hC⟩ := hP
  have X0 : Stand p l e rm s m args below meth c s₁ [] 0 0 := Stand.of_body Bd
  have e0 : s₁.heap = h := by rw [← hh, Bd.state]; rfl
  have hown : s.vm.findClass y.cls = some m.cls := findClass_of_methodNamed Bd.named
  have hnm := (name_of_methodNamed Bd.named Bd.method).1
  have hcv : CHv Z EL s.vm h := by
    cases W
    · rw [hWE rfl]; exact chv_nil
    · exact hC rfl
  have hcr : CHr Z EL s.vm s.heap s.vm h := by rw [hh]; exact CHr.refl hcv
  obtain ⟨t, o, h1, h2⟩ := body p e s m below meth c (fun d => hb Bd.bytes d) hml Bd.returns Bd.notSynchronized hnm s₁ ⟨s.vm, h.size, [], fun _ => rfl, X0, e0, Bd.exec, hZ, hown, (State.WarmedH.refl s).since _, Nat.le_refl _, hEL, hcr, Fr.nil _, hO⟩
  exact ⟨t, o, castTop (hef m) h1, h2⟩
theorem pay_of {y : MethodName} {bytes : ByteArray} {maxL : Nat} {ret : Option FieldType} {rm : Room} {as' : Array Value} {ws : List Addr} {Q : Option Value → Heap → Prop} {Wd : Nat} (hM : Con false [] l Z y bytes maxL ret [] rm as' h ws Q) (wc : (Jvm.Cond.code y bytes maxL ret).before a0 Z = true) (wz : (Jvm.Cond.initialized y.cls).before a0 Z = true) (hf : rm.frames + 1 ≤ R.frames) (hl : Wd + (maxL + 11) + rm.locals ≤ R.locals) :
    Pay l R p e below Z y Wd as' h rm.cells rm.slots ws Q := by
  intro s args hZ
  refine backOf (Q := fun v h' L => Q v h' ∧ Fr Z.heap.size L ∧ Keep h h' ws) ?_ hZ wc wz hf hl
  intro p e h1 h2 h3 s m args below h4 h5 h6 h7
  obtain ⟨n, o, q1, q2, q3, v, L, rfl, hq, -, hF⟩ := hM p e h1 h2 h3 s m args below h4 h5 ⟨h6.1, h6.2.1, h6.2.2, fun q => nomatch q⟩ h7
  exact ⟨n, _, q1, q2, q3, v, L, rfl, hq, hF rfl⟩
theorem payW_of {y : MethodName} {bytes : ByteArray} {maxL : Nat} {ret : Option FieldType} {rm : Room} {as' : Array Value} {ws : List Addr} {Q : Option Value → Heap → Prop} {Wd : Nat} (hM : Con true EL l Z y bytes maxL ret [] rm as' h ws Q) (wc : (Jvm.Cond.code y bytes maxL ret).before a0 Z = true) (wz : (Jvm.Cond.initialized y.cls).before a0 Z = true) (hf : rm.frames + 1 ≤ R.frames) (hl : Wd + (maxL + 11) + rm.locals ≤ R.locals) (hEL : EW Z a0 EL) :
    PayW EL l R p e below Z y Wd as' h rm.cells rm.slots ws Q := by
  intro s vm0 args hZ H
  refine backOfSH (Q := fun v h' L => Q v h' ∧ Fr Z.heap.size L ∧ Keep h h' ws) ?_ hZ wc wz hf hl hEL H
  intro p e h1 h2 h3 s m args below h4 h5 h6 h7
  obtain ⟨n, o, q1, q2, q3, v, L, rfl, hq, hC, -⟩ := hM p e h1 h2 h3 s m args below h4 h5 ⟨h6.1, h6.2.1, h6.2.2.1, fun _ => h6.2.2.2⟩ h7
  exact ⟨n, _, q1, q2, q3, v, L, rfl, hq, (hC rfl).1, (hC rfl).2⟩
theorem go_old {g0 : JFrame} (k : Old Z Z.heap.size h → Go W EL Z a0 own p l e R s m args below meth c F h cells slots (g0)) : Go W EL Z a0 own p l e R s m args below meth c F h cells slots (g0) := by
  intro T P
  exact k P.choose_spec.choose_spec.choose_spec.2.2.2.2.2.2.2.2.2.2.2 T P
theorem go_pure {g g' : JFrame} (stp : ∀ T : State, At T m c below → p.tables.exec = Jvm.exec → ∀ target, Steps p.tables e below (T.setTop g') target → Steps p.tables e below (T.setTop g) target) (k : Go W EL Z a0 own p l e R s m args below meth c F h cells slots (g')) : Go W EL Z a0 own p l e R s m args below meth c F h cells slots (g) := by
  intro T P
  obtain ⟨t, o, h1, h2⟩ := k T P
  obtain ⟨vm0, k0, locs, -, X, -, hx, -⟩ := P
  exact ⟨t, o, stp T X.here hx _ h1, h2⟩
theorem go_iconst {i : Int} {v : Int32} (hd : decode c.code pc = .ok (.iconst i, 1)) (hp : pc + 1 = pc') (hv : Int32.ofInt i = v) (k : Go W EL Z a0 own p l e R s m args below meth c F h cells slots (mkF m pc' ls (.int v :: st))) : Go W EL Z a0 own p l e R s m args below meth c F h cells slots (mkF m pc ls st) := by
  subst hp hv
  exact go_pure (fun T ha hx target hr => XS.iconst ha hx rfl hd hr) k
theorem go_bipush {i : Int} {v : Int32} (hd : decode c.code pc = .ok (.bipush i, 2)) (hp : pc + 2 = pc') (hv : (Int8.ofInt i).toInt32 = v) (k : Go W EL Z a0 own p l e R s m args below meth c F h cells slots (mkF m pc' ls (.int v :: st))) : Go W EL Z a0 own p l e R s m args below meth c F h cells slots (mkF m pc ls st) := by
  subst hp hv
  exact go_pure (fun T ha hx target hr => XS.bipush ha hx rfl hd hr) k
theorem go_sipush {i : Int} {v : Int32} (hd : decode c.code pc = .ok (.sipush i, 3)) (hp : pc + 3 = pc') (hv : (Int16.ofInt i).toInt32 = v) (k : Go W EL Z a0 own p l e R s m args below meth c F h cells slots (mkF m pc' ls (.int v :: st))) : Go W EL Z a0 own p l e R s m args below meth c F h cells slots (mkF m pc ls st) := by
  subst hp hv
  exact go_pure (fun T ha hx target hr => XS.sipush ha hx rfl hd hr) k
theorem go_aconst_null  (hd : decode c.code pc = .ok (.aconst_null, 1)) (hp : pc + 1 = pc')  (k : Go W EL Z a0 own p l e R s m args below meth c F h cells slots (mkF m pc' ls (.null :: st))) : Go W EL Z a0 own p l e R s m args below meth c F h cells slots (mkF m pc ls (st)) := by
  subst hp
  exact go_pure (fun T ha hx target hr => XS.aconstNull ha hx rfl hd hr) k
theorem go_aload_n {i : Fin 4} {v : Value} (hd : decode c.code pc = .ok (.aload_n i, 1)) (hp : pc + 1 = pc') (hl : ls[i.val]? = some (.val v)) (hv : v.isRef = true) (k : Go W EL Z a0 own p l e R s m args below meth c F h cells slots (mkF m pc' ls (v :: st))) : Go W EL Z a0 own p l e R s m args below meth c F h cells slots (mkF m pc ls (st)) := by
  subst hp
  exact go_pure (fun T ha hx target hr => XS.aloadN ha hx rfl hd hl hv hr) k
theorem go_aload {i : Nat} {v : Value} (hd : decode c.code pc = .ok (.aload i, 2)) (hp : pc + 2 = pc') (hl : ls[i]? = some (.val v)) (hv : v.isRef = true) (k : Go W EL Z a0 own p l e R s m args below meth c F h cells slots (mkF m pc' ls (v :: st))) : Go W EL Z a0 own p l e R s m args below meth c F h cells slots (mkF m pc ls (st)) := by
  subst hp
  exact go_pure (fun T ha hx target hr => XS.aload ha hx rfl hd hl hv hr) k
theorem go_iload_n {i : Fin 4} {v : Int32} (hd : decode c.code pc = .ok (.iload_n i, 1)) (hp : pc + 1 = pc') (hl : ls[i.val]? = some (.val (.int v))) (k : Go W EL Z a0 own p l e R s m args below meth c F h cells slots (mkF m pc' ls (.int v :: st))) : Go W EL Z a0 own p l e R s m args below meth c F h cells slots (mkF m pc ls (st)) := by
  subst hp
  exact go_pure (fun T ha hx target hr => XS.iloadN ha hx rfl hd hl hr) k
theorem go_iload {i : Nat} {v : Int32} (hd : decode c.code pc = .ok (.iload i, 2)) (hp : pc + 2 = pc') (hl : ls[i]? = some (.val (.int v))) (k : Go W EL Z a0 own p l e R s m args below meth c F h cells slots (mkF m pc' ls (.int v :: st))) : Go W EL Z a0 own p l e R s m args below meth c F h cells slots (mkF m pc ls (st)) := by
  subst hp
  exact go_pure (fun T ha hx target hr => XS.iload ha hx rfl hd hl hr) k
theorem go_istore_n {i : Fin 4} {v : Int32} (hd : decode c.code pc = .ok (.istore_n i, 1)) (hp : pc + 1 = pc') (hl : storeLocals ls i.val (.int v) = some ls') (k : Go W EL Z a0 own p l e R s m args below meth c F h cells slots (mkF m pc' ls' (st))) : Go W EL Z a0 own p l e R s m args below meth c F h cells slots (mkF m pc ls (.int v :: st)) := by
  subst hp
  exact go_pure (fun T ha hx target hr => XS.istoreN ha hx rfl hd rfl hl hr) k
theorem go_istore {i : Nat} {v : Int32} (hd : decode c.code pc = .ok (.istore i, 2)) (hp : pc + 2 = pc') (hl : storeLocals ls i (.int v) = some ls') (k : Go W EL Z a0 own p l e R s m args below meth c F h cells slots (mkF m pc' ls' (st))) : Go W EL Z a0 own p l e R s m args below meth c F h cells slots (mkF m pc ls (.int v :: st)) := by
  subst hp
  exact go_pure (fun T ha hx target hr => XS.istore ha hx rfl hd rfl hl hr) k
theorem go_astore {i : Nat} {v : Value} (hd : decode c.code pc = .ok (.astore i, 2)) (hp : pc + 2 = pc') (hv : v.isRef = true) (hl : storeLocals ls i v = some ls') (k : Go W EL Z a0 own p l e R s m args below meth c F h cells slots (mkF m pc' ls' (st))) : Go W EL Z a0 own p l e R s m args below meth c F h cells slots (mkF m pc ls (v :: st)) := by
  subst hp
  exact go_pure (fun T ha hx target hr => XS.astore ha hx rfl hd rfl hv hl hr) k
theorem go_iadd {x y z : Int32} (hd : decode c.code pc = .ok (.iadd, 1)) (hp : pc + 1 = pc') (hz : x + y = z) (k : Go W EL Z a0 own p l e R s m args below meth c F h cells slots (mkF m pc' ls (.int z :: st))) : Go W EL Z a0 own p l e R s m args below meth c F h cells slots (mkF m pc ls (.int y :: .int x :: st)) := by
  subst hp hz
  exact go_pure (fun T ha hx target hr => XS.iadd ha hx rfl hd rfl hr) k
theorem go_isub {x y z : Int32} (hd : decode c.code pc = .ok (.isub, 1)) (hp : pc + 1 = pc') (hz : x - y = z) (k : Go W EL Z a0 own p l e R s m args below meth c F h cells slots (mkF m pc' ls (.int z :: st))) : Go W EL Z a0 own p l e R s m args below meth c F h cells slots (mkF m pc ls (.int y :: .int x :: st)) := by
  subst hp hz
  exact go_pure (fun T ha hx target hr => XS.isub ha hx rfl hd rfl hr) k
theorem go_iand {x y z : Int32} (hd : decode c.code pc = .ok (.iand, 1)) (hp : pc + 1 = pc') (hz : x &&& y = z) (k : Go W EL Z a0 own p l e R s m args below meth c F h cells slots (mkF m pc' ls (.int z :: st))) : Go W EL Z a0 own p l e R s m args below meth c F h cells slots (mkF m pc ls (.int y :: .int x :: st)) := by
  subst hp hz
  exact go_pure (fun T ha hx target hr => XS.iand ha hx rfl hd rfl hr) k
theorem go_ishr {x y z : Int32} (hd : decode c.code pc = .ok (.ishr, 1)) (hp : pc + 1 = pc') (hz : x >>> (y &&& 31) = z) (k : Go W EL Z a0 own p l e R s m args below meth c F h cells slots (mkF m pc' ls (.int z :: st))) : Go W EL Z a0 own p l e R s m args below meth c F h cells slots (mkF m pc ls (.int y :: .int x :: st)) := by
  subst hp hz
  exact go_pure (fun T ha hx target hr => XT.ishr ha hx rfl hd rfl hr) k
theorem go_iushr {x y z : Int32} (hd : decode c.code pc = .ok (.iushr, 1)) (hp : pc + 1 = pc') (hz : XT.ushr x y = z) (k : Go W EL Z a0 own p l e R s m args below meth c F h cells slots (mkF m pc' ls (.int z :: st))) : Go W EL Z a0 own p l e R s m args below meth c F h cells slots (mkF m pc ls (.int y :: .int x :: st)) := by
  subst hp hz
  exact go_pure (fun T ha hx target hr => XT.iushr ha hx rfl hd rfl hr) k
theorem go_irem {x y z : Int32} (hd : decode c.code pc = .ok (.irem, 1)) (hp : pc + 1 = pc') (hy : y ≠ 0) (hz : x % y = z) (k : Go W EL Z a0 own p l e R s m args below meth c F h cells slots (mkF m pc' ls (.int z :: st))) : Go W EL Z a0 own p l e R s m args below meth c F h cells slots (mkF m pc ls (.int y :: .int x :: st)) := by
  subst hp hz
  intro T P
  obtain ⟨t, o, h1, h2⟩ := k T P
  obtain ⟨vm0, k0, locs, -, X, -, hx, -⟩ := P
  exact ⟨t, o, iremM X hx rfl hd rfl hy h1, h2⟩
theorem go_i2c {x : Int32} {z : Int32} (hd : decode c.code pc = .ok (.i2c, 1)) (hp : pc + 1 = pc') (hz : x.toUInt32.toUInt16.toUInt32.toInt32 = z) (k : Go W EL Z a0 own p l e R s m args below meth c F h cells slots (mkF m pc' ls (.int z :: st))) : Go W EL Z a0 own p l e R s m args below meth c F h cells slots (mkF m pc ls (.int x :: st)) := by
  subst hp hz
  exact go_pure (fun T ha hx target hr => XT.i2c ha hx rfl hd rfl hr) k
theorem go_i2b {x : Int32} {z : Int32} (hd : decode c.code pc = .ok (.i2b, 1)) (hp : pc + 1 = pc') (hz : x.toInt8.toInt32 = z) (k : Go W EL Z a0 own p l e R s m args below meth c F h cells slots (mkF m pc' ls (.int z :: st))) : Go W EL Z a0 own p l e R s m args below meth c F h cells slots (mkF m pc ls (.int x :: st)) := by
  subst hp hz
  exact go_pure (fun T ha hx target hr => XT.i2b ha hx rfl hd rfl hr) k
theorem go_dup {v : Value} (hd : decode c.code pc = .ok (.dup, 1)) (hp : pc + 1 = pc') (hc : v.category = 1) (k : Go W EL Z a0 own p l e R s m args below meth c F h cells slots (mkF m pc' ls (v :: v :: st))) : Go W EL Z a0 own p l e R s m args below meth c F h cells slots (mkF m pc ls (v :: st)) := by
  subst hp
  exact go_pure (fun T ha hx target hr => XS.dup ha hx rfl hd rfl hc hr) k
theorem go_pop {v : Value} (hd : decode c.code pc = .ok (.pop, 1)) (hp : pc + 1 = pc') (hc : v.category = 1) (k : Go W EL Z a0 own p l e R s m args below meth c F h cells slots (mkF m pc' ls (st))) : Go W EL Z a0 own p l e R s m args below meth c F h cells slots (mkF m pc ls (v :: st)) := by
  subst hp
  exact go_pure (fun T ha hx target hr => XT.pop ha hx rfl hd rfl hc hr) k
theorem go_iinc {i : Nat} {q : Int} {x : Int32} (hd : decode c.code pc = .ok (.iinc i q, 3)) (hp : pc + 3 = pc') (hl : ls[i]? = some (.val (.int x))) {y : Int32} (hy : x + Int32.ofInt q = y) (hl' : storeLocals ls i (.int y) = some ls') (k : Go W EL Z a0 own p l e R s m args below meth c F h cells slots (mkF m pc' ls' st)) : Go W EL Z a0 own p l e R s m args below meth c F h cells slots (mkF m pc ls st) := by
  subst hp hy
  exact go_pure (fun T ha hx target hr => XS.iinc ha hx rfl hd hl hl' hr) k
theorem go_goto {o : Int} (hd : decode c.code pc = .ok (.goto o, 3)) (ho : 0 ≤ (pc : Int) + o) (hp : ((pc : Int) + o).toNat = pc') (k : Go W EL Z a0 own p l e R s m args below meth c F h cells slots (mkF m pc' ls st)) : Go W EL Z a0 own p l e R s m args below meth c F h cells slots (mkF m pc ls st) :=
  go_pure (fun T ha hx target hr => XS.goto ha hx rfl rfl hd ho hp hr) k
theorem go_ifT {o : Int} {cd : ClassFile.Cond} {x : Int32} (hd : decode c.code pc = .ok (.ifCond cd o, 3)) (ho : 0 ≤ (pc : Int) + o) (hp : ((pc : Int) + o).toNat = pc') (hc : ifCond.holds cd x = true) (k : Go W EL Z a0 own p l e R s m args below meth c F h cells slots (mkF m pc' ls st)) : Go W EL Z a0 own p l e R s m args below meth c F h cells slots (mkF m pc ls (.int x :: st)) :=
  go_pure (fun T ha hx target hr => XS.ifYes ha hx rfl rfl hd rfl hc ho hp hr) k
theorem go_ifF {o : Int} {cd : ClassFile.Cond} {x : Int32} (hd : decode c.code pc = .ok (.ifCond cd o, 3)) (hp : pc + 3 = pc') (hc : ifCond.holds cd x = false) (k : Go W EL Z a0 own p l e R s m args below meth c F h cells slots (mkF m pc' ls st)) : Go W EL Z a0 own p l e R s m args below meth c F h cells slots (mkF m pc ls (.int x :: st)) := by
  subst hp
  exact go_pure (fun T ha hx target hr => XS.ifNo ha hx rfl hd rfl hc hr) k
theorem go_icT {o : Int} {cd : ClassFile.Cond} {x y : Int32} (hd : decode c.code pc = .ok (.if_icmp cd o, 3)) (ho : 0 ≤ (pc : Int) + o) (hp : ((pc : Int) + o).toNat = pc') (hc : if_icmp.holds cd x y = true) (k : Go W EL Z a0 own p l e R s m args below meth c F h cells slots (mkF m pc' ls st)) : Go W EL Z a0 own p l e R s m args below meth c F h cells slots (mkF m pc ls (.int y :: .int x :: st)) :=
  go_pure (fun T ha hx target hr => XS.icmpYes ha hx rfl rfl hd rfl hc ho hp hr) k
theorem go_icF {o : Int} {cd : ClassFile.Cond} {x y : Int32} (hd : decode c.code pc = .ok (.if_icmp cd o, 3)) (hp : pc + 3 = pc') (hc : if_icmp.holds cd x y = false) (k : Go W EL Z a0 own p l e R s m args below meth c F h cells slots (mkF m pc' ls st)) : Go W EL Z a0 own p l e R s m args below meth c F h cells slots (mkF m pc ls (.int y :: .int x :: st)) := by
  subst hp
  exact go_pure (fun T ha hx target hr => XS.icmpNo ha hx rfl hd rfl hc hr) k
theorem go_acF {o : Int} {cd : ClassFile.ACond} {x y : Value} (hd : decode c.code pc = .ok (.if_acmp cd o, 3)) (hp : pc + 3 = pc') (hx1 : x.isRef = true) (hy1 : y.isRef = true) (hc : XT.acmp cd x y = false) (k : Go W EL Z a0 own p l e R s m args below meth c F h cells slots (mkF m pc' ls st)) : Go W EL Z a0 own p l e R s m args below meth c F h cells slots (mkF m pc ls (y :: x :: st)) := by
  subst hp
  exact go_pure (fun T ha hx target hr => XT.acmpNo ha hx rfl hd rfl hx1 hy1 hc hr) k
theorem go_nullF {o : Int} {b : Addr} (hd : decode c.code pc = .ok (.ifnull o, 3)) (hp : pc + 3 = pc') (k : Go W EL Z a0 own p l e R s m args below meth c F h cells slots (mkF m pc' ls st)) : Go W EL Z a0 own p l e R s m args below meth c F h cells slots (mkF m pc ls (.ref b :: st)) := by
  subst hp
  exact go_pure (fun T ha hx target hr => XS.ifnullNo ha hx rfl hd rfl hr) k
theorem go_getF {a : Addr} {v : Value} {R0 O n d : String} {index : Nat} (w : (Jvm.Cond.fieldLink own index R0 n d).before a0 Z = true) (via : Via Z R0 O n d) (F0 : Fld Z h a O n d v) (hd : decode c.code pc = .ok (.getfield index, 3)) (hp : pc + 3 = pc') (k : Go W EL Z a0 own p l e R s m args below meth c F h cells slots (mkF m pc' ls (v :: st))) : Go W EL Z a0 own p l e R s m args below meth c F h cells slots (mkF m pc ls (.ref a :: st)) := by
  subst hp
  intro T P
  obtain ⟨vm0, k0, locs, hWf, X, eT, hx, hZ, hown, hS, hk, hEL, hC, hN, hO⟩ := P
  obtain ⟨T', X', e', st'⟩ := getF X hx hZ hown (host := "") (Or.inl w) via eT F0 (g := mkF m pc ls (.ref a :: st)) rfl rfl hd
  obtain ⟨t, o, h1, h2⟩ := k T' ⟨vm0, k0, locs, hWf, X', e', hx, hZ, hown, hS, hk, hEL, hC, hN, hO⟩
  exact ⟨t, o, st' _ h1, h2⟩
theorem go_getS {v : Value} {O n d : String} {index : Nat} (w : (Jvm.Cond.fieldLink own index O n d).before a0 Z = true) (F0 : Sta Z h O n d v) (hd : decode c.code pc = .ok (.getstatic index, 3)) (hp : pc + 3 = pc') (k : Go W EL Z a0 own p l e R s m args below meth c F h cells slots (mkF m pc' ls (v :: st))) : Go W EL Z a0 own p l e R s m args below meth c F h cells slots (mkF m pc ls st) := by
  subst hp
  intro T P
  obtain ⟨vm0, k0, locs, hWf, X, eT, hx, hZ, hown, hS, hk, hEL, hC, hN, hO⟩ := P
  obtain ⟨T', X', e', st'⟩ := getS X hx hZ hown (host := "") w Via.refl eT F0 (g := mkF m pc ls st) rfl hd
  obtain ⟨t, o, h1, h2⟩ := k T' ⟨vm0, k0, locs, hWf, X', e', hx, hZ, hown, hS, hk, hEL, hC, hN, hO⟩
  exact ⟨t, o, st' _ h1, h2⟩
theorem safe_of {vm : Vm} {a : Addr} {C : String} (hal : Z.vm.Alike vm) (E : Exa Z h a C) (hs : (C ≠ "java/lang/String" ∧ C ≠ "[B") ∨ EL = []) : Safe Z EL vm h a := by
  rcases hs with hs | rfl
  · exact Safe.exa hal E hs.1 hs.2
  · exact safe_nil
theorem go_putF {a : Addr} {v v' old : Value} {R0 O n d C : String} {index kk : Nat} {ty : FieldType} (w : (Jvm.Cond.fieldLink own index R0 n d).before a0 Z = true) (via : Via Z R0 O n d) (F0 : Fld Z h a O n d old) (E : Exa Z h a C) (L : (Jvm.Cond.lays C O n d).before a0 Z = true ∨ ((Jvm.Cond.laysFinal C O n d).before a0 Z = true ∧ own = O ∧ meth.name = "<init>")) (wi : (Jvm.Cond.instantiable C kk).before a0 Z = true)
    (hty : parseFieldDescriptor d = some ty) (hn : narrow ty v = v') (hf : fits ty v' = true) (ha : Z.heap.size ≤ a) (hs : (C ≠ "java/lang/String" ∧ C ≠ "[B") ∨ EL = []) (hd : decode c.code pc = .ok (.putfield index, 3)) (hp : pc + 3 = pc')
    (k : ∀ h', Wr h h' a (Jvm.RoadKit.slotOf Z O n d) v' → Go W EL Z a0 own p l e R s m args below meth c F h' cells slots (mkF m pc' ls st)) : Go W EL Z a0 own p l e R s m args below meth c F h cells slots (mkF m pc ls (v :: .ref a :: st)) := by
  subst hp
  intro T P
  obtain ⟨vm0, k0, locs, hWf, X, eT, hx, hZ, hown, hS, hk, hEL, hC, hN, hO⟩ := P
  obtain ⟨T', h', X', e', W', st'⟩ := putFN X hx hZ hown w via eT F0 E L wi hty hn hf (g := mkF m pc ls (v :: .ref a :: st)) rfl rfl hd
  have S0 : Safe Z EL vm0 h a := safe_of hZ.alike E hs
  obtain ⟨t, o, h1, h2⟩ := k h' W' T' ⟨vm0, k0, _, hWf, X', e', hx, hZ, hown, hS, by rw [W'.size]; exact hk, hEL, hC.trans (CHr.wr W' S0 hC.1), Fr.snoc X' hN ha, hO.wr W' ha⟩
  exact ⟨t, o, st' _ h1, h2⟩
theorem go_newO {C : String} {index n : Nat} (w : (Jvm.Cond.classLink own index C).before a0 Z = true) (wi : (Jvm.Cond.instantiable C n).before a0 Z = true) (wz : (Jvm.Cond.initialized C).before a0 Z = true) (hd : decode c.code pc = .ok (.new index, 3)) (hp : pc + 3 = pc') (hcl : cells + 1 = cells') (hsl : slots + n = slots') (hc : cells' ≤ R.cells) (hl : slots' ≤ R.slots)
    (k : ∀ (h' : Heap) (a : Addr), h.size = a → Ext h h' → Exa Z h' a C → (∀ {O nm d : String} {ty : FieldType}, Laid Z a0 C O nm d → parseFieldDescriptor d = some ty → Fld Z h' a O nm d (defaultValue ty)) → Unt h' a → Go W EL Z a0 own p l e R s m args below meth c F h' cells' slots' (mkF m pc' ls (.ref a :: st))) : Go W EL Z a0 own p l e R s m args below meth c F h cells slots (mkF m pc ls st) := by
  subst hp hcl hsl
  intro T P
  obtain ⟨vm0, k0, locs, hWf, X, eT, hx, hZ, hown, hS, hk, hEL, hC, hN, hO⟩ := P
  obtain ⟨T', h', X', e', E', A', D', U', st'⟩ := newO X hx hZ hown w wi wz eT (g := mkF m pc ls st) rfl hd hc hl
  obtain ⟨t, o, h1, h2⟩ := k h' h.size rfl E' A' D' U' T' ⟨vm0, k0, _, hWf, X', e', hx, hZ, hown, hS, Nat.le_trans hk E'.1, hEL, hC.trans (CHr.ext E' hC.1), hN, hO.ext E'⟩
  exact ⟨t, o, st' _ h1, h2⟩
theorem go_newP {aty : ArrayType} {n : Int32} {cap : Nat} {vs : List Value} {ty : FieldType} {dv : Value} (w : (Jvm.Cond.arrayClass ty).before a0 Z = true) (hty : newarray.typeOf aty = ty) (hdv : defaultValue ty = dv) (hd : decode c.code pc = .ok (.newarray aty, 2)) (hp : pc + 2 = pc') (hn : ¬ n < 0) (hcap : n.toNatClampNeg = cap) (hb : cap * 8 ≤ 536870912) (hvs : List.replicate cap dv = vs) (hcl : cells + 1 = cells') (hsl : slots + cap = slots') (hc : cells' ≤ R.cells) (hl : slots' ≤ R.slots)
    (k : ∀ (h' : Heap) (a : Addr) (kA : ClassId), h.size = a → Ext h h' → Arv Z h' a kA ty n vs dv → Go W EL Z a0 own p l e R s m args below meth c F h' cells' slots' (mkF m pc' ls (.ref a :: st))) : Go W EL Z a0 own p l e R s m args below meth c F h cells slots (mkF m pc ls (.int n :: st)) := by
  subst hp hcl hsl hty hdv hvs
  intro T P
  obtain ⟨vm0, k0, locs, hWf, X, eT, hx, hZ, hown, hS, hk, hEL, hC, hN, hO⟩ := P
  obtain ⟨T', h', kA, X', e', E', A', st'⟩ := newP X hx hZ w eT (g := mkF m pc ls (.int n :: st)) rfl hd rfl hn (cap := cap) (Nat.le_of_eq hcap) hb hc hl
  have V : Arv Z h' h.size kA (newarray.typeOf aty) n (List.replicate cap (defaultValue (newarray.typeOf aty))) (defaultValue (newarray.typeOf aty)) := by
    have q := (Arv.new A' hn).pad (pad_rep [] (defaultValue (newarray.typeOf aty)) cap)
    simpa using q
  obtain ⟨t, o, h1, h2⟩ := k h' h.size kA rfl E' V T' ⟨vm0, k0, _, hWf, X', e', hx, hZ, hown, hS, Nat.le_trans hk E'.1, hEL, hC.trans (CHr.ext E' hC.1), hN, hO.ext E'⟩
  exact ⟨t, o, st' _ h1, h2⟩
theorem go_stC {a : Addr} {kA : ClassId} {z j x x' : Int32} {vs vs' : List Value} {dv : Value} {i : Nat} (A : Arv Z h a kA .char z vs dv) (ha : Z.heap.size ≤ a) (hj0 : ¬ j < 0) (hjz : j < z) (hji : j.toNatClampNeg = i) (hi : i < vs.length) (hx' : x.toUInt32.toUInt16.toUInt32.toInt32 = x') (hvs : vs.set i (.int x') = vs') (hd : decode c.code pc = .ok (.castore, 1)) (hp : pc + 1 = pc')
    (k : ∀ h', Wr h h' a i (.int x') → Arv Z h' a kA .char z vs' dv → Go W EL Z a0 own p l e R s m args below meth c F h' cells slots (mkF m pc' ls st)) : Go W EL Z a0 own p l e R s m args below meth c F h cells slots (mkF m pc ls (.int x :: .int j :: .ref a :: st)) := by
  subst hp hx' hvs hji
  intro T P
  obtain ⟨vm0, k0, locs, hWf, X, eT, hx, hZ, hown, hS, hk, hEL, hC, hN, hO⟩ := P
  obtain ⟨cl, Ar, q1, S1, N1, H1, G1⟩ := A
  obtain ⟨T', h', X', e', W', st'⟩ := stC X hx hZ eT Ar (j := j) (inb_of S1 ⟨hj0, hjz⟩) (g := mkF m pc ls (.int x :: .int j :: .ref a :: st)) rfl rfl hd
  have S0 : Safe Z EL vm0 h a := Safe.arr hZ.alike Ar (by decide)
  obtain ⟨t, o, h1, h2⟩ := k h' W' (Arv.set Ar q1 S1 N1 H1 G1 (fits_nar_char _) W' _ rfl hi) T' ⟨vm0, k0, _, hWf, X', e', hx, hZ, hown, hS, by rw [W'.size]; exact hk, hEL, hC.trans (CHr.wr W' S0 hC.1), Fr.snoc X' hN ha, hO.wr W' ha⟩
  exact ⟨t, o, st' _ h1, h2⟩
theorem go_caload {a : Addr} {kA : ClassId} {z j : Int32} {vs : List Value} {dv v : Value} {i : Nat} (A : Arv Z h a kA .char z vs dv) (hj0 : ¬ j < 0) (hjz : j < z) (hji : j.toNatClampNeg = i) (hv : vs.getD i dv = v) (hd : decode c.code pc = .ok (.caload, 1)) (hp : pc + 1 = pc')
    (k : Go W EL Z a0 own p l e R s m args below meth c F h cells slots (mkF m pc' ls (v :: st))) : Go W EL Z a0 own p l e R s m args below meth c F h cells slots (mkF m pc ls (.int j :: .ref a :: st)) := by
  subst hp hv hji
  intro T P
  obtain ⟨t, o, h1, h2⟩ := k T P
  obtain ⟨vm0, k0, locs, hWf, X, eT, hx, hZ, hown, hS, hk, hEL, hC, hN, hO⟩ := P
  obtain ⟨cl, Ar, q1, S1, N1, H1, G1⟩ := A
  have hin := inb_of S1 ⟨hj0, hjz⟩
  exact ⟨t, o, X.caload hx (by rw [eT]; exact Ar.1) (State.isArrayOf_alike hZ.alike Ar.2.1) Ar.2.2 hin (H1.at hin rfl) (g := mkF m pc ls (.int j :: .ref a :: st)) rfl rfl hd _ h1, h2⟩
theorem go_baload {a : Addr} {kA : ClassId} {z j : Int32} {vs : List Value} {dv v : Value} {i : Nat} (A : Arv Z h a kA .byte z vs dv) (hj0 : ¬ j < 0) (hjz : j < z) (hji : j.toNatClampNeg = i) (hv : vs.getD i dv = v) (hd : decode c.code pc = .ok (.baload, 1)) (hp : pc + 1 = pc')
    (k : Go W EL Z a0 own p l e R s m args below meth c F h cells slots (mkF m pc' ls (v :: st))) : Go W EL Z a0 own p l e R s m args below meth c F h cells slots (mkF m pc ls (.int j :: .ref a :: st)) := by
  subst hp hv hji
  intro T P
  obtain ⟨t, o, h1, h2⟩ := k T P
  obtain ⟨vm0, k0, locs, hWf, X, eT, hx, hZ, hown, hS, hk, hEL, hC, hN, hO⟩ := P
  obtain ⟨cl, Ar, q1, S1, N1, H1, G1⟩ := A
  have hin := inb_of S1 ⟨hj0, hjz⟩
  exact ⟨t, o, X.baloadBytes hx (by rw [eT]; exact Ar.1) (State.isArrayOf_alike hZ.alike Ar.2.1) Ar.2.2 hin (H1.at hin rfl) (g := mkF m pc ls (.int j :: .ref a :: st)) rfl rfl hd _ h1, h2⟩
theorem go_arraylength {a : Addr} {kA : ClassId} {z : Int32} {vs : List Value} {dv : Value} {ty : FieldType} (A : Arv Z h a kA ty z vs dv) (hd : decode c.code pc = .ok (.arraylength, 1)) (hp : pc + 1 = pc')
    (k : Go W EL Z a0 own p l e R s m args below meth c F h cells slots (mkF m pc' ls (.int z :: st))) : Go W EL Z a0 own p l e R s m args below meth c F h cells slots (mkF m pc ls (.ref a :: st)) := by
  subst hp
  intro T P
  obtain ⟨t, o, h1, h2⟩ := k T P
  obtain ⟨vm0, k0, locs, hWf, X, eT, hx, hZ, hown, hS, hk, hEL, hC, hN, hO⟩ := P
  obtain ⟨cl, Ar, q1, S1, N1, H1, G1⟩ := A
  refine ⟨t, o, X.arraylength hx (by rw [eT]; exact Ar.1) (State.isArrayOf_alike hZ.alike Ar.2.1) (g := mkF m pc ls (.ref a :: st)) rfl rfl hd _ ?_, h2⟩
  rw [len_of S1 N1]
  exact h1
theorem go_ldcH {text : String} {index n : Nat} {vs : List Value} {z : Int32} (hWt : W = true) (hmem : (own, index) ∈ EL) (w : (Jvm.Cond.stringLink own index text).before a0 Z = true) (wS : ∀ a ∈ Bundle.stringAtoms, a.before a0 Z = true) (ht : (∀ c ∈ text.toList, c.toNat < 256) ∧ text.toList.map (fun c => Value.int (Jvm.Lit.byteI c.toNat.toUInt16)) = vs) (hz : ¬ z < 0) (hlz : z.toNatClampNeg = vs.length) (hn : 4 * text.toList.length ≤ n) (hbig : n ≤ 536870912) (hd : decode c.code pc = .ok (.ldc index, 2)) (hp : pc + 2 = pc') (hcl : cells + 2 = cells') (hsl : slots + (n + 4) = slots') (hc : cells' ≤ R.cells) (hl : slots' ≤ R.slots)
    (k : ∀ (h' : Heap) (a b : Addr) (kb : ClassId), Ext h h' → Exa Z h' a "java/lang/String" → Fld Z h' a "java/lang/String" "coder" "B" (.int 0) → Fld Z h' a "java/lang/String" "value" "[B" (.ref b) → Arv Z h' b kb .byte z vs (.int 0) → Go W EL Z a0 own p l e R s m args below meth c F h' cells' slots' (mkF m pc' ls (.ref a :: st))) : Go W EL Z a0 own p l e R s m args below meth c F h cells slots (mkF m pc ls st) := by
  subst hp hcl hsl hWt
  intro T P
  obtain ⟨vm0, k0, locs, hWf, X, eT, hx, hZ, hown, hS, hk, hEL, hC, hN, hO⟩ := P
  obtain ⟨a, T', h', k1, b, kb, X', e', E', hS', hk', hZ', hown', q1, q2, q3, q4, -, -, hC', -, -, st'⟩ := ldcCH X hx hZ hown w wS eT hS hk hEL hmem hC.1 ht hz hlz (g := mkF m pc ls st) rfl hd hn hbig hc hl
  obtain ⟨t, o, h1, h2⟩ := k h' a b kb E' q1 q2 q3 q4 T' ⟨T'.vm, k1, _, (fun q => nomatch q), X', e', hx, hZ', hown', hS', hk', hEL, hC.trans hC', hN, hO.ext E'⟩
  exact ⟨t, o, st' _ h1, h2⟩
theorem go_initO {a : Addr} {idx Wd : Nat} (w1 : (Jvm.Cond.methodLink own idx Lib.objectInit).before a0 Z = true) (w2 : (Jvm.Cond.instanceMethod Lib.objectInit).before a0 Z = true) (w3 : (Jvm.Cond.code Lib.objectInit ⟨#[0xb1]⟩ 1 none).before a0 Z = true) (hsize : ls.size = c.maxLocals) (hW : 2 * 0 + (st.map fun v => v.category).sum ≤ Wd) (hf : 1 ≤ R.frames) (hl : Wd + 12 ≤ R.locals) (hd : decode c.code pc = .ok (.invokespecial idx, 3)) (hp : pc + 3 = pc') (k : Go W EL Z a0 own p l e R s m args below meth c F h cells slots (mkF m pc' ls st)) : Go W EL Z a0 own p l e R s m args below meth c F h cells slots (mkF m pc ls (.ref a :: st)) := by
  subst hp
  intro T P
  obtain ⟨vm0, k0, locs, hWf, X, eT, hx, hZ, hown, hS, hk, hEL, hC, hN, hO⟩ := P
  obtain ⟨T', X', e', st'⟩ := initO X hx hZ hown w1 w2 w3 eT (g := mkF m pc ls (.ref a :: st)) rfl hsize rfl hd hf (W := Wd) hW hl
  obtain ⟨t, o, h1, h2⟩ := k T' ⟨vm0, k0, locs, hWf, X', e', hx, hZ, hown, hS, hk, hEL, hC, hN, hO⟩
  exact ⟨t, o, st' _ h1, h2⟩
-- calls: what a payment gives back as a point of the caller's walk
theorem pt_back {vm0 vm₁ : Vm} {k0 : Nat} {locs L : List Loc} {T : State} {B : Pt} {ws : List Addr} {dc ds : Nat} (hWf : W = false → vm0 = s.vm) (eT : T.heap = h) (hx : p.tables.exec = Jvm.exec) (hZ : Z.Warmed39 vm0) (hown : vm0.findClass own = some m.cls) (hS : s.Since vm0 k0) (hk : k0 ≤ h.size) (hEL : EW Z a0 EL) (hC : CHr Z EL s.vm s.heap vm0 h) (hN : Fr Z.heap.size locs) (hO : Old Z Z.heap.size h)
    (X : Stand p l e R (s.setVm vm0) m args below meth c B.U B.locs B.cells B.slots) (hL : Fr Z.heap.size L) (K : Keep h B.U.heap ws) (b1 : B.locs = locs ++ L) (b2 : B.cells = cells + dc) (b3 : B.slots = slots + ds) (hws : ∀ x ∈ ws, Z.heap.size ≤ x) (hsf : ∀ vm, Z.vm.Alike vm → ∀ x ∈ ws, Safe Z EL vm h x) (hcl : cells + dc = cells') (hsl : slots + ds = slots') :
    PT W EL Z a0 own p l e R s m args below meth c B.U B.U.heap cells' slots' := by
  subst hcl hsl
  rw [b1, b2, b3] at X
  exact ⟨vm0, k0, _, hWf, X, rfl, hx, hZ, hown, hS, Nat.le_trans hk K.1, hEL, hC.trans (CHr.keep K (hsf _ hZ.alike) hC.1), hN.app hL, hO.keep K hws⟩
theorem pt_backS {vm0 : Vm} {k0 : Nat} {locs L : List Loc} {B : Pt} {ws : List Addr} {dc ds : Nat} (hWt : W = true) (hx : p.tables.exec = Jvm.exec) (hZ : Z.Warmed39 vm0) (hown : vm0.findClass own = some m.cls) (hS : s.Since vm0 k0) (hk : k0 ≤ h.size) (hEL : EW Z a0 EL) (hC : CHr Z EL s.vm s.heap vm0 h) (hN : Fr Z.heap.size locs) (hO : Old Z Z.heap.size h)
    (X : Stand p l e R (s.setVm B.U.vm) m args below meth c B.U B.locs B.cells B.slots) (S2 : (s.setVm vm0).Since B.U.vm B.U.heap.size) (hL : Fr Z.heap.size L) (K : Keep h B.U.heap ws) (b1 : B.locs = locs ++ L) (b2 : B.cells = cells + dc) (b3 : B.slots = slots + ds) (b4 : CHr Z EL vm0 h B.U.vm B.U.heap) (hws : ∀ x ∈ ws, Z.heap.size ≤ x) (hcl : cells + dc = cells') (hsl : slots + ds = slots') :
    PT W EL Z a0 own p l e R s m args below meth c B.U B.U.heap cells' slots' := by
  subst hcl hsl hWt
  rw [b1, b2, b3] at X
  have hZ' : Z.Warmed39 B.U.vm := State.Warmed39.trans (t := s.setVm vm0) (s := Z) hZ S2.1
  have hown' : B.U.vm.findClass own = some m.cls := by
    rw [S2.1.alike.findClass]
    exact hown
  exact ⟨B.U.vm, B.U.heap.size, _, (fun q => nomatch q), X, rfl, hx, hZ', hown', hS.trans S2 (Nat.le_trans hk K.1), Nat.le_refl _, hEL, hC.trans b4, hN.app hL, hO.keep K hws⟩
theorem callS0 {index Wd dc ds : Nat} {y : MethodName} {bytes : ByteArray} {maxL : Nat} {ret : Option FieldType} {argsL rest : List Value} {ws : List Addr} {Q : Option Value → Heap → Prop} {ps : List FieldType} {r : Option FieldType}
    (hK : Pay l R p e below Z y Wd argsL.toArray h dc ds ws Q) (w1 : (Jvm.Cond.methodLink own index y).before a0 Z = true) (w2 : (Jvm.Cond.static y).before a0 Z = true) (w3 : (Jvm.Cond.initialized y.cls).before a0 Z = true) (w4 : (Jvm.Cond.code y bytes maxL ret).before a0 Z = true) (hy : y.cls ≠ "java/lang/invoke/MethodHandle" ∧ y.cls ≠ "java/lang/invoke/VarHandle")
    (hpd : parseMethodDescriptor y.desc = some ⟨ps, r⟩) (hln : argsL.length = ps.length) (hst : st = argsL.reverse ++ rest) (hsize : ls.size = c.maxLocals) (hW : 2 * 0 + (rest.map fun v => v.category).sum ≤ Wd) (hcl : cells + dc = cells') (hsl : slots + ds = slots') (hc : cells' ≤ R.cells) (hs : slots' ≤ R.slots) (hws : ∀ x ∈ ws, Z.heap.size ≤ x) (hsf : ∀ vm, Z.vm.Alike vm → ∀ x ∈ ws, Safe Z EL vm h x)
    (hd : decode c.code pc = .ok (.invokestatic index, 3)) (k : ∀ (v : Option Value) (h' : Heap), Q v h' → Keep h h' ws → Go W EL Z a0 own p l e R s m args below meth c F h' cells' slots' (mkF m (pc + 3) ls (v.toList ++ rest))) : Go W EL Z a0 own p l e R s m args below meth c F h cells slots (mkF m pc ls st) := by
  intro T P
  obtain ⟨vm0, k0, locs, hWf, X, eT, hx, hZ, hown, hS, hk, hEL, hC, hN, hO⟩ := P
  obtain ⟨v, vm₁, B, -, X', ⟨L, ⟨q1, q2, q3⟩, b1, b2, b3⟩, st'⟩ := Jvm.LawKit.callS X hx hown (mvT hZ w1) (mvT hZ w2) (mvT hZ w3) (mvT hZ w4) hy (hK _ _ hZ) (g := mkF m pc ls st) rfl hsize (lenOf hpd hln) hst hW hd (fun _ _ => ⟨rfl, eT, by rw [hcl]; exact hc, by rw [hsl]; exact hs⟩)
  obtain ⟨t, o, h1, h2⟩ := k v _ q1 q3 B.U (pt_back (vm₁ := vm₁) hWf eT hx hZ hown hS hk hEL hC hN hO X' q2 q3 b1 b2 b3 hws hsf hcl hsl)
  exact ⟨t, o, st' _ h1, h2⟩
theorem callSW0 {index Wd dc ds : Nat} {y : MethodName} {bytes : ByteArray} {maxL : Nat} {ret : Option FieldType} {argsL rest : List Value} {ws : List Addr} {Q : Option Value → Heap → Prop} {ps : List FieldType} {r : Option FieldType} (hWt : W = true)
    (hK : PayW EL l R p e below Z y Wd argsL.toArray h dc ds ws Q) (w1 : (Jvm.Cond.methodLink own index y).before a0 Z = true) (w2 : (Jvm.Cond.static y).before a0 Z = true) (w3 : (Jvm.Cond.initialized y.cls).before a0 Z = true) (w4 : (Jvm.Cond.code y bytes maxL ret).before a0 Z = true) (hy : y.cls ≠ "java/lang/invoke/MethodHandle" ∧ y.cls ≠ "java/lang/invoke/VarHandle")
    (hpd : parseMethodDescriptor y.desc = some ⟨ps, r⟩) (hln : argsL.length = ps.length) (hst : st = argsL.reverse ++ rest) (hsize : ls.size = c.maxLocals) (hW : 2 * 0 + (rest.map fun v => v.category).sum ≤ Wd) (hcl : cells + dc = cells') (hsl : slots + ds = slots') (hc : cells' ≤ R.cells) (hs : slots' ≤ R.slots) (hws : ∀ x ∈ ws, Z.heap.size ≤ x)
    (hd : decode c.code pc = .ok (.invokestatic index, 3)) (k : ∀ (v : Option Value) (h' : Heap), Q v h' → Keep h h' ws → Go W EL Z a0 own p l e R s m args below meth c F h' cells' slots' (mkF m (pc + 3) ls (v.toList ++ rest))) : Go W EL Z a0 own p l e R s m args below meth c F h cells slots (mkF m pc ls st) := by
  intro T P
  obtain ⟨vm0, k0, locs, hWf, X, eT, hx, hZ, hown, hS, hk, hEL, hC, hN, hO⟩ := P
  obtain ⟨v, vm₁, B, -, X', S2, -, ⟨L, ⟨q1, q2, q3⟩, b1, b2, b3, b4⟩, st'⟩ := callSS X hx hown (mvT hZ w1) (mvT hZ w2) (mvT hZ w3) (mvT hZ w4) hy (hK s vm0 _ hZ hC.1) (g := mkF m pc ls st) rfl hsize (lenOf hpd hln) hst hW hd (fun _ _ => ⟨rfl, eT, by rw [hcl]; exact hc, by rw [hsl]; exact hs⟩)
  obtain ⟨t, o, h1, h2⟩ := k v _ q1 q3 B.U (pt_backS hWt hx hZ hown hS hk hEL hC hN hO X' S2 q2 q3 b1 b2 b3 b4 hws hcl hsl)
  exact ⟨t, o, st'.trans h1, h2⟩
theorem callI0 {index Wd dc ds : Nat} {y : MethodName} {bytes : ByteArray} {maxL : Nat} {a : Addr} {argsL rest : List Value} {ws : List Addr} {Q : Option Value → Heap → Prop} {ps : List FieldType} {r : Option FieldType}
    (hK : Pay l R p e below Z y Wd (.ref a :: argsL).toArray h dc ds ws Q) (hy1 : y.name = "<init>") (w1 : (Jvm.Cond.methodLink own index y).before a0 Z = true) (w2 : (Jvm.Cond.instanceMethod y).before a0 Z = true) (w4 : (Jvm.Cond.code y bytes maxL none).before a0 Z = true) (hy : y.cls ≠ "java/lang/invoke/MethodHandle" ∧ y.cls ≠ "java/lang/invoke/VarHandle")
    (hpd : parseMethodDescriptor y.desc = some ⟨ps, r⟩) (hln : argsL.length = ps.length) (hst : st = argsL.reverse ++ .ref a :: rest) (hsize : ls.size = c.maxLocals) (hW : 2 * 0 + (rest.map fun v => v.category).sum ≤ Wd) (hcl : cells + dc = cells') (hsl : slots + ds = slots') (hc : cells' ≤ R.cells) (hs : slots' ≤ R.slots) (hws : ∀ x ∈ ws, Z.heap.size ≤ x) (hsf : ∀ vm, Z.vm.Alike vm → ∀ x ∈ ws, Safe Z EL vm h x)
    (hd : decode c.code pc = .ok (.invokespecial index, 3)) (k : ∀ (v : Option Value) (h' : Heap), Q v h' → Keep h h' ws → Go W EL Z a0 own p l e R s m args below meth c F h' cells' slots' (mkF m (pc + 3) ls (v.toList ++ rest))) : Go W EL Z a0 own p l e R s m args below meth c F h cells slots (mkF m pc ls st) := by
  intro T P
  obtain ⟨vm0, k0, locs, hWf, X, eT, hx, hZ, hown, hS, hk, hEL, hC, hN, hO⟩ := P
  obtain ⟨v, vm₁, B, -, X', ⟨L, ⟨q1, q2, q3⟩, b1, b2, b3⟩, st'⟩ := X.specialBack hx hy1 hown (mvT hZ w1) (mvT hZ w2) (mvT hZ w4) hy (hK _ _ hZ) (g := mkF m pc ls st) rfl hsize (Steps.refl _) (lenOf hpd hln) hst hW hd (fun _ _ => ⟨rfl, eT, by rw [hcl]; exact hc, by rw [hsl]; exact hs⟩)
  obtain ⟨t, o, h1, h2⟩ := k v _ q1 q3 B.U (pt_back (vm₁ := vm₁) hWf eT hx hZ hown hS hk hEL hC hN hO X' q2 q3 b1 b2 b3 hws hsf hcl hsl)
  exact ⟨t, o, st'.trans h1, h2⟩
theorem callIW0 {index Wd dc ds : Nat} {y : MethodName} {bytes : ByteArray} {maxL : Nat} {a : Addr} {argsL rest : List Value} {ws : List Addr} {Q : Option Value → Heap → Prop} {ps : List FieldType} {r : Option FieldType} (hWt : W = true)
    (hK : PayW EL l R p e below Z y Wd (.ref a :: argsL).toArray h dc ds ws Q) (hy1 : y.name = "<init>") (w1 : (Jvm.Cond.methodLink own index y).before a0 Z = true) (w2 : (Jvm.Cond.instanceMethod y).before a0 Z = true) (w4 : (Jvm.Cond.code y bytes maxL none).before a0 Z = true) (hy : y.cls ≠ "java/lang/invoke/MethodHandle" ∧ y.cls ≠ "java/lang/invoke/VarHandle")
    (hpd : parseMethodDescriptor y.desc = some ⟨ps, r⟩) (hln : argsL.length = ps.length) (hst : st = argsL.reverse ++ .ref a :: rest) (hsize : ls.size = c.maxLocals) (hW : 2 * 0 + (rest.map fun v => v.category).sum ≤ Wd) (hcl : cells + dc = cells') (hsl : slots + ds = slots') (hc : cells' ≤ R.cells) (hs : slots' ≤ R.slots) (hws : ∀ x ∈ ws, Z.heap.size ≤ x)
    (hd : decode c.code pc = .ok (.invokespecial index, 3)) (k : ∀ (v : Option Value) (h' : Heap), Q v h' → Keep h h' ws → Go W EL Z a0 own p l e R s m args below meth c F h' cells' slots' (mkF m (pc + 3) ls (v.toList ++ rest))) : Go W EL Z a0 own p l e R s m args below meth c F h cells slots (mkF m pc ls st) := by
  intro T P
  obtain ⟨vm0, k0, locs, hWf, X, eT, hx, hZ, hown, hS, hk, hEL, hC, hN, hO⟩ := P
  obtain ⟨v, vm₁, B, -, X', S2, -, ⟨L, ⟨q1, q2, q3⟩, b1, b2, b3, b4⟩, st'⟩ := X.specialBackS hx hy1 hown (mvT hZ w1) (mvT hZ w2) (mvT hZ w4) hy (hK s vm0 _ hZ hC.1) (g := mkF m pc ls st) rfl hsize (Steps.refl _) (lenOf hpd hln) hst hW hd (fun _ _ => ⟨rfl, eT, by rw [hcl]; exact hc, by rw [hsl]; exact hs⟩)
  obtain ⟨t, o, h1, h2⟩ := k v _ q1 q3 B.U (pt_backS hWt hx hZ hown hS hk hEL hC hN hO X' S2 q2 q3 b1 b2 b3 b4 hws hcl hsl)
  exact ⟨t, o, st'.trans h1, h2⟩
theorem callV0 {index Wd dc ds : Nat} {y z : MethodName} {C C' : String} {a : Addr} {argsL rest : List Value} {ws : List Addr} {Q : Option Value → Heap → Prop} {ps : List FieldType} {r : Option FieldType}
    (hK : Pay l R p e below Z z Wd (.ref a :: argsL).toArray h dc ds ws Q) (E : Exa Z h a C) (w1 : (Jvm.Cond.methodLink own index y).before a0 Z = true) (w2 : (Jvm.Cond.declares y).before a0 Z = true) (w3 : (Jvm.Cond.selects C' y y).before a0 Z = true) (w5 : (Jvm.Cond.selects C y z).before a0 Z = true) (w4 : (Jvm.Cond.instanceMethod z).before a0 Z = true) (hy : y.cls ≠ "java/lang/invoke/MethodHandle" ∧ y.cls ≠ "java/lang/invoke/VarHandle")
    (hpd : parseMethodDescriptor y.desc = some ⟨ps, r⟩) (hln : argsL.length = ps.length) (hst : st = argsL.reverse ++ .ref a :: rest) (hsize : ls.size = c.maxLocals) (hW : 2 * 0 + (rest.map fun v => v.category).sum ≤ Wd) (hcl : cells + dc = cells') (hsl : slots + ds = slots') (hc : cells' ≤ R.cells) (hs : slots' ≤ R.slots) (hws : ∀ x ∈ ws, Z.heap.size ≤ x) (hsf : ∀ vm, Z.vm.Alike vm → ∀ x ∈ ws, Safe Z EL vm h x)
    (hd : decode c.code pc = .ok (.invokevirtual index, 3)) (k : ∀ (v : Option Value) (h' : Heap), Q v h' → Keep h h' ws → Go W EL Z a0 own p l e R s m args below meth c F h' cells' slots' (mkF m (pc + 3) ls (v.toList ++ rest))) : Go W EL Z a0 own p l e R s m args below meth c F h cells slots (mkF m pc ls st) := by
  intro T P
  obtain ⟨vm0, k0, locs, hWf, X, eT, hx, hZ, hown, hS, hk, hEL, hC, hN, hO⟩ := P
  obtain ⟨cB, kB, i1, i2, i3⟩ := isOf (T := T) (s := s.setVm vm0) hZ eT E
  obtain ⟨v, vm₁, B, -, X', ⟨L, ⟨q1, q2, q3⟩, b1, b2, b3⟩, st'⟩ := X.virtualBack hx (y := y) (z := z) hown (mvT hZ w1) (mvT hZ w2) (notFace_of_selects (args := #[]) (mvT hZ w3)) (mvT hZ w5) (mvT hZ w4) hy (hK _ _ hZ) i1 i3 (g := mkF m pc ls st) rfl hsize (Steps.refl _) (lenOf hpd hln) hst hW hd (fun _ _ => ⟨rfl, eT, by rw [hcl]; exact hc, by rw [hsl]; exact hs⟩)
  obtain ⟨t, o, h1, h2⟩ := k v _ q1 q3 B.U (pt_back (vm₁ := vm₁) hWf eT hx hZ hown hS hk hEL hC hN hO X' q2 q3 b1 b2 b3 hws hsf hcl hsl)
  exact ⟨t, o, st'.trans h1, h2⟩
theorem callVW0 {index Wd dc ds : Nat} {y z : MethodName} {C C' : String} {a : Addr} {argsL rest : List Value} {ws : List Addr} {Q : Option Value → Heap → Prop} {ps : List FieldType} {r : Option FieldType} (hWt : W = true)
    (hK : PayW EL l R p e below Z z Wd (.ref a :: argsL).toArray h dc ds ws Q) (E : Exa Z h a C) (w1 : (Jvm.Cond.methodLink own index y).before a0 Z = true) (w2 : (Jvm.Cond.declares y).before a0 Z = true) (w3 : (Jvm.Cond.selects C' y y).before a0 Z = true) (w5 : (Jvm.Cond.selects C y z).before a0 Z = true) (w4 : (Jvm.Cond.instanceMethod z).before a0 Z = true) (hy : y.cls ≠ "java/lang/invoke/MethodHandle" ∧ y.cls ≠ "java/lang/invoke/VarHandle")
    (hpd : parseMethodDescriptor y.desc = some ⟨ps, r⟩) (hln : argsL.length = ps.length) (hst : st = argsL.reverse ++ .ref a :: rest) (hsize : ls.size = c.maxLocals) (hW : 2 * 0 + (rest.map fun v => v.category).sum ≤ Wd) (hcl : cells + dc = cells') (hsl : slots + ds = slots') (hc : cells' ≤ R.cells) (hs : slots' ≤ R.slots) (hws : ∀ x ∈ ws, Z.heap.size ≤ x)
    (hd : decode c.code pc = .ok (.invokevirtual index, 3)) (k : ∀ (v : Option Value) (h' : Heap), Q v h' → Keep h h' ws → Go W EL Z a0 own p l e R s m args below meth c F h' cells' slots' (mkF m (pc + 3) ls (v.toList ++ rest))) : Go W EL Z a0 own p l e R s m args below meth c F h cells slots (mkF m pc ls st) := by
  intro T P
  obtain ⟨vm0, k0, locs, hWf, X, eT, hx, hZ, hown, hS, hk, hEL, hC, hN, hO⟩ := P
  obtain ⟨cB, kB, i1, i2, i3⟩ := isOf (T := T) (s := s.setVm vm0) hZ eT E
  obtain ⟨v, vm₁, B, -, X', S2, -, ⟨L, ⟨q1, q2, q3⟩, b1, b2, b3, b4⟩, st'⟩ := X.virtualBackS hx (y := y) (z := z) hown (mvT hZ w1) (mvT hZ w2) (notFace_of_selects (args := #[]) (mvT hZ w3)) (mvT hZ w5) (mvT hZ w4) hy (hK s vm0 _ hZ hC.1) i1 i3 (g := mkF m pc ls st) rfl hsize (Steps.refl _) (lenOf hpd hln) hst hW hd (fun _ _ => ⟨rfl, eT, by rw [hcl]; exact hc, by rw [hsl]; exact hs⟩)
  obtain ⟨t, o, h1, h2⟩ := k v _ q1 q3 B.U (pt_backS hWt hx hZ hown hS hk hEL hC hN hO X' S2 q2 q3 b1 b2 b3 b4 hws hcl hsl)
  exact ⟨t, o, st'.trans h1, h2⟩
theorem k_v {ws : List Addr} {QV : Value → Heap → Prop} {rest : List Value} (hp : pc + 3 = pc') (k : ∀ (x : Value) (h' : Heap), QV x h' → Keep h h' ws → Go W EL Z a0 own p l e R s m args below meth c F h' cells' slots' (mkF m pc' ls (x :: rest))) : ∀ (v : Option Value) (h' : Heap), rvl QV v h' → Keep h h' ws → Go W EL Z a0 own p l e R s m args below meth c F h' cells' slots' (mkF m (pc + 3) ls (v.toList ++ rest)) := by
  subst hp
  rintro _ h' ⟨x, rfl, q⟩ K
  exact k x h' q K
theorem k_n {ws : List Addr} {QN : Heap → Prop} {rest : List Value} (hp : pc + 3 = pc') (k : ∀ (h' : Heap), QN h' → Keep h h' ws → Go W EL Z a0 own p l e R s m args below meth c F h' cells' slots' (mkF m pc' ls rest)) : ∀ (v : Option Value) (h' : Heap), rno QN v h' → Keep h h' ws → Go W EL Z a0 own p l e R s m args below meth c F h' cells' slots' (mkF m (pc + 3) ls (v.toList ++ rest)) := by
  subst hp
  rintro _ h' ⟨rfl, q⟩ K
  exact k h' q K
-- the end
theorem fin_of {vm0 : Vm} {k0 : Nat} {locs : List Loc} {T : State} {h0 : Heap} {ws : List Addr} {Q : Option Value → Heap → Prop} {dc ds : Nat} {v : Option Value} (hlk : meth.locks = false) (hWf : W = false → vm0 = s.vm) (X : Stand p l e R (s.setVm vm0) m args below meth c T locs cells slots) (eT : T.heap = h) (hZ : Z.Warmed39 vm0) (hS : s.Since vm0 k0) (hk : k0 ≤ h.size) (hEL : EW Z a0 EL) (hC : CHr Z EL s.vm s.heap vm0 h) (hN : Fr Z.heap.size locs) (hv : meth.sig.returnType = none → v = none) (hq : Q v h) (K : Keep h0 h ws) (hc : cells ≤ dc) (hs : slots ≤ ds) :
    ∃ fs, (∀ (f : JFrame) (acts : List Action), f.method = m → f.locked = none → f.entered = [] → (doReturn e (T.setTop f) acts v).1 = T.setFrames fs) ∧ (T.setFrames fs).status = .running ∧ Ended (T.setFrames fs) below (.returned v) ∧ Fend W EL Z s h0 ws Q dc ds (.returned v) (T.setFrames fs) := by
  cases W
  · obtain rfl := hWf rfl
    obtain ⟨fs, hr, hrun, hended, hW, hsame⟩ := X.leave (v := v) hv hlk
    exact ⟨fs, hr, hrun, hended, v, locs, rfl, ⟨by rw [show (T.setFrames fs).heap = h from eT]; exact hq, hN, by rw [show (T.setFrames fs).heap = h from eT]; exact K⟩, (fun q => nomatch q), fun _ => ⟨⟨v, rfl⟩, hW, hsame.mono hc hs⟩⟩
  · obtain ⟨fs, hr, hrun, hended, q1, q2, q3, q4⟩ := X.leaveW hS (by rw [eT]; exact hk) (v := v) hv hlk
    exact ⟨fs, hr, hrun, hended, v, locs, rfl, ⟨by rw [show (T.setFrames fs).heap = h from eT]; exact hq, hN, by rw [show (T.setFrames fs).heap = h from eT]; exact K⟩, fun _ => ⟨by rw [show (T.setFrames fs).heap = h from eT]; exact hC.trans (show CHr Z EL vm0 h T.vm h from CHv.at X hZ hEL hC.1), q1, q2, q3, q4.mono hc hs⟩, (fun q => nomatch q)⟩
theorem go_areturn {v : Value} {t : FieldType} {h0 : Heap} {ws : List Addr} {Q : Option Value → Heap → Prop} {dc ds : Nat} (hret : meth.sig.returnType = some t) (hlk : meth.locks = false) (ht : t.isReference = true) (hv : v.isRef = true) (hd : decode c.code pc = .ok (.areturn, 1)) (hc : cells ≤ dc) (hs : slots ≤ ds) (hq : Q (some v) h) (K : Keep h0 h ws) :
    Go W EL Z a0 own p l e R s m args below meth c (Fend W EL Z s h0 ws Q dc ds) h cells slots (mkF m pc ls [v]) := by
  intro T P
  obtain ⟨vm0, k0, locs, hWf, X, eT, hx, hZ, hown, hS, hk, hEL, hC, hN, hO⟩ := P
  obtain ⟨fs, hr, q1, q2, q3⟩ := fin_of hlk hWf X eT hZ hS hk hEL hC hN (v := some v) (fun q => by rw [hret] at q; cases q) hq K hc hs
  exact ⟨_, _, X.areturnOut hx hv hret ht hd hr, q1, q2, q3⟩
theorem go_return {h0 : Heap} {ws : List Addr} {Q : Option Value → Heap → Prop} {dc ds : Nat} (hret : meth.sig.returnType = none) (hlk : meth.locks = false) (hd : decode c.code pc = .ok (.return_, 1)) (hc : cells ≤ dc) (hs : slots ≤ ds) (hq : Q none h) (K : Keep h0 h ws) :
    Go W EL Z a0 own p l e R s m args below meth c (Fend W EL Z s h0 ws Q dc ds) h cells slots (mkF m pc ls []) := by
  intro T P
  obtain ⟨vm0, k0, locs, hWf, X, eT, hx, hZ, hown, hS, hk, hEL, hC, hN, hO⟩ := P
  obtain ⟨fs, hr, q1, q2, q3⟩ := fin_of hlk hWf X eT hZ hS hk hEL hC hN (v := none) (fun _ => rfl) hq K hc hs
  exact ⟨_, _, X.returnOut hx hret hd hr, q1, q2, q3⟩
theorem go_ireturn {x : Int32} {t : FieldType} {h0 : Heap} {ws : List Addr} {Q : Option Value → Heap → Prop} {dc ds : Nat} (hret : meth.sig.returnType = some t) (hlk : meth.locks = false) (hn : narrow t (.int x) = .int x) (hti : t = .int ∨ t = .boolean ∨ t = .byte ∨ t = .char ∨ t = .short) (hd : decode c.code pc = .ok (.ireturn, 1)) (hc : cells ≤ dc) (hs : slots ≤ ds) (hq : Q (some (.int x)) h) (K : Keep h0 h ws) :
    Go W EL Z a0 own p l e R s m args below meth c (Fend W EL Z s h0 ws Q dc ds) h cells slots (mkF m pc ls [.int x]) := by
  intro T P
  obtain ⟨vm0, k0, locs, hWf, X, eT, hx, hZ, hown, hS, hk, hEL, hC, hN, hO⟩ := P
  obtain ⟨fs, hr, q1, q2, q3⟩ := fin_of hlk hWf X eT hZ hS hk hEL hC hN (v := some (.int x)) (fun q => by rw [hret] at q; cases q) hq K hc hs
  exact ⟨_, _, X.ireturnOut hx hret hn hti hd hr, q1, q2, q3⟩
theorem go_cut {α : Type} {P : α → Prop} {gf : α → JFrame} {g0 : JFrame} (k : ∀ q, P q → Go W EL Z a0 own p l e R s m args below meth c F h cells slots (gf q)) (b : (∀ q, P q → Go W EL Z a0 own p l e R s m args below meth c F h cells slots (gf q)) → Go W EL Z a0 own p l e R s m args below meth c F h cells slots (g0)) : Go W EL Z a0 own p l e R s m args below meth c F h cells slots (g0) := b k
theorem go_acopy {a b : Addr} {kA kB : ClassId} {ty : FieldType} {z z' sp dp nn : Int32} {vs vd vd' : List Value} {dv dd : Value} {index Wd : Nat} (w1 : (Jvm.Cond.methodLink own index Jvm.Stand.acN).before a0 Z = true) (w2 : (Jvm.Cond.native Jvm.Stand.acN).before a0 Z = true) (w3 : (Jvm.Cond.static Jvm.Stand.acN).before a0 Z = true) (w4 : (Jvm.Cond.initialized "java/lang/System").before a0 Z = true) (hE : EL = []) (A : Arv Z h a kA ty z vs dv) (B : Arv Z h b kB ty z' vd dd) (hty : refKind ty = false)
    (h1 : ¬ sp < 0) (h2 : ¬ dp < 0) (h3 : ¬ nn < 0) (h4 : sp.toNatClampNeg + nn.toNatClampNeg ≤ z.toNatClampNeg) (h5 : dp.toNatClampNeg + nn.toNatClampNeg ≤ z'.toNatClampNeg) (hl : dp.toNatClampNeg + nn.toNatClampNeg ≤ vd.length) (hb : Z.heap.size ≤ b) (hvd : vd.take dp.toNatClampNeg ++ ((List.range nn.toNatClampNeg).map fun i => vs.getD (sp.toNatClampNeg + i) dv) ++ vd.drop (dp.toNatClampNeg + nn.toNatClampNeg) = vd')
    (hsize : ls.size = c.maxLocals) (hW : 2 * 0 + (st.map fun v => v.category).sum ≤ Wd) (hf : 1 ≤ R.frames) (hlo : Wd + 18 ≤ R.locals) (hd : decode c.code pc = .ok (.invokestatic index, 3)) (hp : pc + 3 = pc')
    (k : ∀ h', Keep h h' [b] → Arv Z h' b kB ty z' vd' dd → Go W EL Z a0 own p l e R s m args below meth c F h' cells slots (mkF m pc' ls st)) : Go W EL Z a0 own p l e R s m args below meth c F h cells slots (mkF m pc ls (.int nn :: .int dp :: .ref b :: .int sp :: .ref a :: st)) := by
  subst hp hvd hE
  intro T P
  obtain ⟨vm0, k0, locs, hWf, X, eT, hx, hZ, hown, hS, hk, hEL, hC, hN, hO⟩ := P
  obtain ⟨T', h', L, X', e', N', K', A', st'⟩ := cpA X hx hZ hown w1 w2 w3 w4 eT A B (Or.inl ⟨rfl, hty⟩) h1 h2 h3 h4 h5 rfl hl hN hb (g := mkF m pc ls (.int nn :: .int dp :: .ref b :: .int sp :: .ref a :: st)) rfl hsize rfl hd hf (W := Wd) hW hlo
  obtain ⟨t, o, g1, g2⟩ := k h' K' A' T' ⟨vm0, k0, L, hWf, X', e', hx, hZ, hown, hS, Nat.le_trans hk K'.1, hEL, hC.trans (CHr.keep K' (fun _ _ => safe_nil) hC.1), N', hO.keep K' (allS hb all0)⟩
  exact ⟨t, o, st' _ g1, g2⟩
end Own
abbrev EL1 : List (String × Nat) := [("java/lang/String", 7), ("java/lang/StringLatin1", 151)]
def GH (Z : State) (a0 : Array Value) : Prop := (∀ d ∈ tables_1, d.before a0 Z = true) ∧ (∀ d ∈ jdkStatics_1, d.before a0 Z = true) ∧ EW Z a0 EL1 ∧ (narrow_1.value a0 Z none Z [] = some true) ∧ Fit Z
theorem wk {Z : State} {a0 : Array Value} (G : GH Z a0) (k : Nat) {d : Jvm.Cond} (q : tables_1[k]? = some d) : d.before a0 Z = true := G.1 _ (List.mem_of_getElem? q)
theorem jk {Z : State} {a0 : Array Value} (G : GH Z a0) (k : Nat) {d : Jvm.Cond} (q : jdkStatics_1[k]? = some d) : d.before a0 Z = true := G.2.1 _ (List.mem_of_getElem? q)
theorem ew1 {Z : State} {a0 : Array Value} (G : GH Z a0) : EW Z a0 EL1 := G.2.2.1
theorem wS {Z : State} {a0 : Array Value} (G : GH Z a0) : ∀ a ∈ Bundle.stringAtoms, a.before a0 Z = true := fun a ha => G.1 a ((by decide +kernel : ∀ d ∈ Bundle.stringAtoms, d ∈ tables_1) a ha)
theorem cs_of {Z : State} {a0 : Array Value} (G : GH Z a0) : ∃ z, Sta Z Z.heap "java/lang/String" "COMPACT_STRINGS" "Z" (.int z) ∧ ¬ z = 0 := by
  obtain ⟨z, e1⟩ := is_v (Cond.before_iff.mp (jk G 1 rfl))
  exact ⟨z, Sta.start e1 (Or.inl (jk G 0 rfl)), gotF (Cond.eq_ints e1 (Term.int_eval (0))) (not_v (Cond.before_iff.mp (jk G 2 rfl)))⟩
theorem sf_of {Z : State} {a0 : Array Value} (G : GH Z a0) : ∃ v, Sta Z Z.heap "jdk/internal/util/Preconditions" "SIOOBE_FORMATTER" "Ljava/util/function/BiFunction;" v ∧ v.isRef = true := by
  obtain ⟨v, e1, r1⟩ := isR_v (Cond.before_iff.mp (jk G 8 rfl))
  exact ⟨v, Sta.start e1 (Or.inl (jk G 7 rfl)), r1⟩
theorem held_of {s : State} {q : String × Nat} (h : Jvm.Pilot.@@N@@.Jvm.D.constHeld s q.1 q.2) : Jvm.Lit.constHeld s q.1 q.2 := h
theorem nar_c8 {c : Int32} (q : ¬ c < 0 ∧ ¬ (255 : Int32) < c) : narrow .char (.int c) = .int c := by
  show Value.int (nar .char c) = _
  rw [show nar .char c = c.toUInt32.toUInt16.toUInt32.toInt32 from rfl]
  have r := c_i2c c
  obtain ⟨q1, q2⟩ := q
  rw [Int32.lt_iff_toInt_lt] at q1 q2
  have e1 : (255 : Int32).toInt = 255 := by decide
  have e0 : (0 : Int32).toInt = 0 := by decide
  congr 1
  apply Int32.toInt_inj.mp
  omega
section OwnStr
variable {W : Bool} {EL : List (String × Nat)} {Z : State} {a0 : Array Value} {own : String} {p : Program} {l : Launch} {e : Env} {R : Room} {below : List Frame} {h h' : Heap} {x b : Addr} {cs ds : List Int32}
abbrev C8 (c : Int32) : Prop := ¬ c < 0 ∧ ¬ (255 : Int32) < c
theorem c8n : ∀ c ∈ ([] : List Int32), C8 c := fun _ q => nomatch q
theorem c8c {y : Int32} {L : List Int32} (q : C8 y) (r : ∀ c ∈ L, C8 c) : ∀ c ∈ y :: L, C8 c := fun c hc => by
  rcases List.mem_cons.mp hc with rfl | hc
  · exact q
  · exact r c hc
theorem c8_m (y : Int32) : C8 (y &&& 255) := by
  have q := c_and y 255 (by decide)
  have e1 : (255 : Int32).toInt = 255 := by decide
  have e0 : (0 : Int32).toInt = 0 := by decide
  constructor <;> (intro r; rw [Int32.lt_iff_toInt_lt] at r; omega)
theorem c8_up {c : Int32} (q : C8 c) : ¬ c < 0 ∧ ¬ (65535 : Int32) < c := ⟨q.1, fun r => q.2 (by
  rw [Int32.lt_iff_toInt_lt] at r ⊢
  have e1 : (65535 : Int32).toInt = 65535 := by decide
  have e2 : (255 : Int32).toInt = 255 := by decide
  omega)⟩
theorem i2c_c16 {c : Int32} (q : ¬ c < 0 ∧ ¬ (65535 : Int32) < c) : c.toUInt32.toUInt16.toUInt32.toInt32 = c := by
  have r := c_i2c c
  obtain ⟨q1, q2⟩ := q
  rw [Int32.lt_iff_toInt_lt] at q1 q2
  have e1 : (65535 : Int32).toInt = 65535 := by decide
  have e0 : (0 : Int32).toInt = 0 := by decide
  apply Int32.toInt_inj.mp
  omega
theorem i2c_c8 {c : Int32} (q : C8 c) : c.toUInt32.toUInt16.toUInt32.toInt32 = c := i2c_c16 (c8_up q)
def Str (Z : State) (h : Heap) (a : Addr) (cs : List Int32) : Prop := ∃ (t : Addr) (kb : ClassId), Exa Z h a "java/lang/String" ∧ Fld Z h a "java/lang/String" "value" "[B" (.ref t) ∧ Fld Z h a "java/lang/String" "coder" "B" (.int 0) ∧ Arv Z h t kb .byte (Int32.ofNat cs.length) ((cs.map fun c => c.toInt8.toInt32).map Value.int) (.int 0) ∧ (∀ c ∈ cs, C8 c) ∧ cs.length ≤ 4000
theorem Str.exa (S : Str Z h x cs) : Exa Z h x "java/lang/String" := by obtain ⟨t, k, q, -⟩ := S; exact q
theorem Str.keep (S : Str Z h x cs) (K : Keep h h' []) : Str Z h' x cs := by
  obtain ⟨t, k, q1, q2, q3, q4, q5, q6⟩ := S
  exact ⟨t, k, q1.keep K, q2.keep K nin0, q3.keep K nin0, q4.keep K nin0, q5, q6⟩
theorem Str.ext (S : Str Z h x cs) (E : Ext h h') : Str Z h' x cs := S.keep ((Keep.refl h []).ext E)
theorem safe_null {vm : Vm} (hal : Z.vm.Alike vm) (E : Exa Z h x "java/lang/String") (V : Fld Z h x "java/lang/String" "value" "[B" .null) : Safe Z EL vm h x := fun B => by
  obtain ⟨cell, k, e1, e2, e3, -, -⟩ := E
  obtain ⟨cell', cf, k', i, f, v1, v2, v3, v4, v5, v6, v7⟩ := V
  cases e1.symm.trans v1
  obtain ⟨p, -, u, a, -, q, -, F, rfl | rfl⟩ := B
  · cases (show h[q.sa]? = some q.sC from F.ha).symm.trans e1
    obtain ⟨cS, ⟨⟨s1, s2, s3, ⟨cv, kv, iv, s4, s4'⟩, s5, s6, s7, s8, s9⟩, -, -⟩, -⟩ := F
    obtain ⟨kz, z4⟩ := ff_back (U := Wst Z vm h) hal s4
    cases z4.symm.trans v2
    rw [s8] at v7
    cases v7
  · cases (show h[q.sd]? = some q.SA from F.hd).symm.trans e1
    obtain ⟨cS, -, -, fB, -⟩ := F
    have f' : vm.findClass "[B" = some q.SA.cls := fB
    rw [hal.findClass] at f'
    obtain ⟨k1, q1, q2⟩ := Vm.findClass_spec f'
    obtain ⟨k2, q3, q4⟩ := Vm.findClass_spec e2
    cases q1.symm.trans q3
    exact absurd (q2.symm.trans q4) (by decide)
theorem go_empty {W : Bool} {s : State} {m : MethodId} {args : Array Value} {meth : Method} {c : Code} {F : Outcome → State → Prop} {cells slots : Nat} {ls : Array Slot} {a : Addr} (G : GH Z a0) (hWt : W = true) (hmem : ("java/lang/String", 7) ∈ EL) (hnm : meth.name = "<init>") (hls : ls[0]? = some (.val (.ref a)))
    (w1 : (Jvm.Cond.stringLink "java/lang/String" 7 "").before a0 Z = true) (w2 : (Jvm.Cond.fieldLink "java/lang/String" 9 "java/lang/String" "value" "[B").before a0 Z = true) (w3 : (Jvm.Cond.fieldLink "java/lang/String" 15 "java/lang/String" "coder" "B").before a0 Z = true) (w4 : (Jvm.Cond.laysFinal "java/lang/String" "java/lang/String" "value" "[B").before a0 Z = true) (w5 : (Jvm.Cond.laysFinal "java/lang/String" "java/lang/String" "coder" "B").before a0 Z = true) (wi : (Jvm.Cond.instantiable "java/lang/String" 4).before a0 Z = true)
    (E : Exa Z h a "java/lang/String") (V : Fld Z h a "java/lang/String" "value" "[B" .null) (Cd : Fld Z h a "java/lang/String" "coder" "B" (.int 0)) (za : Z.heap.size ≤ a)
    (d8 : decode c.code 8 = .ok (.aload_n 0, 1)) (d9 : decode c.code 9 = .ok (.ldc 7, 2)) (d11 : decode c.code 11 = .ok (.getfield 9, 3)) (d14 : decode c.code 14 = .ok (.putfield 9, 3)) (d17 : decode c.code 17 = .ok (.aload_n 0, 1)) (d18 : decode c.code 18 = .ok (.ldc 7, 2)) (d20 : decode c.code 20 = .ok (.getfield 15, 3)) (d23 : decode c.code 23 = .ok (.putfield 15, 3))
    (hc : cells + 4 ≤ R.cells) (hl : slots + 8 ≤ R.slots)
    (k : ∀ h', Str Z h' a [] → Keep h h' [a] → Go W EL Z a0 "java/lang/String" p l e R s m args below meth c F h' (cells + 4) (slots + 8) (mkF m 26 ls [])) : Go W EL Z a0 "java/lang/String" p l e R s m args below meth c F h cells slots (mkF m 8 ls []) := by
  subst hWt
  intro T P
  obtain ⟨vm0, k0, locs, hWf, X, eT, hx, hZ, hown, hS, hk, hEL, hC, hN, hO⟩ := P
  have hal0 : h.size > a := E.lt
  have S0 : Safe Z EL vm0 h a := safe_null hZ.alike E V
  obtain ⟨a1, T1, h1, k1, b1, kb1, X1, e1, E1, hS1, hk1, hZ1, hown1, q1, q2, q3, q4, -, -, hC1, -, ne1, st1⟩ := ldcCH X hx hZ hown w1 (wS G) eT hS hk hEL hmem hC.1 (vs := []) (z := 0) (by decide) (by decide) (by decide) (g := mkF m 9 ls [.ref a]) rfl d9 (n := 0) (by decide) (by decide) (by omega) (by omega)
  have hZ1 : Z.Warmed39 T1.vm := hZ1
  have S1 : Safe Z EL T1.vm h1 a := hC1.safe hal0 S0
  obtain ⟨T2, X2, e2, st2⟩ := getF X1 hx hZ1 hown1 (host := "") (Or.inl w2) Via.refl e1 q3 (g := mkF m 11 ls [.ref a1, .ref a]) rfl rfl d11
  obtain ⟨T3, h3, X3, e3, W3, st3⟩ := putFN X2 hx hZ1 hown1 w2 Via.refl e2 (V.ext E1) (E.ext E1) (Or.inr ⟨w4, rfl, hnm⟩) wi (ty := .array .byte) (v' := .ref b1) (by decide) rfl rfl (g := mkF m 14 ls [.ref b1, .ref a]) rfl rfl d14
  have hC3 : CHr Z EL vm0 h T1.vm h3 := hC1.trans (CHr.wr W3 S1 hC1.1)
  have S3 : Safe Z EL T1.vm h3 a := Safe.wr W3 S1 hC1.1 S1
  have A3 := q4.other W3 (Ne.symm (ne1 a S1).2)
  have V3 := (V.ext E1).same W3
  have C3 := (Cd.ext E1).other W3 (Or.inr (slot_ne (t := .byte) (t' := .array .byte) (Or.inr w5) (Or.inr w4) (by decide) (by decide) (by decide)))
  have X3' : Exa Z h3 a "java/lang/String" := (E.ext E1).wr W3
  have hk3 : k1 ≤ h3.size := by rw [W3.size]; exact hk1
  obtain ⟨a4, T4, h4, k4, b4, kb4, X4, e4, E4, hS4, hk4, hZ4, hown4, r1, r2, r3, r4, -, -, hC4, -, ne4, st4⟩ := ldcCH X3 hx hZ1 hown1 w1 (wS G) e3 hS1 hk3 hEL hmem hC3.1 (vs := []) (z := 0) (by decide) (by decide) (by decide) (g := mkF m 18 ls [.ref a]) rfl d18 (n := 0) (by decide) (by decide) (by omega) (by omega)
  have hZ4 : Z.Warmed39 T4.vm := hZ4
  have S4 : Safe Z EL T4.vm h4 a := hC4.safe X3'.lt S3
  obtain ⟨T5, X5, e5, st5⟩ := getF X4 hx hZ4 hown4 (host := "") (Or.inl w3) Via.refl e4 r2 (g := mkF m 20 ls [.ref a4, .ref a]) rfl rfl d20
  obtain ⟨T6, h6, X6, e6, W6, st6⟩ := putFN X5 hx hZ4 hown4 w3 Via.refl e5 (C3.ext E4) (X3'.ext E4) (Or.inr ⟨w5, rfl, hnm⟩) wi (ty := .byte) (v' := .int 0) (by decide) rfl rfl (g := mkF m 23 ls [.int 0, .ref a]) rfl rfl d23
  have ext4 : Exa Z h4 a "java/lang/String" := X3'.ext E4
  have nb : b1 ≠ a := Ne.symm (ne1 a S1).2
  have KK : Keep h h6 [a] := ((((Keep.refl h [a]).ext E1).wr W3 (Or.inl (by simp))).ext E4).wr W6 (Or.inl (by simp))
  have SS : Str Z h6 a [] := ⟨b1, kb1, ext4.wr W6, (V3.ext E4).other W6 (Or.inr (slot_ne (t := .array .byte) (t' := .byte) (Or.inr w4) (Or.inr w5) (by decide) (by decide) (by decide))), (C3.ext E4).same W6, (A3.ext E4).other W6 nb, c8n, by decide⟩
  have O6 : Old Z Z.heap.size h6 := (((hO.ext E1).wr W3 za).ext E4).wr W6 za
  obtain ⟨t, o, z1, z2⟩ := k h6 SS KK T6 ⟨T4.vm, k4, _, (fun q => nomatch q), X6, e6, hx, hZ4, hown4, hS4, by rw [W6.size]; exact hk4, hEL, hC.trans (hC3.trans (hC4.trans (CHr.wr W6 S4 hC4.1))), Fr.snoc X6 (Fr.snoc X3 hN za) za, O6⟩
  refine ⟨t, o, ?_, z2⟩
  refine XS.aloadN X.here hx rfl d8 hls rfl ?_
  refine st1 _ ?_
  refine st2 _ ?_
  refine st3 _ ?_
  refine XS.aloadN X3.here hx rfl d17 hls rfl ?_
  refine st4 _ ?_
  refine st5 _ ?_
  exact st6 _ z1
theorem pay_new (G : GH Z a0) (O : Old Z Z.heap.size h) {kC : ClassId} {d v0 c0 : Value} {N : Int32} {n Wd : Nat} (hx0 : Z.heap.size ≤ x) (E : Exa Z h x "java/lang/String") (V : Fld Z h x "java/lang/String" "value" "[B" v0) (C : Fld Z h x "java/lang/String" "coder" "B" c0) (K : Arv Z h b kC .char N (cs.map Value.int) d) (hn : cs.length = n) (hN : N = Int32.ofNat n) (l0 : 0 < n) (l2 : n ≤ 4000) (hp : ∀ c ∈ cs, C8 c) (hfr : 4 ≤ R.frames) (hlo : Wd + 65 ≤ R.locals) :
    Pay l R p e below Z (⟨"java/lang/String", "<init>", "([C)V"⟩ : MethodName) Wd #[.ref x, .ref b] h 1 n [x] (rno fun h' => Str Z h' x cs) := by
  intro s args hZ
  obtain ⟨z, hS, hz⟩ := cs_of G
  refine (StrChars.Road.backV (W := Wd) hZ (fun d hd => G.1 d ((by decide +kernel : ∀ d ∈ StrChars.Road.words, d ∈ tables_1) d hd)) (kI := 4) (wk G 6 rfl) hx0 O.2.1 E V C K (hS.ext O.2) hz hn hN l0 l2 hp rfl hfr hlo).mono (fun _ _ q => q) ?_
  rintro A a v B - ⟨L, ⟨rfl, q1, q2, q3, q4, t, kb, q5, q6, q7, q8, q9⟩, b1, b2, b3⟩
  subst hn hN
  exact ⟨L, ⟨⟨rfl, t, kb, q3, q8, q4, q9, hp, l2⟩, q1, q2⟩, b1, b2, b3⟩
theorem pay_len (G : GH Z a0) (O : Old Z Z.heap.size h) {n : Int32} {Wd : Nat} (S : Str Z h x cs) (hn : Int32.ofNat cs.length = n) (hfr : 2 ≤ R.frames) (hlo : Wd + 25 ≤ R.locals) :
    Pay l R p e below Z (⟨"java/lang/String", "length", "()I"⟩ : MethodName) Wd #[.ref x] h 0 0 [] (rvl fun v h' => .int n = v ∧ h = h') := by
  intro s args hZ
  obtain ⟨z, hS, hz⟩ := cs_of G
  obtain ⟨t, kb, q1, q2, q3, q4, q5, q6⟩ := S
  refine (StrChars.Road.lenW (W := Wd) hZ (fun d hd => G.1 d ((by decide +kernel : ∀ d ∈ StrChars.Road.wordsLen, d ∈ tables_1) d hd)) (kI := 4) (wk G 6 rfl) q1 q2 q3 q4 (StrChars.Road.codOf rfl fun c hc => (q5 c hc).2) (fun c hc => c8_up (q5 c hc)) (hS.ext O.2) hz q6 hfr hlo).mono (fun _ _ q => q) ?_
  rintro A a v B - ⟨L, ⟨rfl, rfl, e1⟩, b1, b2, b3⟩
  subst hn
  exact ⟨[], ⟨⟨_, rfl, rfl, e1.symm⟩, Fr.nil _, by rw [e1]; exact Keep.refl _ _⟩, b1, b2, b3⟩
theorem pay_eq (G : GH Z a0) (O : Old Z Z.heap.size h) {Wd : Nat} (S : Str Z h x cs) (S' : Str Z h b ds) (hfr : 2 ≤ R.frames) (hlo : Wd + 28 ≤ R.locals) :
    Pay l R p e below Z (⟨"java/lang/String", "equals", "(Ljava/lang/Object;)Z"⟩ : MethodName) Wd #[.ref x, .ref b] h 0 0 [] (rvl fun v h' => (.int 1 = v ∧ cs = ds ∧ h = h') ∨ (.int 0 = v ∧ ¬ cs = ds ∧ h = h')) := by
  intro s args hZ
  obtain ⟨z, hS, hz⟩ := cs_of G
  obtain ⟨t, kb, q1, q2, q3, q4, q5, q6⟩ := S
  obtain ⟨t', kb', r1, r2, r3, r4, r5, r6⟩ := S'
  refine (StrChars.Road.eqW (W := Wd) hZ (fun d hd => G.1 d ((by decide +kernel : ∀ d ∈ StrChars.Road.wordsEq, d ∈ tables_1) d hd)) (kI := 4) (wk G 6 rfl) q1 q2 q3 q4 (StrChars.Road.codOf rfl fun c hc => (q5 c hc).2) (fun c hc => c8_up (q5 c hc)) q6 r1 r2 r3 r4 (StrChars.Road.codOf rfl fun c hc => (r5 c hc).2) (fun c hc => c8_up (r5 c hc)) r6 (hS.ext O.2) hz hfr hlo).mono (fun _ _ q => q) ?_
  rintro A a v B - ⟨L, ⟨⟨rfl, q⟩ | ⟨rfl, q⟩, rfl, e1⟩, b1, b2, b3⟩
  · exact ⟨[], ⟨⟨_, rfl, Or.inl ⟨rfl, q, e1.symm⟩⟩, Fr.nil _, by rw [e1]; exact Keep.refl _ _⟩, b1, b2, b3⟩
  · exact ⟨[], ⟨⟨_, rfl, Or.inr ⟨rfl, q, e1.symm⟩⟩, Fr.nil _, by rw [e1]; exact Keep.refl _ _⟩, b1, b2, b3⟩
end OwnStr
theorem and_nn (y k : Int32) (q : 0 ≤ k.toInt) : 0 ≤ (y &&& k).toInt := (c_and y k q).1
theorem rem6 (y : Int32) (q : 0 ≤ y.toInt) : y % (6 : Int32) = (0 : Int32) ∨ y % (6 : Int32) = (1 : Int32) ∨ y % (6 : Int32) = (2 : Int32) ∨ y % (6 : Int32) = (3 : Int32) ∨ y % (6 : Int32) = (4 : Int32) ∨ y % (6 : Int32) = (5 : Int32) := by
  have r := (c_irem y 6 6 (by decide)).1 q
  have e0 : (0 : Int32).toInt = 0 := by decide
  have e1 : (1 : Int32).toInt = 1 := by decide
  have e2 : (2 : Int32).toInt = 2 := by decide
  have e3 : (3 : Int32).toInt = 3 := by decide
  have e4 : (4 : Int32).toInt = 4 := by decide
  have e5 : (5 : Int32).toInt = 5 := by decide
  have : (y % (6 : Int32)).toInt = 0 ∨ (y % (6 : Int32)).toInt = 1 ∨ (y % (6 : Int32)).toInt = 2 ∨ (y % (6 : Int32)).toInt = 3 ∨ (y % (6 : Int32)).toInt = 4 ∨ (y % (6 : Int32)).toInt = 5 := by omega
  rcases this with h | h | h | h | h | h
  · exact (Or.inl (Int32.toInt_inj.mp (by rw [h, e0])))
  · exact (Or.inr (Or.inl (Int32.toInt_inj.mp (by rw [h, e1]))))
  · exact (Or.inr (Or.inr (Or.inl (Int32.toInt_inj.mp (by rw [h, e2])))))
  · exact (Or.inr (Or.inr (Or.inr (Or.inl (Int32.toInt_inj.mp (by rw [h, e3]))))))
  · exact (Or.inr (Or.inr (Or.inr (Or.inr (Or.inl (Int32.toInt_inj.mp (by rw [h, e4])))))))
  · exact (Or.inr (Or.inr (Or.inr (Or.inr (Or.inr (Int32.toInt_inj.mp (by rw [h, e5])))))))
theorem b46 {c : Int32} (q : C8 c) : c.toInt8.toInt32 = (46 : Int32) ↔ c = (46 : Int32) := by
  have r := c_i2b c
  obtain ⟨q1, q2⟩ := q
  rw [Int32.lt_iff_toInt_lt] at q1 q2
  have e1 : (255 : Int32).toInt = 255 := by decide
  have e0 : (0 : Int32).toInt = 0 := by decide
  have e4 : (46 : Int32).toInt = 46 := by decide
  constructor
  · intro h
    have h' := congrArg Int32.toInt h
    apply Int32.toInt_inj.mp
    omega
  · rintro rfl
    decide
set_option maxRecDepth 65536
set_option maxHeartbeats 40000000
theorem d1_0 : decode jdk_42_method_66_code 0 = .ok (.aload_n 0, 1) := by decide +kernel
theorem d1_1 : decode jdk_42_method_66_code 1 = .ok (.aload_n 1, 1) := by decide +kernel
theorem d1_2 : decode jdk_42_method_66_code 2 = .ok (.if_acmp .ne 5, 3) := by decide +kernel
theorem d1_5 : decode jdk_42_method_66_code 5 = .ok (.iconst 1, 1) := by decide +kernel
theorem d1_6 : decode jdk_42_method_66_code 6 = .ok (.ireturn, 1) := by decide +kernel
theorem pn1 : plainName "java/lang/String" = true := by first | (simp [plainName, overriddenIn]; done) | decide +kernel
theorem d2_0 : decode jdk_42_method_149_code 0 = .ok (.aload_n 0, 1) := by decide +kernel
theorem d2_1 : decode jdk_42_method_149_code 1 = .ok (.invokespecial 1, 3) := by decide +kernel
theorem d2_4 : decode jdk_42_method_149_code 4 = .ok (.iload_n 3, 1) := by decide +kernel
theorem d2_5 : decode jdk_42_method_149_code 5 = .ok (.ifCond .ne 22, 3) := by decide +kernel
theorem d2_8 : decode jdk_42_method_149_code 8 = .ok (.aload_n 0, 1) := by decide +kernel
theorem d2_9 : decode jdk_42_method_149_code 9 = .ok (.ldc 7, 2) := by decide +kernel
theorem d2_11 : decode jdk_42_method_149_code 11 = .ok (.getfield 9, 3) := by decide +kernel
theorem d2_14 : decode jdk_42_method_149_code 14 = .ok (.putfield 9, 3) := by decide +kernel
theorem d2_17 : decode jdk_42_method_149_code 17 = .ok (.aload_n 0, 1) := by decide +kernel
theorem d2_18 : decode jdk_42_method_149_code 18 = .ok (.ldc 7, 2) := by decide +kernel
theorem d2_20 : decode jdk_42_method_149_code 20 = .ok (.getfield 15, 3) := by decide +kernel
theorem d2_23 : decode jdk_42_method_149_code 23 = .ok (.putfield 15, 3) := by decide +kernel
theorem d2_26 : decode jdk_42_method_149_code 26 = .ok (.return_, 1) := by decide +kernel
theorem d3_0 : decode jdk_42_method_3_code 0 = .ok (.aload_n 0, 1) := by decide +kernel
theorem d3_1 : decode jdk_42_method_3_code 1 = .ok (.aload_n 1, 1) := by decide +kernel
theorem d3_2 : decode jdk_42_method_3_code 2 = .ok (.iconst 0, 1) := by decide +kernel
theorem d3_3 : decode jdk_42_method_3_code 3 = .ok (.aload_n 1, 1) := by decide +kernel
theorem d3_4 : decode jdk_42_method_3_code 4 = .ok (.arraylength, 1) := by decide +kernel
theorem d3_5 : decode jdk_42_method_3_code 5 = .ok (.aconst_null, 1) := by decide +kernel
theorem pd1 : parseMethodDescriptor "([CIILjava/lang/Void;)V" = some ⟨[(.array .char), .int, .int, (.object "java/lang/Void")], none⟩ := by decide +kernel
theorem d3_6 : decode jdk_42_method_3_code 6 = .ok (.invokespecial 27, 3) := by decide +kernel
theorem d3_9 : decode jdk_42_method_3_code 9 = .ok (.return_, 1) := by decide +kernel
theorem d4_0 : decode jdk_42_method_154_code 0 = .ok (.getstatic 38, 3) := by decide +kernel
theorem d4_3 : decode jdk_42_method_154_code 3 = .ok (.ifCond .eq 14, 3) := by decide +kernel
theorem d4_6 : decode jdk_42_method_154_code 6 = .ok (.aload_n 0, 1) := by decide +kernel
theorem d4_7 : decode jdk_42_method_154_code 7 = .ok (.getfield 15, 3) := by decide +kernel
theorem d4_10 : decode jdk_42_method_154_code 10 = .ok (.ifCond .ne 7, 3) := by decide +kernel
theorem d4_13 : decode jdk_42_method_154_code 13 = .ok (.iconst 1, 1) := by decide +kernel
theorem d4_14 : decode jdk_42_method_154_code 14 = .ok (.goto 4, 3) := by decide +kernel
theorem d4_18 : decode jdk_42_method_154_code 18 = .ok (.ireturn, 1) := by decide +kernel
theorem d5_0 : decode jdk_43_method_4_code 0 = .ok (.iload_n 0, 1) := by decide +kernel
theorem d5_1 : decode jdk_43_method_4_code 1 = .ok (.ifCond .lt 14, 3) := by decide +kernel
theorem d5_4 : decode jdk_43_method_4_code 4 = .ok (.iload_n 0, 1) := by decide +kernel
theorem d5_5 : decode jdk_43_method_4_code 5 = .ok (.sipush 255, 3) := by decide +kernel
theorem d5_8 : decode jdk_43_method_4_code 8 = .ok (.if_icmp .gt 7, 3) := by decide +kernel
theorem d5_11 : decode jdk_43_method_4_code 11 = .ok (.iconst 1, 1) := by decide +kernel
theorem d5_12 : decode jdk_43_method_4_code 12 = .ok (.goto 4, 3) := by decide +kernel
theorem d5_16 : decode jdk_43_method_4_code 16 = .ok (.ireturn, 1) := by decide +kernel
theorem pn2 : plainName "java/lang/StringLatin1" = true := by first | (simp [plainName, overriddenIn]; done) | decide +kernel
theorem d6_0 : decode jdk_42_method_151_code 0 = .ok (.aload_n 0, 1) := by decide +kernel
theorem d6_1 : decode jdk_42_method_151_code 1 = .ok (.invokespecial 1, 3) := by decide +kernel
theorem d6_4 : decode jdk_42_method_151_code 4 = .ok (.aload_n 0, 1) := by decide +kernel
theorem d6_5 : decode jdk_42_method_151_code 5 = .ok (.aload_n 1, 1) := by decide +kernel
theorem d6_6 : decode jdk_42_method_151_code 6 = .ok (.putfield 9, 3) := by decide +kernel
theorem d6_9 : decode jdk_42_method_151_code 9 = .ok (.aload_n 0, 1) := by decide +kernel
theorem d6_10 : decode jdk_42_method_151_code 10 = .ok (.iload_n 2, 1) := by decide +kernel
theorem d6_11 : decode jdk_42_method_151_code 11 = .ok (.putfield 15, 3) := by decide +kernel
theorem d6_14 : decode jdk_42_method_151_code 14 = .ok (.return_, 1) := by decide +kernel
theorem d7_0 : decode jdk_41_method_12_code 0 = .ok (.iload_n 0, 1) := by decide +kernel
theorem d7_1 : decode jdk_41_method_12_code 1 = .ok (.ifCond .lt 13, 3) := by decide +kernel
theorem d7_4 : decode jdk_41_method_12_code 4 = .ok (.iload_n 0, 1) := by decide +kernel
theorem d7_5 : decode jdk_41_method_12_code 5 = .ok (.iload_n 1, 1) := by decide +kernel
theorem d7_6 : decode jdk_41_method_12_code 6 = .ok (.if_icmp .gt 8, 3) := by decide +kernel
theorem d7_9 : decode jdk_41_method_12_code 9 = .ok (.iload_n 1, 1) := by decide +kernel
theorem d7_10 : decode jdk_41_method_12_code 10 = .ok (.iload_n 2, 1) := by decide +kernel
theorem d7_11 : decode jdk_41_method_12_code 11 = .ok (.if_icmp .le 11, 3) := by decide +kernel
theorem d7_22 : decode jdk_41_method_12_code 22 = .ok (.iload_n 0, 1) := by decide +kernel
theorem d7_23 : decode jdk_41_method_12_code 23 = .ok (.ireturn, 1) := by decide +kernel
theorem pn3 : plainName "jdk/internal/util/Preconditions" = true := by first | (simp [plainName, overriddenIn]; done) | decide +kernel
theorem d8_0 : decode jdk_42_method_158_code 0 = .ok (.iload_n 0, 1) := by decide +kernel
theorem d8_1 : decode jdk_42_method_158_code 1 = .ok (.iload_n 1, 1) := by decide +kernel
theorem d8_2 : decode jdk_42_method_158_code 2 = .ok (.iload_n 2, 1) := by decide +kernel
theorem d8_3 : decode jdk_42_method_158_code 3 = .ok (.getstatic 1053, 3) := by decide +kernel
theorem pd2 : parseMethodDescriptor "(IIILjava/util/function/BiFunction;)I" = some ⟨[.int, .int, .int, (.object "java/util/function/BiFunction")], some .int⟩ := by decide +kernel
theorem d8_6 : decode jdk_42_method_158_code 6 = .ok (.invokestatic 1062, 3) := by decide +kernel
theorem d8_9 : decode jdk_42_method_158_code 9 = .ok (.pop, 1) := by decide +kernel
theorem d8_10 : decode jdk_42_method_158_code 10 = .ok (.return_, 1) := by decide +kernel
theorem d9_0 : decode jdk_65_method_131_code 0 = .ok (.iload_n 1, 1) := by decide +kernel
theorem d9_1 : decode jdk_65_method_131_code 1 = .ok (.iload_n 0, 1) := by decide +kernel
theorem d9_2 : decode jdk_65_method_131_code 2 = .ok (.if_icmp .ge 35, 3) := by decide +kernel
theorem d9_37 : decode jdk_65_method_131_code 37 = .ok (.return_, 1) := by decide +kernel
theorem pn4 : plainName "java/util/Arrays" = true := by first | (simp [plainName, overriddenIn]; done) | decide +kernel
theorem d10_0 : decode method_3_code 0 = .ok (.iload_n 0, 1) := by decide +kernel
theorem d10_1 : decode method_3_code 1 = .ok (.iload_n 1, 1) := by decide +kernel
theorem d10_2 : decode method_3_code 2 = .ok (.ishr, 1) := by decide +kernel
theorem d10_3 : decode method_3_code 3 = .ok (.iconst 1, 1) := by decide +kernel
theorem d10_4 : decode method_3_code 4 = .ok (.iand, 1) := by decide +kernel
theorem d10_5 : decode method_3_code 5 = .ok (.ifCond .eq 6, 3) := by decide +kernel
theorem d10_11 : decode method_3_code 11 = .ok (.iload_n 2, 1) := by decide +kernel
theorem d10_12 : decode method_3_code 12 = .ok (.i2c, 1) := by decide +kernel
theorem d10_13 : decode method_3_code 13 = .ok (.ireturn, 1) := by decide +kernel
theorem d10_8 : decode method_3_code 8 = .ok (.bipush 46, 2) := by decide +kernel
theorem d10_10 : decode method_3_code 10 = .ok (.ireturn, 1) := by decide +kernel
theorem pn5 : plainName "com/example/commit_feed/commitfeed/config/SqlNamesUnqualifiedPinLaw" = true := by first | (simp [plainName, overriddenIn]; done) | decide +kernel
theorem pd3 : parseMethodDescriptor "(III)C" = some ⟨[.int, .int, .int], some .char⟩ := by decide +kernel
theorem pd4 : parseMethodDescriptor "([C)V" = some ⟨[(.array .char)], none⟩ := by decide +kernel
theorem d11_0 : decode prog_9_method_4_code 0 = .ok (.aload_n 0, 1) := by decide +kernel
theorem d11_1 : decode prog_9_method_4_code 1 = .ok (.aload_n 0, 1) := by decide +kernel
theorem d11_2 : decode prog_9_method_4_code 2 = .ok (.bipush 46, 2) := by decide +kernel
theorem d12_0 : decode jdk_42_method_79_code 0 = .ok (.aload_n 0, 1) := by decide +kernel
theorem d12_1 : decode jdk_42_method_79_code 1 = .ok (.iload_n 1, 1) := by decide +kernel
theorem d12_2 : decode jdk_42_method_79_code 2 = .ok (.iconst 0, 1) := by decide +kernel
theorem d13_0 : decode jdk_42_method_80_code 0 = .ok (.aload_n 0, 1) := by decide +kernel
theorem pd5 : parseMethodDescriptor "()Z" = some ⟨[], some .boolean⟩ := by decide +kernel
theorem d13_1 : decode jdk_42_method_80_code 1 = .ok (.invokevirtual 492, 3) := by decide +kernel
theorem d13_4 : decode jdk_42_method_80_code 4 = .ok (.ifCond .eq 19, 3) := by decide +kernel
theorem d13_7 : decode jdk_42_method_80_code 7 = .ok (.aload_n 0, 1) := by decide +kernel
theorem d13_8 : decode jdk_42_method_80_code 8 = .ok (.getfield 9, 3) := by decide +kernel
theorem d13_11 : decode jdk_42_method_80_code 11 = .ok (.iload_n 1, 1) := by decide +kernel
theorem d13_12 : decode jdk_42_method_80_code 12 = .ok (.iload_n 2, 1) := by decide +kernel
theorem d13_13 : decode jdk_42_method_80_code 13 = .ok (.aload_n 0, 1) := by decide +kernel
theorem pd6 : parseMethodDescriptor "()I" = some ⟨[], some .int⟩ := by decide +kernel
theorem d13_14 : decode jdk_42_method_80_code 14 = .ok (.invokevirtual 505, 3) := by decide +kernel
theorem d14_0 : decode jdk_43_method_22_code 0 = .ok (.iload_n 1, 1) := by decide +kernel
theorem pd7 : parseMethodDescriptor "(I)Z" = some ⟨[.int], some .boolean⟩ := by decide +kernel
theorem d14_1 : decode jdk_43_method_22_code 1 = .ok (.invokestatic 88, 3) := by decide +kernel
theorem d14_4 : decode jdk_43_method_22_code 4 = .ok (.ifCond .ne 5, 3) := by decide +kernel
theorem d14_9 : decode jdk_43_method_22_code 9 = .ok (.iload_n 2, 1) := by decide +kernel
theorem d14_10 : decode jdk_43_method_22_code 10 = .ok (.iconst 0, 1) := by decide +kernel
theorem d15_0 : decode jdk_29_method_65_code 0 = .ok (.iload_n 0, 1) := by decide +kernel
theorem d15_1 : decode jdk_29_method_65_code 1 = .ok (.iload_n 1, 1) := by decide +kernel
theorem d15_2 : decode jdk_29_method_65_code 2 = .ok (.if_icmp .lt 7, 3) := by decide +kernel
theorem d15_5 : decode jdk_29_method_65_code 5 = .ok (.iload_n 0, 1) := by decide +kernel
theorem d15_6 : decode jdk_29_method_65_code 6 = .ok (.goto 4, 3) := by decide +kernel
theorem d15_10 : decode jdk_29_method_65_code 10 = .ok (.ireturn, 1) := by decide +kernel
theorem pd8 : parseMethodDescriptor "(II)I" = some ⟨[.int, .int], some .int⟩ := by decide +kernel
theorem d14_11 : decode jdk_43_method_22_code 11 = .ok (.invokestatic 92, 3) := by decide +kernel
theorem d14_14 : decode jdk_43_method_22_code 14 = .ok (.istore_n 2, 1) := by decide +kernel
theorem d14_15 : decode jdk_43_method_22_code 15 = .ok (.iload_n 3, 1) := by decide +kernel
theorem d14_16 : decode jdk_43_method_22_code 16 = .ok (.aload_n 0, 1) := by decide +kernel
theorem d14_17 : decode jdk_43_method_22_code 17 = .ok (.arraylength, 1) := by decide +kernel
theorem d16_0 : decode jdk_29_method_69_code 0 = .ok (.iload_n 0, 1) := by decide +kernel
theorem d16_1 : decode jdk_29_method_69_code 1 = .ok (.iload_n 1, 1) := by decide +kernel
theorem d16_2 : decode jdk_29_method_69_code 2 = .ok (.if_icmp .gt 7, 3) := by decide +kernel
theorem d16_5 : decode jdk_29_method_69_code 5 = .ok (.iload_n 0, 1) := by decide +kernel
theorem d16_6 : decode jdk_29_method_69_code 6 = .ok (.goto 4, 3) := by decide +kernel
theorem d16_10 : decode jdk_29_method_69_code 10 = .ok (.ireturn, 1) := by decide +kernel
theorem d14_18 : decode jdk_43_method_22_code 18 = .ok (.invokestatic 38, 3) := by decide +kernel
theorem d14_21 : decode jdk_43_method_22_code 21 = .ok (.istore_n 3, 1) := by decide +kernel
theorem d14_22 : decode jdk_43_method_22_code 22 = .ok (.iload_n 2, 1) := by decide +kernel
theorem d14_23 : decode jdk_43_method_22_code 23 = .ok (.iload_n 3, 1) := by decide +kernel
theorem d14_24 : decode jdk_43_method_22_code 24 = .ok (.if_icmp .lt 5, 3) := by decide +kernel
theorem d14_27 : decode jdk_43_method_22_code 27 = .ok (.iconst (-1), 1) := by decide +kernel
theorem d14_28 : decode jdk_43_method_22_code 28 = .ok (.ireturn, 1) := by decide +kernel
theorem pd9 : parseMethodDescriptor "([BIII)I" = some ⟨[(.array .byte), .int, .int, .int], some .int⟩ := by decide +kernel
theorem d13_17 : decode jdk_42_method_80_code 17 = .ok (.invokestatic 637, 3) := by decide +kernel
theorem d13_20 : decode jdk_42_method_80_code 20 = .ok (.goto 16, 3) := by decide +kernel
theorem d13_36 : decode jdk_42_method_80_code 36 = .ok (.ireturn, 1) := by decide +kernel
theorem d12_3 : decode jdk_42_method_79_code 3 = .ok (.invokevirtual 633, 3) := by decide +kernel
theorem d12_6 : decode jdk_42_method_79_code 6 = .ok (.ireturn, 1) := by decide +kernel
theorem pd10 : parseMethodDescriptor "(I)I" = some ⟨[.int], some .int⟩ := by decide +kernel
theorem d11_4 : decode prog_9_method_4_code 4 = .ok (.invokevirtual 45, 3) := by decide +kernel
theorem d11_7 : decode prog_9_method_4_code 7 = .ok (.iconst 1, 1) := by decide +kernel
theorem d11_8 : decode prog_9_method_4_code 8 = .ok (.iadd, 1) := by decide +kernel
theorem d17_0 : decode jdk_42_method_91_code 0 = .ok (.aload_n 0, 1) := by decide +kernel
theorem d17_1 : decode jdk_42_method_91_code 1 = .ok (.iload_n 1, 1) := by decide +kernel
theorem d17_2 : decode jdk_42_method_91_code 2 = .ok (.aload_n 0, 1) := by decide +kernel
theorem d17_3 : decode jdk_42_method_91_code 3 = .ok (.invokevirtual 505, 3) := by decide +kernel
theorem d18_0 : decode jdk_42_method_92_code 0 = .ok (.aload_n 0, 1) := by decide +kernel
theorem d18_1 : decode jdk_42_method_92_code 1 = .ok (.invokevirtual 505, 3) := by decide +kernel
theorem d18_4 : decode jdk_42_method_92_code 4 = .ok (.istore_n 3, 1) := by decide +kernel
theorem d18_5 : decode jdk_42_method_92_code 5 = .ok (.iload_n 1, 1) := by decide +kernel
theorem d18_6 : decode jdk_42_method_92_code 6 = .ok (.iload_n 2, 1) := by decide +kernel
theorem d18_7 : decode jdk_42_method_92_code 7 = .ok (.iload_n 3, 1) := by decide +kernel
theorem pd11 : parseMethodDescriptor "(III)V" = some ⟨[.int, .int, .int], none⟩ := by decide +kernel
theorem d18_8 : decode jdk_42_method_92_code 8 = .ok (.invokestatic 521, 3) := by decide +kernel
theorem d18_11 : decode jdk_42_method_92_code 11 = .ok (.iload_n 1, 1) := by decide +kernel
theorem d18_12 : decode jdk_42_method_92_code 12 = .ok (.ifCond .ne 10, 3) := by decide +kernel
theorem d18_15 : decode jdk_42_method_92_code 15 = .ok (.iload_n 2, 1) := by decide +kernel
theorem d18_16 : decode jdk_42_method_92_code 16 = .ok (.iload_n 3, 1) := by decide +kernel
theorem d18_17 : decode jdk_42_method_92_code 17 = .ok (.if_icmp .ne 5, 3) := by decide +kernel
theorem d18_20 : decode jdk_42_method_92_code 20 = .ok (.aload_n 0, 1) := by decide +kernel
theorem d18_21 : decode jdk_42_method_92_code 21 = .ok (.areturn, 1) := by decide +kernel
theorem pd12 : parseMethodDescriptor "(II)Ljava/lang/String;" = some ⟨[.int, .int], some (.object "java/lang/String")⟩ := by decide +kernel
theorem d17_6 : decode jdk_42_method_91_code 6 = .ok (.invokevirtual 681, 3) := by decide +kernel
theorem d17_9 : decode jdk_42_method_91_code 9 = .ok (.areturn, 1) := by decide +kernel
theorem pd13 : parseMethodDescriptor "(I)Ljava/lang/String;" = some ⟨[.int], some (.object "java/lang/String")⟩ := by decide +kernel
theorem d11_9 : decode prog_9_method_4_code 9 = .ok (.invokevirtual 63, 3) := by decide +kernel
theorem d11_12 : decode prog_9_method_4_code 12 = .ok (.areturn, 1) := by decide +kernel
theorem pn6 : plainName "com/example/commit_feed/commitfeed/config/SqlNames" = true := by first | (simp [plainName, overriddenIn]; done) | decide +kernel
theorem pd14 : parseMethodDescriptor "(Ljava/lang/String;)Ljava/lang/String;" = some ⟨[(.object "java/lang/String")], some (.object "java/lang/String")⟩ := by decide +kernel
theorem pd15 : parseMethodDescriptor "(Ljava/lang/Object;)Z" = some ⟨[(.object "java/lang/Object")], some .boolean⟩ := by decide +kernel
theorem d14_29 : decode jdk_43_method_22_code 29 = .ok (.aload_n 0, 1) := by decide +kernel
theorem d14_30 : decode jdk_43_method_22_code 30 = .ok (.iload_n 1, 1) := by decide +kernel
theorem d14_31 : decode jdk_43_method_22_code 31 = .ok (.iload_n 2, 1) := by decide +kernel
theorem d14_32 : decode jdk_43_method_22_code 32 = .ok (.iload_n 3, 1) := by decide +kernel
theorem d19_0 : decode jdk_43_method_23_code 0 = .ok (.iload_n 1, 1) := by decide +kernel
theorem d19_1 : decode jdk_43_method_23_code 1 = .ok (.i2b, 1) := by decide +kernel
theorem d19_2 : decode jdk_43_method_23_code 2 = .ok (.istore 4, 2) := by decide +kernel
theorem d19_4 : decode jdk_43_method_23_code 4 = .ok (.iload_n 2, 1) := by decide +kernel
theorem d19_5 : decode jdk_43_method_23_code 5 = .ok (.istore 5, 2) := by decide +kernel
theorem d19_7 : decode jdk_43_method_23_code 7 = .ok (.iload 5, 2) := by decide +kernel
theorem d19_9 : decode jdk_43_method_23_code 9 = .ok (.iload_n 3, 1) := by decide +kernel
theorem d19_10 : decode jdk_43_method_23_code 10 = .ok (.if_icmp .ge 21, 3) := by decide +kernel
theorem d19_13 : decode jdk_43_method_23_code 13 = .ok (.aload_n 0, 1) := by decide +kernel
theorem d19_14 : decode jdk_43_method_23_code 14 = .ok (.iload 5, 2) := by decide +kernel
theorem d19_16 : decode jdk_43_method_23_code 16 = .ok (.baload, 1) := by decide +kernel
theorem d19_17 : decode jdk_43_method_23_code 17 = .ok (.iload 4, 2) := by decide +kernel
theorem d19_19 : decode jdk_43_method_23_code 19 = .ok (.if_icmp .ne 6, 3) := by decide +kernel
theorem d19_22 : decode jdk_43_method_23_code 22 = .ok (.iload 5, 2) := by decide +kernel
theorem d19_24 : decode jdk_43_method_23_code 24 = .ok (.ireturn, 1) := by decide +kernel
theorem d19_25 : decode jdk_43_method_23_code 25 = .ok (.iinc 5 1, 3) := by decide +kernel
theorem d19_28 : decode jdk_43_method_23_code 28 = .ok (.goto (-21), 3) := by decide +kernel
theorem d19_31 : decode jdk_43_method_23_code 31 = .ok (.iconst (-1), 1) := by decide +kernel
theorem d19_32 : decode jdk_43_method_23_code 32 = .ok (.ireturn, 1) := by decide +kernel
theorem d14_33 : decode jdk_43_method_22_code 33 = .ok (.invokestatic 95, 3) := by decide +kernel
theorem d14_36 : decode jdk_43_method_22_code 36 = .ok (.ireturn, 1) := by decide +kernel
theorem d18_22 : decode jdk_42_method_92_code 22 = .ok (.iload_n 2, 1) := by decide +kernel
theorem d18_23 : decode jdk_42_method_92_code 23 = .ok (.iload_n 1, 1) := by decide +kernel
theorem d18_24 : decode jdk_42_method_92_code 24 = .ok (.isub, 1) := by decide +kernel
theorem d18_25 : decode jdk_42_method_92_code 25 = .ok (.istore 4, 2) := by decide +kernel
theorem d18_27 : decode jdk_42_method_92_code 27 = .ok (.aload_n 0, 1) := by decide +kernel
theorem d18_28 : decode jdk_42_method_92_code 28 = .ok (.invokevirtual 492, 3) := by decide +kernel
theorem d18_31 : decode jdk_42_method_92_code 31 = .ok (.ifCond .eq 16, 3) := by decide +kernel
theorem d18_34 : decode jdk_42_method_92_code 34 = .ok (.aload_n 0, 1) := by decide +kernel
theorem d18_35 : decode jdk_42_method_92_code 35 = .ok (.getfield 9, 3) := by decide +kernel
theorem d18_38 : decode jdk_42_method_92_code 38 = .ok (.iload_n 1, 1) := by decide +kernel
theorem d18_39 : decode jdk_42_method_92_code 39 = .ok (.iload 4, 2) := by decide +kernel
theorem d20_0 : decode jdk_43_method_47_code 0 = .ok (.iload_n 2, 1) := by decide +kernel
theorem d20_1 : decode jdk_43_method_47_code 1 = .ok (.ifCond .ne 6, 3) := by decide +kernel
theorem d20_4 : decode jdk_43_method_47_code 4 = .ok (.ldc 151, 2) := by decide +kernel
theorem d20_6 : decode jdk_43_method_47_code 6 = .ok (.areturn, 1) := by decide +kernel
theorem pd16 : parseMethodDescriptor "([BII)Ljava/lang/String;" = some ⟨[(.array .byte), .int, .int], some (.object "java/lang/String")⟩ := by decide +kernel
theorem d18_41 : decode jdk_42_method_92_code 41 = .ok (.invokestatic 685, 3) := by decide +kernel
theorem d18_44 : decode jdk_42_method_92_code 44 = .ok (.goto 13, 3) := by decide +kernel
theorem d18_57 : decode jdk_42_method_92_code 57 = .ok (.areturn, 1) := by decide +kernel
theorem d20_7 : decode jdk_43_method_47_code 7 = .ok (.new 1, 3) := by decide +kernel
theorem d20_10 : decode jdk_43_method_47_code 10 = .ok (.dup, 1) := by decide +kernel
theorem d20_11 : decode jdk_43_method_47_code 11 = .ok (.aload_n 0, 1) := by decide +kernel
theorem d20_12 : decode jdk_43_method_47_code 12 = .ok (.iload_n 1, 1) := by decide +kernel
theorem d20_13 : decode jdk_43_method_47_code 13 = .ok (.iload_n 1, 1) := by decide +kernel
theorem d20_14 : decode jdk_43_method_47_code 14 = .ok (.iload_n 2, 1) := by decide +kernel
theorem d20_15 : decode jdk_43_method_47_code 15 = .ok (.iadd, 1) := by decide +kernel
theorem d21_0 : decode jdk_65_method_132_code 0 = .ok (.iload_n 1, 1) := by decide +kernel
theorem d21_1 : decode jdk_65_method_132_code 1 = .ok (.ifCond .ne 9, 3) := by decide +kernel
theorem d21_10 : decode jdk_65_method_132_code 10 = .ok (.aload_n 0, 1) := by decide +kernel
theorem d21_11 : decode jdk_65_method_132_code 11 = .ok (.iload_n 1, 1) := by decide +kernel
theorem d21_12 : decode jdk_65_method_132_code 12 = .ok (.iload_n 2, 1) := by decide +kernel
theorem d22_0 : decode jdk_65_method_133_code 0 = .ok (.iload_n 1, 1) := by decide +kernel
theorem d22_1 : decode jdk_65_method_133_code 1 = .ok (.iload_n 2, 1) := by decide +kernel
theorem pd17 : parseMethodDescriptor "(II)V" = some ⟨[.int, .int], none⟩ := by decide +kernel
theorem d22_2 : decode jdk_65_method_133_code 2 = .ok (.invokestatic 343, 3) := by decide +kernel
theorem d22_5 : decode jdk_65_method_133_code 5 = .ok (.iload_n 2, 1) := by decide +kernel
theorem d22_6 : decode jdk_65_method_133_code 6 = .ok (.iload_n 1, 1) := by decide +kernel
theorem d22_7 : decode jdk_65_method_133_code 7 = .ok (.isub, 1) := by decide +kernel
theorem d22_8 : decode jdk_65_method_133_code 8 = .ok (.istore_n 3, 1) := by decide +kernel
theorem d22_9 : decode jdk_65_method_133_code 9 = .ok (.iload_n 3, 1) := by decide +kernel
theorem d22_10 : decode jdk_65_method_133_code 10 = .ok (.newarray .byte, 2) := by decide +kernel
theorem d22_12 : decode jdk_65_method_133_code 12 = .ok (.astore 4, 2) := by decide +kernel
theorem d22_14 : decode jdk_65_method_133_code 14 = .ok (.aload_n 0, 1) := by decide +kernel
theorem d22_15 : decode jdk_65_method_133_code 15 = .ok (.iload_n 1, 1) := by decide +kernel
theorem d22_16 : decode jdk_65_method_133_code 16 = .ok (.aload 4, 2) := by decide +kernel
theorem d22_18 : decode jdk_65_method_133_code 18 = .ok (.iconst 0, 1) := by decide +kernel
theorem d22_19 : decode jdk_65_method_133_code 19 = .ok (.aload_n 0, 1) := by decide +kernel
theorem d22_20 : decode jdk_65_method_133_code 20 = .ok (.arraylength, 1) := by decide +kernel
theorem d22_21 : decode jdk_65_method_133_code 21 = .ok (.iload_n 1, 1) := by decide +kernel
theorem d22_22 : decode jdk_65_method_133_code 22 = .ok (.isub, 1) := by decide +kernel
theorem d22_23 : decode jdk_65_method_133_code 23 = .ok (.iload_n 3, 1) := by decide +kernel
theorem d22_24 : decode jdk_65_method_133_code 24 = .ok (.invokestatic 304, 3) := by decide +kernel
theorem d22_27 : decode jdk_65_method_133_code 27 = .ok (.invokestatic 150, 3) := by decide +kernel
theorem d22_30 : decode jdk_65_method_133_code 30 = .ok (.aload 4, 2) := by decide +kernel
theorem d22_32 : decode jdk_65_method_133_code 32 = .ok (.areturn, 1) := by decide +kernel
theorem pd18 : parseMethodDescriptor "([BII)[B" = some ⟨[(.array .byte), .int, .int], some (.array .byte)⟩ := by decide +kernel
theorem d21_13 : decode jdk_65_method_132_code 13 = .ok (.invokestatic 339, 3) := by decide +kernel
theorem d21_16 : decode jdk_65_method_132_code 16 = .ok (.areturn, 1) := by decide +kernel
theorem d20_16 : decode jdk_43_method_47_code 16 = .ok (.invokestatic 232, 3) := by decide +kernel
theorem d20_19 : decode jdk_43_method_47_code 19 = .ok (.iconst 0, 1) := by decide +kernel
theorem pd19 : parseMethodDescriptor "([BB)V" = some ⟨[(.array .byte), .byte], none⟩ := by decide +kernel
theorem d20_20 : decode jdk_43_method_47_code 20 = .ok (.invokespecial 112, 3) := by decide +kernel
theorem d20_23 : decode jdk_43_method_47_code 23 = .ok (.areturn, 1) := by decide +kernel
theorem ef_eqsame (m : MethodId) (a : Addr)  : entryFrame m #[(.ref a), (.ref a)] 3 = mkF m 0 #[.val (.ref a), .val (.ref a), .unset] [] := by first | (simp [entryFrame, mkF, argsToLocals, Value.category]; done) | rfl
def Q_eqsame (Z : State) (a : Addr)  (h0 : Heap) (xv : Value) (h : Heap) : Prop := (.int 1) = xv ∧ h0 = h
theorem c_eqsame (l : Launch) {Z : State} {a0 : Array Value} (G : GH Z a0) (a : Addr)  (h0 : Heap) (O0 : Old Z Z.heap.size h0)  : Con false [] l Z (⟨"java/lang/String", "equals", "(Ljava/lang/Object;)Z"⟩ : MethodName) jdk_42_method_66_code 3 (some .boolean) [] (rm4 0 0 0 0) #[(.ref a), (.ref a)] h0 [] (rvl (Q_eqsame Z a h0)) := by
  refine con_of (a0 := a0) (plainFor_of_name pn1) (fun q => rfl) EW.nil O0 (fun m => ef_eqsame m a) ?_
  intro p_ e_ s_ m_ below_ meth_ c_ D hml hret hlk hnm
  refine go_aload_n 1 (D d1_0) rfl rfl rfl ?_
  refine go_aload_n 2 (D d1_1) rfl rfl rfl ?_
  refine go_acF 5 (D d1_2) rfl rfl rfl (XT.aa_ne_f rfl) ?_
  refine go_iconst 6 (v := 1) (D d1_5) rfl rfl ?_
  refine go_ireturn hret hlk rfl (by simp) (D d1_6) (by decide) (by decide) ⟨_, rfl, ⟨rfl, rfl⟩⟩ (Keep.refl h0 [])
theorem ef_new0in (m : MethodId) (a : Addr) (b : Addr)  : entryFrame m #[(.ref a), (.ref b), (.int 0), (.int 0), .null] 6 = mkF m 0 #[.val (.ref a), .val (.ref b), .val (.int 0), .val (.int 0), .val .null, .unset] [] := by first | (simp [entryFrame, mkF, argsToLocals, Value.category]; done) | rfl
def Q_new0in (Z : State) (a : Addr) (b : Addr)  (h0 : Heap) (h : Heap) : Prop := Str Z h a []
theorem c_new0in (l : Launch) {Z : State} {a0 : Array Value} (G : GH Z a0) (a : Addr) (b : Addr)  (h0 : Heap) (O0 : Old Z Z.heap.size h0) (p1 : Exa Z h0 a "java/lang/String") (p2 : Z.heap.size ≤ a) (p3 : Fld Z h0 a "java/lang/String" "value" "[B" .null) (p4 : Fld Z h0 a "java/lang/String" "coder" "B" (.int 0)) : Con true EL1 l Z (⟨"java/lang/String", "<init>", "([CIILjava/lang/Void;)V"⟩ : MethodName) jdk_42_method_149_code 6 none [] (rm4 1 4 8 12) #[(.ref a), (.ref b), (.int 0), (.int 0), .null] h0 [a] (rno (Q_new0in Z a b h0)) := by
  refine con_of (a0 := a0) (plainFor_of_name pn1) (fun q => nomatch q) (ew1 G) O0 (fun m => ef_new0in m a b) ?_
  intro p_ e_ s_ m_ below_ meth_ c_ D hml hret hlk hnm
  refine go_aload_n 1 (D d2_0) rfl rfl rfl ?_
  refine go_initO 4 (Wd := 0) (wk G 15 rfl) (wk G 16 rfl) (wk G 17 rfl) (by rw [hml]; rfl) (by decide) (by decide) (by decide) (D d2_1) rfl ?_
  refine go_iload_n 5 (D d2_4) rfl rfl ?_
  refine go_ifF 8 (D d2_5) rfl (by decide) ?_
  refine go_empty G rfl (by decide) hnm rfl (wk G 18 rfl) (wk G 24 rfl) (wk G 25 rfl) (wk G 20 rfl) (wk G 21 rfl) (wk G 6 rfl) p1 p3 p4 p2 (D d2_8) (D d2_9) (D d2_11) (D d2_14) (D d2_17) (D d2_18) (D d2_20) (D d2_23) (by decide) (by decide) (fun h1 S2 K3 => ?_)
  have K4 : Keep h0 h1 [a] := ((Keep.refl h0 [a]).trans K3 (allS (Or.inl (by simp)) all0))
  refine go_return hret hlk (D d2_26) (by decide) (by decide) ⟨rfl, S2⟩ K4
theorem ef_new0 (m : MethodId) (a : Addr) (b : Addr)  : entryFrame m #[(.ref a), (.ref b)] 2 = mkF m 0 #[.val (.ref a), .val (.ref b)] [] := by first | (simp [entryFrame, mkF, argsToLocals, Value.category]; done) | rfl
def Q_new0 (Z : State) (a : Addr) (b : Addr) (k : ClassId) (h0 : Heap) (h : Heap) : Prop := Str Z h a []
theorem c_new0 (l : Launch) {Z : State} {a0 : Array Value} (G : GH Z a0) (a : Addr) (b : Addr) (k : ClassId) (h0 : Heap) (O0 : Old Z Z.heap.size h0) (p1 : Exa Z h0 a "java/lang/String") (p2 : Z.heap.size ≤ a) (p3 : Fld Z h0 a "java/lang/String" "value" "[B" .null) (p4 : Fld Z h0 a "java/lang/String" "coder" "B" (.int 0)) (p5 : Arv Z h0 b k (.char) (0 : Int32) [] (.int 0)) : Con true EL1 l Z (⟨"java/lang/String", "<init>", "([C)V"⟩ : MethodName) jdk_42_method_3_code 2 none [] (rm4 2 4 8 29) #[(.ref a), (.ref b)] h0 [a] (rno (Q_new0 Z a b k h0)) := by
  refine con_of (a0 := a0) (plainFor_of_name pn1) (fun q => nomatch q) (ew1 G) O0 (fun m => ef_new0 m a b) ?_
  intro p_ e_ s_ m_ below_ meth_ c_ D hml hret hlk hnm
  refine go_aload_n 1 (D d3_0) rfl rfl rfl ?_
  refine go_aload_n 2 (D d3_1) rfl rfl rfl ?_
  refine go_iconst 3 (v := 0) (D d3_2) rfl rfl ?_
  refine go_aload_n 4 (D d3_3) rfl rfl rfl ?_
  refine go_arraylength 5 p5 (D d3_4) rfl ?_
  refine go_aconst_null 6 (D d3_5) rfl ?_
  refine callIW0 rfl (cells' := 4) (slots' := 8) (Wd := 0) (argsL := [(.ref b), (.int 0), (.int 0), .null]) (rest := []) (payW_of (a0 := a0) (c_new0in l G a b h0 O0 p1 p2 p3 p4) (wk G 14 rfl) (wk G 7 rfl) (by decide) (by decide) (ew1 G)) rfl (wk G 11 rfl) (wk G 12 rfl) (wk G 14 rfl) (by decide) pd1 rfl rfl (by rw [hml]; rfl) (nb rfl) rfl rfl (by decide) (by decide) (allS p2 all0) (D d3_6) (k_n 9 rfl ?_)
  rintro  h1 f3 K2
  have K4 : Keep h0 h1 [a] := ((Keep.refl h0 [a]).trans K2 (allS (Or.inl (by simp)) all0))
  refine go_return hret hlk (D d3_9) (by decide) (by decide) ⟨rfl, f3⟩ K4
theorem ef_islatin (m : MethodId) (a : Addr)  : entryFrame m #[(.ref a)] 1 = mkF m 0 #[.val (.ref a)] [] := by first | (simp [entryFrame, mkF, argsToLocals, Value.category]; done) | rfl
def Q_islatin (Z : State) (a : Addr)  (h0 : Heap) (xv : Value) (h : Heap) : Prop := (.int 1) = xv ∧ h0 = h
theorem c_islatin (l : Launch) {Z : State} {a0 : Array Value} (G : GH Z a0) (a : Addr)  (h0 : Heap) (O0 : Old Z Z.heap.size h0) (p1 : Fld Z h0 a "java/lang/String" "coder" "B" (.int 0)) : Con false [] l Z (⟨"java/lang/String", "isLatin1", "()Z"⟩ : MethodName) jdk_42_method_154_code 1 (some .boolean) [] (rm4 0 0 0 0) #[(.ref a)] h0 [] (rvl (Q_islatin Z a h0)) := by
  refine con_of (a0 := a0) (plainFor_of_name pn1) (fun q => rfl) EW.nil O0 (fun m => ef_islatin m a) ?_
  intro p_ e_ s_ m_ below_ meth_ c_ D hml hret hlk hnm
  obtain ⟨z1, s2, q3⟩ := cs_of G
  refine go_getS 3 (wk G 45 rfl) (s2.ext O0.2) (D d4_0) rfl ?_
  refine go_ifF 6 (D d4_3) rfl (XT.i0_eq_f q3) ?_
  refine go_aload_n 7 (D d4_6) rfl rfl rfl ?_
  refine go_getF 10 (wk G 25 rfl) Via.refl p1 (D d4_7) rfl ?_
  refine go_ifF 13 (D d4_10) rfl (by decide) ?_
  refine go_iconst 14 (v := 1) (D d4_13) rfl rfl ?_
  refine go_goto 18 (D d4_14) (by decide) rfl ?_
  refine go_ireturn hret hlk rfl (by simp) (D d4_18) (by decide) (by decide) ⟨_, rfl, ⟨rfl, rfl⟩⟩ (Keep.refl h0 [])
theorem ef_canenc46 (m : MethodId)   : entryFrame m #[(.int 46)] 1 = mkF m 0 #[.val (.int 46)] [] := by first | (simp [entryFrame, mkF, argsToLocals, Value.category]; done) | rfl
def Q_canenc46 (Z : State)   (h0 : Heap) (xv : Value) (h : Heap) : Prop := (.int 1) = xv ∧ h0 = h
theorem c_canenc46 (l : Launch) {Z : State} {a0 : Array Value} (G : GH Z a0)   (h0 : Heap) (O0 : Old Z Z.heap.size h0)  : Con false [] l Z (⟨"java/lang/StringLatin1", "canEncode", "(I)Z"⟩ : MethodName) jdk_43_method_4_code 1 (some .boolean) [] (rm4 0 0 0 0) #[(.int 46)] h0 [] (rvl (Q_canenc46 Z h0)) := by
  refine con_of (a0 := a0) (plainFor_of_name pn2) (fun q => rfl) EW.nil O0 (fun m => ef_canenc46 m ) ?_
  intro p_ e_ s_ m_ below_ meth_ c_ D hml hret hlk hnm
  refine go_iload_n 1 (D d5_0) rfl rfl ?_
  refine go_ifF 4 (D d5_1) rfl (by decide) ?_
  refine go_iload_n 5 (D d5_4) rfl rfl ?_
  refine go_sipush 8 (v := 255) (D d5_5) rfl rfl ?_
  refine go_icF 11 (D d5_8) rfl (by decide) ?_
  refine go_iconst 12 (v := 1) (D d5_11) rfl rfl ?_
  refine go_goto 16 (D d5_12) (by decide) rfl ?_
  refine go_ireturn hret hlk rfl (by simp) (D d5_16) (by decide) (by decide) ⟨_, rfl, ⟨rfl, rfl⟩⟩ (Keep.refl h0 [])
theorem ef_strbb (m : MethodId) (a : Addr) (t : Addr)  : entryFrame m #[(.ref a), (.ref t), (.int 0)] 3 = mkF m 0 #[.val (.ref a), .val (.ref t), .val (.int 0)] [] := by first | (simp [entryFrame, mkF, argsToLocals, Value.category]; done) | rfl
def Q_strbb (Z : State) (a : Addr) (t : Addr)  (h0 : Heap) (h : Heap) : Prop := Fld Z h a "java/lang/String" "value" "[B" (.ref t) ∧ Fld Z h a "java/lang/String" "coder" "B" (.int 0)
theorem c_strbb (l : Launch) {Z : State} {a0 : Array Value} (G : GH Z a0) (a : Addr) (t : Addr)  (h0 : Heap) (O0 : Old Z Z.heap.size h0) (p1 : Exa Z h0 a "java/lang/String") (p2 : Z.heap.size ≤ a) (p3 : Fld Z h0 a "java/lang/String" "value" "[B" .null) (p4 : Fld Z h0 a "java/lang/String" "coder" "B" (.int 0)) : Con false [] l Z (⟨"java/lang/String", "<init>", "([BB)V"⟩ : MethodName) jdk_42_method_151_code 3 none [] (rm4 1 0 0 12) #[(.ref a), (.ref t), (.int 0)] h0 [a] (rno (Q_strbb Z a t h0)) := by
  refine con_of (a0 := a0) (plainFor_of_name pn1) (fun q => rfl) EW.nil O0 (fun m => ef_strbb m a t) ?_
  intro p_ e_ s_ m_ below_ meth_ c_ D hml hret hlk hnm
  refine go_aload_n 1 (D d6_0) rfl rfl rfl ?_
  refine go_initO 4 (Wd := 0) (wk G 15 rfl) (wk G 16 rfl) (wk G 17 rfl) (by rw [hml]; rfl) (by decide) (by decide) (by decide) (D d6_1) rfl ?_
  refine go_aload_n 5 (D d6_4) rfl rfl rfl ?_
  refine go_aload_n 6 (D d6_5) rfl rfl rfl ?_
  refine go_putF 9 (wk G 24 rfl) Via.refl p3 p1 (Or.inr ⟨(wk G 20 rfl), rfl, hnm⟩) (wk G 6 rfl) (ty := (.array .byte)) (v' := (.ref t)) (by decide) rfl rfl p2 (Or.inr rfl) (D d6_6) rfl (fun h1 W2 => ?_)
  have F3 := Fld.same W2 p3
  refine go_aload_n 10 (D d6_9) rfl rfl rfl ?_
  refine go_iload_n 11 (D d6_10) rfl rfl ?_
  have F4 := (p4.other W2 (Or.inr (slot_ne (t := .byte) (t' := (.array .byte)) (Or.inr (wk G 21 rfl)) (Or.inr (wk G 20 rfl)) (by decide) (by decide) (by decide))))
  have E5 := (p1.wr W2)
  refine go_putF 14 (wk G 25 rfl) Via.refl F4 E5 (Or.inr ⟨(wk G 21 rfl), rfl, hnm⟩) (wk G 6 rfl) (ty := .byte) (v' := (.int 0)) (by decide) rfl (by decide) p2 (Or.inr rfl) (D d6_11) rfl (fun h6 W7 => ?_)
  have F8 := Fld.same W7 F4
  have K9 : Keep h0 h1 [a] := ((Keep.refl h0 [a]).wr W2 (Or.inl (by simp)))
  have K10 : Keep h0 h6 [a] := (K9.wr W7 (Or.inl (by simp)))
  have F11 := (F3.other W7 (Or.inr (slot_ne (t := (.array .byte)) (t' := .byte) (Or.inr (wk G 20 rfl)) (Or.inr (wk G 21 rfl)) (by decide) (by decide) (by decide))))
  refine go_return hret hlk (D d6_14) (by decide) (by decide) ⟨rfl, ⟨F11, F8⟩⟩ K10
theorem ef_cfti (m : MethodId) (i : Int32) (j : Int32) (u : Int32) (f : Value) (hc_f : f.isRef = true) : entryFrame m #[(.int i), (.int j), (.int u), f] 4 = mkF m 0 #[.val (.int i), .val (.int j), .val (.int u), .val f] [] := by rcases XT.refc hc_f with rfl | ⟨_, rfl⟩ <;> first | (simp [entryFrame, mkF, argsToLocals, Value.category]; done) | rfl
def Q_cfti (Z : State) (i : Int32) (j : Int32) (u : Int32) (f : Value)  (h0 : Heap) (xv : Value) (h : Heap) : Prop := (.int i) = xv ∧ h0 = h
theorem c_cfti (l : Launch) {Z : State} {a0 : Array Value} (G : GH Z a0) (i : Int32) (j : Int32) (u : Int32) (f : Value)  (h0 : Heap) (O0 : Old Z Z.heap.size h0) (p1 : f.isRef = true) (p2 : ¬ i < (0 : Int32)) (p3 : ¬ j < i) (p4 : ¬ u < j) : Con false [] l Z (⟨"jdk/internal/util/Preconditions", "checkFromToIndex", "(IIILjava/util/function/BiFunction;)I"⟩ : MethodName) jdk_41_method_12_code 4 (some .int) [] (rm4 0 0 0 0) #[(.int i), (.int j), (.int u), f] h0 [] (rvl (Q_cfti Z i j u f h0)) := by
  refine con_of (a0 := a0) (plainFor_of_name pn3) (fun q => rfl) EW.nil O0 (fun m => ef_cfti m i j u f p1) ?_
  intro p_ e_ s_ m_ below_ meth_ c_ D hml hret hlk hnm
  refine go_iload_n 1 (D d7_0) rfl rfl ?_
  refine go_ifF 4 (D d7_1) rfl (XT.i0_lt_f p2) ?_
  refine go_iload_n 5 (D d7_4) rfl rfl ?_
  refine go_iload_n 6 (D d7_5) rfl rfl ?_
  refine go_icF 9 (D d7_6) rfl (XT.ii_gt_f p3) ?_
  refine go_iload_n 10 (D d7_9) rfl rfl ?_
  refine go_iload_n 11 (D d7_10) rfl rfl ?_
  refine go_icT 22 (D d7_11) (by decide) rfl (XT.ii_le_t p4) ?_
  refine go_iload_n 23 (D d7_22) rfl rfl ?_
  refine go_ireturn hret hlk rfl (by simp) (D d7_23) (by decide) (by decide) ⟨_, rfl, ⟨rfl, rfl⟩⟩ (Keep.refl h0 [])
theorem ef_cbbe (m : MethodId) (i : Int32) (j : Int32) (u : Int32)  : entryFrame m #[(.int i), (.int j), (.int u)] 3 = mkF m 0 #[.val (.int i), .val (.int j), .val (.int u)] [] := by first | (simp [entryFrame, mkF, argsToLocals, Value.category]; done) | rfl
def Q_cbbe (Z : State) (i : Int32) (j : Int32) (u : Int32)  (h0 : Heap) (h : Heap) : Prop := h0 = h
theorem c_cbbe (l : Launch) {Z : State} {a0 : Array Value} (G : GH Z a0) (i : Int32) (j : Int32) (u : Int32)  (h0 : Heap) (O0 : Old Z Z.heap.size h0) (p1 : ¬ i < (0 : Int32)) (p2 : ¬ j < i) (p3 : ¬ u < j) : Con false [] l Z (⟨"java/lang/String", "checkBoundsBeginEnd", "(III)V"⟩ : MethodName) jdk_42_method_158_code 3 none [] (rm4 1 0 0 15) #[(.int i), (.int j), (.int u)] h0 [] (rno (Q_cbbe Z i j u h0)) := by
  refine con_of (a0 := a0) (plainFor_of_name pn1) (fun q => rfl) EW.nil O0 (fun m => ef_cbbe m i j u) ?_
  intro p_ e_ s_ m_ below_ meth_ c_ D hml hret hlk hnm
  refine go_iload_n 1 (D d8_0) rfl rfl ?_
  refine go_iload_n 2 (D d8_1) rfl rfl ?_
  refine go_iload_n 3 (D d8_2) rfl rfl ?_
  obtain ⟨v1, s2, q3⟩ := sf_of G
  refine go_getS 6 (wk G 83 rfl) (s2.ext O0.2) (D d8_3) rfl ?_
  refine callS0 (cells' := 0) (slots' := 0) (Wd := 0) (argsL := [(.int i), (.int j), (.int u), v1]) (rest := []) (pay_of (a0 := a0) (c_cfti l G i j u v1 h0 O0 q3 p1 p2 p3) (wk G 87 rfl) (wk G 84 rfl) (by decide) (by decide)) (wk G 85 rfl) (wk G 86 rfl) (wk G 84 rfl) (wk G 87 rfl) (by decide) pd2 rfl rfl (by rw [hml]; rfl) (nb rfl) rfl rfl (by decide) (by decide) all0 (fun _ _ => sf0) (D d8_6) (k_v 9 rfl ?_)
  rintro _ h4 ⟨rfl, rfl⟩ K5
  refine go_pop 10 (D d8_9) rfl rfl ?_
  refine go_return hret hlk (D d8_10) (by decide) (by decide) ⟨rfl, rfl⟩ (Keep.refl h0 [])
theorem ef_chkl (m : MethodId) (i : Int32) (j : Int32)  : entryFrame m #[(.int i), (.int j)] 2 = mkF m 0 #[.val (.int i), .val (.int j)] [] := by first | (simp [entryFrame, mkF, argsToLocals, Value.category]; done) | rfl
def Q_chkl (Z : State) (i : Int32) (j : Int32)  (h0 : Heap) (h : Heap) : Prop := h0 = h
theorem c_chkl (l : Launch) {Z : State} {a0 : Array Value} (G : GH Z a0) (i : Int32) (j : Int32)  (h0 : Heap) (O0 : Old Z Z.heap.size h0) (p1 : ¬ j < i) : Con false [] l Z (⟨"java/util/Arrays", "checkLength", "(II)V"⟩ : MethodName) jdk_65_method_131_code 2 none [] (rm4 0 0 0 0) #[(.int i), (.int j)] h0 [] (rno (Q_chkl Z i j h0)) := by
  refine con_of (a0 := a0) (plainFor_of_name pn4) (fun q => rfl) EW.nil O0 (fun m => ef_chkl m i j) ?_
  intro p_ e_ s_ m_ below_ meth_ c_ D hml hret hlk hnm
  refine go_iload_n 1 (D d9_0) rfl rfl ?_
  refine go_iload_n 2 (D d9_1) rfl rfl ?_
  refine go_icT 37 (D d9_2) (by decide) rfl (XT.ii_ge_t p1) ?_
  refine go_return hret hlk (D d9_37) (by decide) (by decide) ⟨rfl, rfl⟩ (Keep.refl h0 [])
theorem ef_pick (m : MethodId) (y : Int32) (b : Int32) (u : Int32)  : entryFrame m #[(.int y), (.int b), (.int u)] 3 = mkF m 0 #[.val (.int y), .val (.int b), .val (.int u)] [] := by first | (simp [entryFrame, mkF, argsToLocals, Value.category]; done) | rfl
def Q_pick (Z : State) (y : Int32) (b : Int32) (u : Int32)  (h0 : Heap) (xv : Value) (h : Heap) : Prop := ∃ (w : Int32), (.int w) = xv ∧ h0 = h ∧ C8 w
theorem c_pick (l : Launch) {Z : State} {a0 : Array Value} (G : GH Z a0) (y : Int32) (b : Int32) (u : Int32)  (h0 : Heap) (O0 : Old Z Z.heap.size h0) (p1 : C8 u) : Con false [] l Z (⟨"com/example/commit_feed/commitfeed/config/SqlNamesUnqualifiedPinLaw", "pick", "(III)C"⟩ : MethodName) method_3_code 3 (some .char) [] (rm4 0 0 0 0) #[(.int y), (.int b), (.int u)] h0 [] (rvl (Q_pick Z y b u h0)) := by
  refine con_of (a0 := a0) (plainFor_of_name pn5) (fun q => rfl) EW.nil O0 (fun m => ef_pick m y b u) ?_
  intro p_ e_ s_ m_ below_ meth_ c_ D hml hret hlk hnm
  refine go_iload_n 1 (D d10_0) rfl rfl ?_
  refine go_iload_n 2 (D d10_1) rfl rfl ?_
  refine go_ishr 3 (z := (y >>> (b &&& 31))) (D d10_2) rfl rfl ?_
  refine go_iconst 4 (v := 1) (D d10_3) rfl rfl ?_
  refine go_iand 5 (z := ((y >>> (b &&& 31)) &&& (1 : Int32))) (D d10_4) rfl rfl ?_
  by_cases cz1 : ((y >>> (b &&& 31)) &&& (1 : Int32)) = (0 : Int32)
  · refine go_ifT 11 (D d10_5) (by decide) rfl (XT.i0_eq_t cz1) ?_
    refine go_iload_n 12 (D d10_11) rfl rfl ?_
    refine go_i2c 13 (z := u) (D d10_12) rfl (i2c_c8 p1) ?_
    refine go_ireturn hret hlk (nar_c8 p1) (by simp) (D d10_13) (by decide) (by decide) ⟨_, rfl, ⟨u, rfl, rfl, p1⟩⟩ (Keep.refl h0 [])
  · refine go_ifF 8 (D d10_5) rfl (XT.i0_eq_f cz1) ?_
    refine go_bipush 10 (v := 46) (D d10_8) rfl rfl ?_
    refine go_ireturn hret hlk rfl (by simp) (D d10_10) (by decide) (by decide) ⟨_, rfl, ⟨(46 : Int32), rfl, rfl, (by decide)⟩⟩ (Keep.refl h0 [])
theorem ef_law (m : MethodId) (x0 : Int32) (x1 : Int32) (x2 : Int32)  : entryFrame m #[(.int x0), (.int x1), (.int x2)] maxLocals = mkF m 0 #[.val (.int x0), .val (.int x1), .val (.int x2), .unset, .unset, .unset, .unset, .unset, .unset, .unset, .unset, .unset, .unset] [] := by first | (simp [entryFrame, mkF, argsToLocals, Value.category, maxLocals]; done) | rfl
def Q_law (Z : State) (x0 : Int32) (x1 : Int32) (x2 : Int32)  (h0 : Heap) (xv : Value) (h : Heap) : Prop := (.int 1) = xv
theorem ef_unq0 (m : MethodId) (a : Addr)  : entryFrame m #[(.ref a)] 1 = mkF m 0 #[.val (.ref a)] [] := by first | (simp [entryFrame, mkF, argsToLocals, Value.category]; done) | rfl
def Q_unq0 (Z : State) (a : Addr)  (h0 : Heap) (xv : Value) (h : Heap) : Prop := (.ref a) = xv
theorem ef_idx0 (m : MethodId) (a : Addr)  : entryFrame m #[(.ref a), (.int 46)] 2 = mkF m 0 #[.val (.ref a), .val (.int 46)] [] := by first | (simp [entryFrame, mkF, argsToLocals, Value.category]; done) | rfl
def Q_idx0 (Z : State) (a : Addr)  (h0 : Heap) (xv : Value) (h : Heap) : Prop := (.int (-1)) = xv ∧ h0 = h
theorem ef_idxs0 (m : MethodId) (a : Addr)  : entryFrame m #[(.ref a), (.int 46), (.int 0)] 3 = mkF m 0 #[.val (.ref a), .val (.int 46), .val (.int 0)] [] := by first | (simp [entryFrame, mkF, argsToLocals, Value.category]; done) | rfl
def Q_idxs0 (Z : State) (a : Addr)  (h0 : Heap) (xv : Value) (h : Heap) : Prop := (.int (-1)) = xv ∧ h0 = h
theorem ef_idxl0 (m : MethodId) (t : Addr)  : entryFrame m #[(.ref t), (.int 46), (.int 0), (.int 0)] 4 = mkF m 0 #[.val (.ref t), .val (.int 46), .val (.int 0), .val (.int 0)] [] := by first | (simp [entryFrame, mkF, argsToLocals, Value.category]; done) | rfl
def Q_idxl0 (Z : State) (t : Addr) (k : ClassId) (h0 : Heap) (xv : Value) (h : Heap) : Prop := (.int (-1)) = xv ∧ h0 = h
theorem ef_max0_0 (m : MethodId)   : entryFrame m #[(.int 0), (.int 0)] 2 = mkF m 0 #[.val (.int 0), .val (.int 0)] [] := by first | (simp [entryFrame, mkF, argsToLocals, Value.category]; done) | rfl
def Q_max0_0 (Z : State)   (h0 : Heap) (xv : Value) (h : Heap) : Prop := (.int 0) = xv ∧ h0 = h
theorem c_max0_0 (l : Launch) {Z : State} {a0 : Array Value} (G : GH Z a0)   (h0 : Heap) (O0 : Old Z Z.heap.size h0)  : Con false [] l Z (⟨"java/lang/Math", "max", "(II)I"⟩ : MethodName) jdk_29_method_65_code 2 (some .int) [] (rm4 0 0 0 0) #[(.int 0), (.int 0)] h0 [] (rvl (Q_max0_0 Z h0)) := by
  refine con_of (a0 := a0) (Jvm.Free.JP.mathPlain rfl (by decide)) (fun q => rfl) EW.nil O0 (fun m => ef_max0_0 m ) ?_
  intro p_ e_ s_ m_ below_ meth_ c_ D hml hret hlk hnm
  refine go_iload_n 1 (D d15_0) rfl rfl ?_
  refine go_iload_n 2 (D d15_1) rfl rfl ?_
  refine go_icF 5 (D d15_2) rfl (by decide) ?_
  refine go_iload_n 6 (D d15_5) rfl rfl ?_
  refine go_goto 10 (D d15_6) (by decide) rfl ?_
  refine go_ireturn hret hlk rfl (by simp) (D d15_10) (by decide) (by decide) ⟨_, rfl, ⟨rfl, rfl⟩⟩ (Keep.refl h0 [])
theorem ef_min0_0 (m : MethodId)   : entryFrame m #[(.int 0), (.int 0)] 2 = mkF m 0 #[.val (.int 0), .val (.int 0)] [] := by first | (simp [entryFrame, mkF, argsToLocals, Value.category]; done) | rfl
def Q_min0_0 (Z : State)   (h0 : Heap) (xv : Value) (h : Heap) : Prop := (.int 0) = xv ∧ h0 = h
theorem c_min0_0 (l : Launch) {Z : State} {a0 : Array Value} (G : GH Z a0)   (h0 : Heap) (O0 : Old Z Z.heap.size h0)  : Con false [] l Z (⟨"java/lang/Math", "min", "(II)I"⟩ : MethodName) jdk_29_method_69_code 2 (some .int) [] (rm4 0 0 0 0) #[(.int 0), (.int 0)] h0 [] (rvl (Q_min0_0 Z h0)) := by
  refine con_of (a0 := a0) (Jvm.Free.JP.mathPlain rfl (by decide)) (fun q => rfl) EW.nil O0 (fun m => ef_min0_0 m ) ?_
  intro p_ e_ s_ m_ below_ meth_ c_ D hml hret hlk hnm
  refine go_iload_n 1 (D d16_0) rfl rfl ?_
  refine go_iload_n 2 (D d16_1) rfl rfl ?_
  refine go_icF 5 (D d16_2) rfl (by decide) ?_
  refine go_iload_n 6 (D d16_5) rfl rfl ?_
  refine go_goto 10 (D d16_6) (by decide) rfl ?_
  refine go_ireturn hret hlk rfl (by simp) (D d16_10) (by decide) (by decide) ⟨_, rfl, ⟨rfl, rfl⟩⟩ (Keep.refl h0 [])
theorem c_idxl0 (l : Launch) {Z : State} {a0 : Array Value} (G : GH Z a0) (t : Addr) (k : ClassId) (h0 : Heap) (O0 : Old Z Z.heap.size h0) (p1 : Arv Z h0 t k (.byte) (0 : Int32) [] (.int 0)) : Con false [] l Z (⟨"java/lang/StringLatin1", "indexOf", "([BIII)I"⟩ : MethodName) jdk_43_method_22_code 4 (some .int) [] (rm4 1 0 0 13) #[(.ref t), (.int 46), (.int 0), (.int 0)] h0 [] (rvl (Q_idxl0 Z t k h0)) := by
  refine con_of (a0 := a0) (plainFor_of_name pn2) (fun q => rfl) EW.nil O0 (fun m => ef_idxl0 m t) ?_
  intro p_ e_ s_ m_ below_ meth_ c_ D hml hret hlk hnm
  refine go_iload_n 1 (D d14_0) rfl rfl ?_
  refine callS0 (cells' := 0) (slots' := 0) (Wd := 0) (argsL := [(.int 46)]) (rest := []) (pay_of (a0 := a0) (c_canenc46 l G  h0 O0 ) (wk G 62 rfl) (wk G 58 rfl) (by decide) (by decide)) (wk G 60 rfl) (wk G 61 rfl) (wk G 58 rfl) (wk G 62 rfl) (by decide) pd7 rfl rfl (by rw [hml]; rfl) (nb rfl) rfl rfl (by decide) (by decide) all0 (fun _ _ => sf0) (D d14_1) (k_v 4 rfl ?_)
  rintro _ h1 ⟨rfl, rfl⟩ K2
  refine go_ifT 9 (D d14_4) (by decide) rfl (by decide) ?_
  refine go_iload_n 10 (D d14_9) rfl rfl ?_
  refine go_iconst 11 (v := 0) (D d14_10) rfl rfl ?_
  refine callS0 (cells' := 0) (slots' := 0) (Wd := 0) (argsL := [(.int 0), (.int 0)]) (rest := []) (pay_of (a0 := a0) (c_max0_0 l G  h0 O0 ) (wk G 66 rfl) (wk G 65 rfl) (by decide) (by decide)) (wk G 63 rfl) (wk G 64 rfl) (wk G 65 rfl) (wk G 66 rfl) (by decide) pd8 rfl rfl (by rw [hml]; rfl) (nb rfl) rfl rfl (by decide) (by decide) all0 (fun _ _ => sf0) (D d14_11) (k_v 14 rfl ?_)
  rintro _ h3 ⟨rfl, rfl⟩ K4
  refine go_istore_n 15 (ls' := #[vr t, vi 46, vi 0, vi 0]) (D d14_14) rfl rfl ?_
  refine go_iload_n 16 (D d14_15) rfl rfl ?_
  refine go_aload_n 17 (D d14_16) rfl rfl rfl ?_
  refine go_arraylength 18 p1 (D d14_17) rfl ?_
  refine callS0 (cells' := 0) (slots' := 0) (Wd := 0) (argsL := [(.int 0), (.int 0)]) (rest := []) (pay_of (a0 := a0) (c_min0_0 l G  h0 O0 ) (wk G 69 rfl) (wk G 65 rfl) (by decide) (by decide)) (wk G 67 rfl) (wk G 68 rfl) (wk G 65 rfl) (wk G 69 rfl) (by decide) pd8 rfl rfl (by rw [hml]; rfl) (nb rfl) rfl rfl (by decide) (by decide) all0 (fun _ _ => sf0) (D d14_18) (k_v 21 rfl ?_)
  rintro _ h5 ⟨rfl, rfl⟩ K6
  refine go_istore_n 22 (ls' := #[vr t, vi 46, vi 0, vi 0]) (D d14_21) rfl rfl ?_
  refine go_iload_n 23 (D d14_22) rfl rfl ?_
  refine go_iload_n 24 (D d14_23) rfl rfl ?_
  refine go_icF 27 (D d14_24) rfl (by decide) ?_
  refine go_iconst 28 (v := (-1)) (D d14_27) rfl rfl ?_
  refine go_ireturn hret hlk rfl (by simp) (D d14_28) (by decide) (by decide) ⟨_, rfl, ⟨rfl, rfl⟩⟩ (Keep.refl h0 [])
theorem c_idxs0 (l : Launch) {Z : State} {a0 : Array Value} (G : GH Z a0) (a : Addr)  (h0 : Heap) (O0 : Old Z Z.heap.size h0) (p1 : Str Z h0 a []) : Con false [] l Z (⟨"java/lang/String", "indexOf", "(II)I"⟩ : MethodName) jdk_42_method_80_code 3 (some .int) [] (rm4 2 0 0 28) #[(.ref a), (.int 46), (.int 0)] h0 [] (rvl (Q_idxs0 Z a h0)) := by
  refine con_of (a0 := a0) (plainFor_of_name pn1) (fun q => rfl) EW.nil O0 (fun m => ef_idxs0 m a) ?_
  intro p_ e_ s_ m_ below_ meth_ c_ D hml hret hlk hnm
  refine go_aload_n 1 (D d13_0) rfl rfl rfl ?_
  obtain ⟨t1, k2, E3, F4, F5, A6, B7, L8⟩ := id p1
  refine callV0 (cells' := 0) (slots' := 0) (Wd := 0) (argsL := []) (rest := []) (pay_of (a0 := a0) (c_islatin l G a h0 O0 F5) (wk G 44 rfl) (wk G 7 rfl) (by decide) (by decide)) E3 (wk G 40 rfl) (wk G 41 rfl) (wk G 43 rfl) (wk G 43 rfl) (wk G 42 rfl) (by decide) pd5 rfl rfl (by rw [hml]; rfl) (nb rfl) rfl rfl (by decide) (by decide) all0 (fun _ _ => sf0) (D d13_1) (k_v 4 rfl ?_)
  rintro _ h9 ⟨rfl, rfl⟩ K10
  refine go_ifF 7 (D d13_4) rfl (by decide) ?_
  refine go_aload_n 8 (D d13_7) rfl rfl rfl ?_
  refine go_getF 11 (wk G 24 rfl) Via.refl F4 (D d13_8) rfl ?_
  refine go_iload_n 12 (D d13_11) rfl rfl ?_
  refine go_iload_n 13 (D d13_12) rfl rfl ?_
  refine go_aload_n 14 (D d13_13) rfl rfl rfl ?_
  refine callV0 (cells' := 0) (slots' := 0) (Wd := 3) (argsL := []) (rest := [(.int 0), (.int 46), (.ref t1)]) (pay_len G O0 (n := (0 : Int32)) p1 rfl (by decide) (by decide)) E3 (wk G 46 rfl) (wk G 47 rfl) (wk G 49 rfl) (wk G 49 rfl) (wk G 48 rfl) (by decide) pd6 rfl rfl (by rw [hml]; rfl) (nb rfl) rfl rfl (by decide) (by decide) all0 (fun _ _ => sf0) (D d13_14) (k_v 17 rfl ?_)
  rintro _ _ ⟨rfl, rfl⟩ -
  refine callS0 (cells' := 0) (slots' := 0) (Wd := 0) (argsL := [(.ref t1), (.int 46), (.int 0), (.int 0)]) (rest := []) (pay_of (a0 := a0) (c_idxl0 l G t1 k2 h0 O0 A6) (wk G 59 rfl) (wk G 58 rfl) (by decide) (by decide)) (wk G 56 rfl) (wk G 57 rfl) (wk G 58 rfl) (wk G 59 rfl) (by decide) pd9 rfl rfl (by rw [hml]; rfl) (nb rfl) rfl rfl (by decide) (by decide) all0 (fun _ _ => sf0) (D d13_17) (k_v 20 rfl ?_)
  rintro _ h11 ⟨rfl, rfl⟩ K12
  refine go_goto 36 (D d13_20) (by decide) rfl ?_
  refine go_ireturn hret hlk rfl (by simp) (D d13_36) (by decide) (by decide) ⟨_, rfl, ⟨rfl, rfl⟩⟩ (Keep.refl h0 [])
theorem c_idx0 (l : Launch) {Z : State} {a0 : Array Value} (G : GH Z a0) (a : Addr)  (h0 : Heap) (O0 : Old Z Z.heap.size h0) (p1 : Str Z h0 a []) : Con false [] l Z (⟨"java/lang/String", "indexOf", "(I)I"⟩ : MethodName) jdk_42_method_79_code 2 (some .int) [] (rm4 3 0 0 42) #[(.ref a), (.int 46)] h0 [] (rvl (Q_idx0 Z a h0)) := by
  refine con_of (a0 := a0) (plainFor_of_name pn1) (fun q => rfl) EW.nil O0 (fun m => ef_idx0 m a) ?_
  intro p_ e_ s_ m_ below_ meth_ c_ D hml hret hlk hnm
  refine go_aload_n 1 (D d12_0) rfl rfl rfl ?_
  refine go_iload_n 2 (D d12_1) rfl rfl ?_
  refine go_iconst 3 (v := 0) (D d12_2) rfl rfl ?_
  refine callV0 (cells' := 0) (slots' := 0) (Wd := 0) (argsL := [(.int 46), (.int 0)]) (rest := []) (pay_of (a0 := a0) (c_idxs0 l G a h0 O0 p1) (wk G 39 rfl) (wk G 7 rfl) (by decide) (by decide)) p1.exa (wk G 35 rfl) (wk G 36 rfl) (wk G 38 rfl) (wk G 38 rfl) (wk G 37 rfl) (by decide) pd8 rfl rfl (by rw [hml]; rfl) (nb rfl) rfl rfl (by decide) (by decide) all0 (fun _ _ => sf0) (D d12_3) (k_v 6 rfl ?_)
  rintro _ h1 ⟨rfl, rfl⟩ K2
  refine go_ireturn hret hlk rfl (by simp) (D d12_6) (by decide) (by decide) ⟨_, rfl, ⟨rfl, rfl⟩⟩ (Keep.refl h0 [])
theorem ef_subi0_0 (m : MethodId) (a : Addr)  : entryFrame m #[(.ref a), (.int 0)] 2 = mkF m 0 #[.val (.ref a), .val (.int 0)] [] := by first | (simp [entryFrame, mkF, argsToLocals, Value.category]; done) | rfl
def Q_subi0_0 (Z : State) (a : Addr)  (h0 : Heap) (xv : Value) (h : Heap) : Prop := (.ref a) = xv ∧ h0 = h
theorem ef_sub0_0_0 (m : MethodId) (a : Addr)  : entryFrame m #[(.ref a), (.int 0), (.int 0)] 5 = mkF m 0 #[.val (.ref a), .val (.int 0), .val (.int 0), .unset, .unset] [] := by first | (simp [entryFrame, mkF, argsToLocals, Value.category]; done) | rfl
def Q_sub0_0_0 (Z : State) (a : Addr)  (h0 : Heap) (xv : Value) (h : Heap) : Prop := (.ref a) = xv ∧ h0 = h
theorem c_sub0_0_0 (l : Launch) {Z : State} {a0 : Array Value} (G : GH Z a0) (a : Addr)  (h0 : Heap) (O0 : Old Z Z.heap.size h0) (p1 : Str Z h0 a []) : Con false [] l Z (⟨"java/lang/String", "substring", "(II)Ljava/lang/String;"⟩ : MethodName) jdk_42_method_92_code 5 (some (.object "java/lang/String")) [] (rm4 2 0 0 29) #[(.ref a), (.int 0), (.int 0)] h0 [] (rvl (Q_sub0_0_0 Z a h0)) := by
  refine con_of (a0 := a0) (plainFor_of_name pn1) (fun q => rfl) EW.nil O0 (fun m => ef_sub0_0_0 m a) ?_
  intro p_ e_ s_ m_ below_ meth_ c_ D hml hret hlk hnm
  refine go_aload_n 1 (D d18_0) rfl rfl rfl ?_
  refine callV0 (cells' := 0) (slots' := 0) (Wd := 0) (argsL := []) (rest := []) (pay_len G O0 (n := (0 : Int32)) p1 rfl (by decide) (by decide)) p1.exa (wk G 46 rfl) (wk G 47 rfl) (wk G 49 rfl) (wk G 49 rfl) (wk G 48 rfl) (by decide) pd6 rfl rfl (by rw [hml]; rfl) (nb rfl) rfl rfl (by decide) (by decide) all0 (fun _ _ => sf0) (D d18_1) (k_v 4 rfl ?_)
  rintro _ _ ⟨rfl, rfl⟩ -
  refine go_istore_n 5 (ls' := #[vr a, vi 0, vi 0, vi 0, un]) (D d18_4) rfl rfl ?_
  refine go_iload_n 6 (D d18_5) rfl rfl ?_
  refine go_iload_n 7 (D d18_6) rfl rfl ?_
  refine go_iload_n 8 (D d18_7) rfl rfl ?_
  refine callS0 (cells' := 0) (slots' := 0) (Wd := 0) (argsL := [(.int 0), (.int 0), (.int 0)]) (rest := []) (pay_of (a0 := a0) (c_cbbe l G (0 : Int32) (0 : Int32) (0 : Int32) h0 O0 (by decide) (by decide) (by decide)) (wk G 82 rfl) (wk G 7 rfl) (by decide) (by decide)) (wk G 80 rfl) (wk G 81 rfl) (wk G 7 rfl) (wk G 82 rfl) (by decide) pd11 rfl rfl (by rw [hml]; rfl) (nb rfl) rfl rfl (by decide) (by decide) all0 (fun _ _ => sf0) (D d18_8) (k_n 11 rfl ?_)
  rintro  h1 rfl K2
  refine go_iload_n 12 (D d18_11) rfl rfl ?_
  refine go_ifF 15 (D d18_12) rfl (by decide) ?_
  refine go_iload_n 16 (D d18_15) rfl rfl ?_
  refine go_iload_n 17 (D d18_16) rfl rfl ?_
  refine go_icF 20 (D d18_17) rfl (by decide) ?_
  refine go_aload_n 21 (D d18_20) rfl rfl rfl ?_
  refine go_areturn hret hlk rfl rfl (D d18_21) (by decide) (by decide) ⟨_, rfl, ⟨rfl, rfl⟩⟩ (Keep.refl h0 [])
theorem c_subi0_0 (l : Launch) {Z : State} {a0 : Array Value} (G : GH Z a0) (a : Addr)  (h0 : Heap) (O0 : Old Z Z.heap.size h0) (p1 : Str Z h0 a []) : Con false [] l Z (⟨"java/lang/String", "substring", "(I)Ljava/lang/String;"⟩ : MethodName) jdk_42_method_91_code 2 (some (.object "java/lang/String")) [] (rm4 3 0 0 45) #[(.ref a), (.int 0)] h0 [] (rvl (Q_subi0_0 Z a h0)) := by
  refine con_of (a0 := a0) (plainFor_of_name pn1) (fun q => rfl) EW.nil O0 (fun m => ef_subi0_0 m a) ?_
  intro p_ e_ s_ m_ below_ meth_ c_ D hml hret hlk hnm
  refine go_aload_n 1 (D d17_0) rfl rfl rfl ?_
  refine go_iload_n 2 (D d17_1) rfl rfl ?_
  refine go_aload_n 3 (D d17_2) rfl rfl rfl ?_
  refine callV0 (cells' := 0) (slots' := 0) (Wd := 2) (argsL := []) (rest := [(.int 0), (.ref a)]) (pay_len G O0 (n := (0 : Int32)) p1 rfl (by decide) (by decide)) p1.exa (wk G 46 rfl) (wk G 47 rfl) (wk G 49 rfl) (wk G 49 rfl) (wk G 48 rfl) (by decide) pd6 rfl rfl (by rw [hml]; rfl) (nb rfl) rfl rfl (by decide) (by decide) all0 (fun _ _ => sf0) (D d17_3) (k_v 6 rfl ?_)
  rintro _ _ ⟨rfl, rfl⟩ -
  refine callV0 (cells' := 0) (slots' := 0) (Wd := 0) (argsL := [(.int 0), (.int 0)]) (rest := []) (pay_of (a0 := a0) (c_sub0_0_0 l G a h0 O0 p1) (wk G 79 rfl) (wk G 7 rfl) (by decide) (by decide)) p1.exa (wk G 75 rfl) (wk G 76 rfl) (wk G 78 rfl) (wk G 78 rfl) (wk G 77 rfl) (by decide) pd12 rfl rfl (by rw [hml]; rfl) (nb rfl) rfl rfl (by decide) (by decide) all0 (fun _ _ => sf0) (D d17_6) (k_v 9 rfl ?_)
  rintro _ h1 ⟨rfl, rfl⟩ K2
  refine go_areturn hret hlk rfl rfl (D d17_9) (by decide) (by decide) ⟨_, rfl, ⟨rfl, rfl⟩⟩ (Keep.refl h0 [])
theorem c_unq0 (l : Launch) {Z : State} {a0 : Array Value} (G : GH Z a0) (a : Addr)  (h0 : Heap) (O0 : Old Z Z.heap.size h0) (p1 : Str Z h0 a []) : Con true EL1 l Z (⟨"com/example/commit_feed/commitfeed/config/SqlNames", "unqualified", "(Ljava/lang/String;)Ljava/lang/String;"⟩ : MethodName) prog_9_method_4_code 1 (some (.object "java/lang/String")) [] (rm4 4 0 0 58) #[(.ref a)] h0 [] (rvl (Q_unq0 Z a h0)) := by
  refine con_of (a0 := a0) (plainFor_of_name pn6) (fun q => nomatch q) (ew1 G) O0 (fun m => ef_unq0 m a) ?_
  intro p_ e_ s_ m_ below_ meth_ c_ D hml hret hlk hnm
  refine go_aload_n 1 (D d11_0) rfl rfl rfl ?_
  refine go_aload_n 2 (D d11_1) rfl rfl rfl ?_
  refine go_bipush 4 (v := 46) (D d11_2) rfl rfl ?_
  refine callV0 (cells' := 0) (slots' := 0) (Wd := 1) (argsL := [(.int 46)]) (rest := [(.ref a)]) (pay_of (a0 := a0) (c_idx0 l G a h0 O0 p1) (wk G 34 rfl) (wk G 7 rfl) (by decide) (by decide)) p1.exa (wk G 30 rfl) (wk G 31 rfl) (wk G 33 rfl) (wk G 33 rfl) (wk G 32 rfl) (by decide) pd10 rfl rfl (by rw [hml]; rfl) (nb rfl) rfl rfl (by decide) (by decide) all0 (fun _ _ => sf0) (D d11_4) (k_v 7 rfl ?_)
  rintro _ h1 ⟨rfl, rfl⟩ K2
  refine go_iconst 8 (v := 1) (D d11_7) rfl rfl ?_
  refine go_iadd 9 (z := (0 : Int32)) (D d11_8) rfl (by decide) ?_
  refine callV0 (cells' := 0) (slots' := 0) (Wd := 0) (argsL := [(.int 0)]) (rest := []) (pay_of (a0 := a0) (c_subi0_0 l G a h0 O0 p1) (wk G 74 rfl) (wk G 7 rfl) (by decide) (by decide)) p1.exa (wk G 70 rfl) (wk G 71 rfl) (wk G 73 rfl) (wk G 73 rfl) (wk G 72 rfl) (by decide) pd13 rfl rfl (by rw [hml]; rfl) (nb rfl) rfl rfl (by decide) (by decide) all0 (fun _ _ => sf0) (D d11_9) (k_v 12 rfl ?_)
  rintro _ h3 ⟨rfl, rfl⟩ K4
  refine go_areturn hret hlk rfl rfl (D d11_12) (by decide) (by decide) ⟨_, rfl, rfl⟩ (Keep.refl h0 [])
theorem ef_unq1 (m : MethodId) (a : Addr)  : entryFrame m #[(.ref a)] 1 = mkF m 0 #[.val (.ref a)] [] := by first | (simp [entryFrame, mkF, argsToLocals, Value.category]; done) | rfl
def Q_unq1 (Z : State) (a : Addr) (c0 : Int32) (h0 : Heap) (xv : Value) (h : Heap) : Prop := (∃ (r : Addr), (.ref r) = xv ∧ c0 = (46 : Int32) ∧ Str Z h r []) ∨ ((.ref a) = xv ∧ ¬ c0 = (46 : Int32))
theorem ef_idx1 (m : MethodId) (a : Addr)  : entryFrame m #[(.ref a), (.int 46)] 2 = mkF m 0 #[.val (.ref a), .val (.int 46)] [] := by first | (simp [entryFrame, mkF, argsToLocals, Value.category]; done) | rfl
def Q_idx1 (Z : State) (a : Addr) (c0 : Int32) (h0 : Heap) (xv : Value) (h : Heap) : Prop := ((.int 0) = xv ∧ h0 = h ∧ c0 = (46 : Int32)) ∨ ((.int (-1)) = xv ∧ h0 = h ∧ ¬ c0 = (46 : Int32))
theorem ef_idxs1 (m : MethodId) (a : Addr)  : entryFrame m #[(.ref a), (.int 46), (.int 0)] 3 = mkF m 0 #[.val (.ref a), .val (.int 46), .val (.int 0)] [] := by first | (simp [entryFrame, mkF, argsToLocals, Value.category]; done) | rfl
def Q_idxs1 (Z : State) (a : Addr) (c0 : Int32) (h0 : Heap) (xv : Value) (h : Heap) : Prop := ((.int 0) = xv ∧ h0 = h ∧ c0 = (46 : Int32)) ∨ ((.int (-1)) = xv ∧ h0 = h ∧ ¬ c0 = (46 : Int32))
theorem ef_idxl1 (m : MethodId) (t : Addr)  : entryFrame m #[(.ref t), (.int 46), (.int 0), (.int 1)] 4 = mkF m 0 #[.val (.ref t), .val (.int 46), .val (.int 0), .val (.int 1)] [] := by first | (simp [entryFrame, mkF, argsToLocals, Value.category]; done) | rfl
def Q_idxl1 (Z : State) (t : Addr) (k : ClassId) (b0 : Int32) (h0 : Heap) (xv : Value) (h : Heap) : Prop := ((.int 0) = xv ∧ h0 = h ∧ b0 = (46 : Int32)) ∨ ((.int (-1)) = xv ∧ h0 = h ∧ ¬ b0 = (46 : Int32))
theorem ef_min1_1 (m : MethodId)   : entryFrame m #[(.int 1), (.int 1)] 2 = mkF m 0 #[.val (.int 1), .val (.int 1)] [] := by first | (simp [entryFrame, mkF, argsToLocals, Value.category]; done) | rfl
def Q_min1_1 (Z : State)   (h0 : Heap) (xv : Value) (h : Heap) : Prop := (.int 1) = xv ∧ h0 = h
theorem c_min1_1 (l : Launch) {Z : State} {a0 : Array Value} (G : GH Z a0)   (h0 : Heap) (O0 : Old Z Z.heap.size h0)  : Con false [] l Z (⟨"java/lang/Math", "min", "(II)I"⟩ : MethodName) jdk_29_method_69_code 2 (some .int) [] (rm4 0 0 0 0) #[(.int 1), (.int 1)] h0 [] (rvl (Q_min1_1 Z h0)) := by
  refine con_of (a0 := a0) (Jvm.Free.JP.mathPlain rfl (by decide)) (fun q => rfl) EW.nil O0 (fun m => ef_min1_1 m ) ?_
  intro p_ e_ s_ m_ below_ meth_ c_ D hml hret hlk hnm
  refine go_iload_n 1 (D d16_0) rfl rfl ?_
  refine go_iload_n 2 (D d16_1) rfl rfl ?_
  refine go_icF 5 (D d16_2) rfl (by decide) ?_
  refine go_iload_n 6 (D d16_5) rfl rfl ?_
  refine go_goto 10 (D d16_6) (by decide) rfl ?_
  refine go_ireturn hret hlk rfl (by simp) (D d16_10) (by decide) (by decide) ⟨_, rfl, ⟨rfl, rfl⟩⟩ (Keep.refl h0 [])
theorem ef_idxc1 (m : MethodId) (t : Addr)  : entryFrame m #[(.ref t), (.int 46), (.int 0), (.int 1)] 6 = mkF m 0 #[.val (.ref t), .val (.int 46), .val (.int 0), .val (.int 1), .unset, .unset] [] := by first | (simp [entryFrame, mkF, argsToLocals, Value.category]; done) | rfl
def Q_idxc1 (Z : State) (t : Addr) (k : ClassId) (b0 : Int32) (h0 : Heap) (xv : Value) (h : Heap) : Prop := ((.int 0) = xv ∧ h0 = h ∧ b0 = (46 : Int32)) ∨ ((.int (-1)) = xv ∧ h0 = h ∧ ¬ b0 = (46 : Int32))
theorem c_idxc1 (l : Launch) {Z : State} {a0 : Array Value} (G : GH Z a0) (t : Addr) (k : ClassId) (b0 : Int32) (h0 : Heap) (O0 : Old Z Z.heap.size h0) (p1 : Arv Z h0 t k (.byte) (1 : Int32) [(.int b0)] (.int 0)) : Con false [] l Z (⟨"java/lang/StringLatin1", "indexOfChar", "([BIII)I"⟩ : MethodName) jdk_43_method_23_code 6 (some .int) [] (rm4 0 0 0 0) #[(.ref t), (.int 46), (.int 0), (.int 1)] h0 [] (rvl (Q_idxc1 Z t k b0 h0)) := by
  refine con_of (a0 := a0) (plainFor_of_name pn2) (fun q => rfl) EW.nil O0 (fun m => ef_idxc1 m t) ?_
  intro p_ e_ s_ m_ below_ meth_ c_ D hml hret hlk hnm
  refine go_iload_n 1 (D d19_0) rfl rfl ?_
  refine go_i2b 2 (z := (46 : Int32)) (D d19_1) rfl (by decide) ?_
  refine go_istore 4 (ls' := #[vr t, vi 46, vi 0, vi 1, vi 46, un]) (D d19_2) rfl rfl ?_
  refine go_iload_n 5 (D d19_4) rfl rfl ?_
  refine go_istore 7 (ls' := #[vr t, vi 46, vi 0, vi 1, vi 46, vi 0]) (D d19_5) rfl rfl ?_
  refine go_iload 9 (D d19_7) rfl rfl ?_
  refine go_iload_n 10 (D d19_9) rfl rfl ?_
  refine go_icF 13 (D d19_10) rfl (by decide) ?_
  refine go_aload_n 14 (D d19_13) rfl rfl rfl ?_
  refine go_iload 16 (D d19_14) rfl rfl ?_
  refine go_baload 17 (i := 0) (v := (.int b0)) p1 (by decide) (by decide) rfl rfl (D d19_16) rfl ?_
  refine go_iload 19 (D d19_17) rfl rfl ?_
  by_cases cz1 : b0 = (46 : Int32)
  · refine go_icF 22 (D d19_19) rfl (XT.ii_ne_f cz1) ?_
    refine go_iload 24 (D d19_22) rfl rfl ?_
    refine go_ireturn hret hlk rfl (by simp) (D d19_24) (by decide) (by decide) ⟨_, rfl, (Or.inl ⟨rfl, rfl, cz1⟩)⟩ (Keep.refl h0 [])
  · refine go_icT 25 (D d19_19) (by decide) rfl (XT.ii_ne_t cz1) ?_
    refine go_iinc 28 (ls' := #[vr t, vi 46, vi 0, vi 1, vi 46, vi 1]) (y := (1 : Int32)) (D d19_25) rfl rfl rfl rfl ?_
    refine go_goto 7 (D d19_28) (by decide) rfl ?_
    refine go_iload 9 (D d19_7) rfl rfl ?_
    refine go_iload_n 10 (D d19_9) rfl rfl ?_
    refine go_icT 31 (D d19_10) (by decide) rfl (by decide) ?_
    refine go_iconst 32 (v := (-1)) (D d19_31) rfl rfl ?_
    refine go_ireturn hret hlk rfl (by simp) (D d19_32) (by decide) (by decide) ⟨_, rfl, (Or.inr (⟨rfl, rfl, cz1⟩))⟩ (Keep.refl h0 [])
theorem c_idxl1 (l : Launch) {Z : State} {a0 : Array Value} (G : GH Z a0) (t : Addr) (k : ClassId) (b0 : Int32) (h0 : Heap) (O0 : Old Z Z.heap.size h0) (p1 : Arv Z h0 t k (.byte) (1 : Int32) [(.int b0)] (.int 0)) : Con false [] l Z (⟨"java/lang/StringLatin1", "indexOf", "([BIII)I"⟩ : MethodName) jdk_43_method_22_code 4 (some .int) [] (rm4 1 0 0 17) #[(.ref t), (.int 46), (.int 0), (.int 1)] h0 [] (rvl (Q_idxl1 Z t k b0 h0)) := by
  refine con_of (a0 := a0) (plainFor_of_name pn2) (fun q => rfl) EW.nil O0 (fun m => ef_idxl1 m t) ?_
  intro p_ e_ s_ m_ below_ meth_ c_ D hml hret hlk hnm
  refine go_iload_n 1 (D d14_0) rfl rfl ?_
  refine callS0 (cells' := 0) (slots' := 0) (Wd := 0) (argsL := [(.int 46)]) (rest := []) (pay_of (a0 := a0) (c_canenc46 l G  h0 O0 ) (wk G 62 rfl) (wk G 58 rfl) (by decide) (by decide)) (wk G 60 rfl) (wk G 61 rfl) (wk G 58 rfl) (wk G 62 rfl) (by decide) pd7 rfl rfl (by rw [hml]; rfl) (nb rfl) rfl rfl (by decide) (by decide) all0 (fun _ _ => sf0) (D d14_1) (k_v 4 rfl ?_)
  rintro _ h1 ⟨rfl, rfl⟩ K2
  refine go_ifT 9 (D d14_4) (by decide) rfl (by decide) ?_
  refine go_iload_n 10 (D d14_9) rfl rfl ?_
  refine go_iconst 11 (v := 0) (D d14_10) rfl rfl ?_
  refine callS0 (cells' := 0) (slots' := 0) (Wd := 0) (argsL := [(.int 0), (.int 0)]) (rest := []) (pay_of (a0 := a0) (c_max0_0 l G  h0 O0 ) (wk G 66 rfl) (wk G 65 rfl) (by decide) (by decide)) (wk G 63 rfl) (wk G 64 rfl) (wk G 65 rfl) (wk G 66 rfl) (by decide) pd8 rfl rfl (by rw [hml]; rfl) (nb rfl) rfl rfl (by decide) (by decide) all0 (fun _ _ => sf0) (D d14_11) (k_v 14 rfl ?_)
  rintro _ h3 ⟨rfl, rfl⟩ K4
  refine go_istore_n 15 (ls' := #[vr t, vi 46, vi 0, vi 1]) (D d14_14) rfl rfl ?_
  refine go_iload_n 16 (D d14_15) rfl rfl ?_
  refine go_aload_n 17 (D d14_16) rfl rfl rfl ?_
  refine go_arraylength 18 p1 (D d14_17) rfl ?_
  refine callS0 (cells' := 0) (slots' := 0) (Wd := 0) (argsL := [(.int 1), (.int 1)]) (rest := []) (pay_of (a0 := a0) (c_min1_1 l G  h0 O0 ) (wk G 69 rfl) (wk G 65 rfl) (by decide) (by decide)) (wk G 67 rfl) (wk G 68 rfl) (wk G 65 rfl) (wk G 69 rfl) (by decide) pd8 rfl rfl (by rw [hml]; rfl) (nb rfl) rfl rfl (by decide) (by decide) all0 (fun _ _ => sf0) (D d14_18) (k_v 21 rfl ?_)
  rintro _ h5 ⟨rfl, rfl⟩ K6
  refine go_istore_n 22 (ls' := #[vr t, vi 46, vi 0, vi 1]) (D d14_21) rfl rfl ?_
  refine go_iload_n 23 (D d14_22) rfl rfl ?_
  refine go_iload_n 24 (D d14_23) rfl rfl ?_
  refine go_icT 29 (D d14_24) (by decide) rfl (by decide) ?_
  refine go_aload_n 30 (D d14_29) rfl rfl rfl ?_
  refine go_iload_n 31 (D d14_30) rfl rfl ?_
  refine go_iload_n 32 (D d14_31) rfl rfl ?_
  refine go_iload_n 33 (D d14_32) rfl rfl ?_
  refine callS0 (cells' := 0) (slots' := 0) (Wd := 0) (argsL := [(.ref t), (.int 46), (.int 0), (.int 1)]) (rest := []) (pay_of (a0 := a0) (c_idxc1 l G t k b0 h0 O0 p1) (wk G 109 rfl) (wk G 58 rfl) (by decide) (by decide)) (wk G 107 rfl) (wk G 108 rfl) (wk G 58 rfl) (wk G 109 rfl) (by decide) pd9 rfl rfl (by rw [hml]; rfl) (nb rfl) rfl rfl (by decide) (by decide) all0 (fun _ _ => sf0) (D d14_33) (k_v 36 rfl ?_)
  rintro _ h7 (⟨rfl, rfl, f9⟩ | ⟨rfl, rfl, f10⟩) K8
  · refine go_ireturn hret hlk rfl (by simp) (D d14_36) (by decide) (by decide) ⟨_, rfl, (Or.inl ⟨rfl, rfl, f9⟩)⟩ (Keep.refl h0 [])
  · refine go_ireturn hret hlk rfl (by simp) (D d14_36) (by decide) (by decide) ⟨_, rfl, (Or.inr (⟨rfl, rfl, f10⟩))⟩ (Keep.refl h0 [])
theorem c_idxs1 (l : Launch) {Z : State} {a0 : Array Value} (G : GH Z a0) (a : Addr) (c0 : Int32) (h0 : Heap) (O0 : Old Z Z.heap.size h0) (p1 : Str Z h0 a [c0]) : Con false [] l Z (⟨"java/lang/String", "indexOf", "(II)I"⟩ : MethodName) jdk_42_method_80_code 3 (some .int) [] (rm4 2 0 0 32) #[(.ref a), (.int 46), (.int 0)] h0 [] (rvl (Q_idxs1 Z a c0 h0)) := by
  refine con_of (a0 := a0) (plainFor_of_name pn1) (fun q => rfl) EW.nil O0 (fun m => ef_idxs1 m a) ?_
  intro p_ e_ s_ m_ below_ meth_ c_ D hml hret hlk hnm
  refine go_aload_n 1 (D d13_0) rfl rfl rfl ?_
  obtain ⟨t1, k2, E3, F4, F5, A6, B7, L8⟩ := id p1
  refine callV0 (cells' := 0) (slots' := 0) (Wd := 0) (argsL := []) (rest := []) (pay_of (a0 := a0) (c_islatin l G a h0 O0 F5) (wk G 44 rfl) (wk G 7 rfl) (by decide) (by decide)) E3 (wk G 40 rfl) (wk G 41 rfl) (wk G 43 rfl) (wk G 43 rfl) (wk G 42 rfl) (by decide) pd5 rfl rfl (by rw [hml]; rfl) (nb rfl) rfl rfl (by decide) (by decide) all0 (fun _ _ => sf0) (D d13_1) (k_v 4 rfl ?_)
  rintro _ h9 ⟨rfl, rfl⟩ K10
  refine go_ifF 7 (D d13_4) rfl (by decide) ?_
  refine go_aload_n 8 (D d13_7) rfl rfl rfl ?_
  refine go_getF 11 (wk G 24 rfl) Via.refl F4 (D d13_8) rfl ?_
  refine go_iload_n 12 (D d13_11) rfl rfl ?_
  refine go_iload_n 13 (D d13_12) rfl rfl ?_
  refine go_aload_n 14 (D d13_13) rfl rfl rfl ?_
  refine callV0 (cells' := 0) (slots' := 0) (Wd := 3) (argsL := []) (rest := [(.int 0), (.int 46), (.ref t1)]) (pay_len G O0 (n := (1 : Int32)) p1 rfl (by decide) (by decide)) E3 (wk G 46 rfl) (wk G 47 rfl) (wk G 49 rfl) (wk G 49 rfl) (wk G 48 rfl) (by decide) pd6 rfl rfl (by rw [hml]; rfl) (nb rfl) rfl rfl (by decide) (by decide) all0 (fun _ _ => sf0) (D d13_14) (k_v 17 rfl ?_)
  rintro _ _ ⟨rfl, rfl⟩ -
  refine callS0 (cells' := 0) (slots' := 0) (Wd := 0) (argsL := [(.ref t1), (.int 46), (.int 0), (.int 1)]) (rest := []) (pay_of (a0 := a0) (c_idxl1 l G t1 k2 ((c0).toInt8.toInt32) h0 O0 A6) (wk G 59 rfl) (wk G 58 rfl) (by decide) (by decide)) (wk G 56 rfl) (wk G 57 rfl) (wk G 58 rfl) (wk G 59 rfl) (by decide) pd9 rfl rfl (by rw [hml]; rfl) (nb rfl) rfl rfl (by decide) (by decide) all0 (fun _ _ => sf0) (D d13_17) (k_v 20 rfl ?_)
  rintro _ h11 (⟨rfl, rfl, f13⟩ | ⟨rfl, rfl, f14⟩) K12
  · refine go_goto 36 (D d13_20) (by decide) rfl ?_
    refine go_ireturn hret hlk rfl (by simp) (D d13_36) (by decide) (by decide) ⟨_, rfl, (Or.inl ⟨rfl, rfl, ((b46 (by obtain ⟨_, _, _, _, _, _, q, _⟩ := id p1; exact q _ (by simp) : C8 c0)).mp f13)⟩)⟩ (Keep.refl h0 [])
  · refine go_goto 36 (D d13_20) (by decide) rfl ?_
    refine go_ireturn hret hlk rfl (by simp) (D d13_36) (by decide) (by decide) ⟨_, rfl, (Or.inr (⟨rfl, rfl, (fun z => f14 ((b46 (by obtain ⟨_, _, _, _, _, _, q, _⟩ := id p1; exact q _ (by simp) : C8 c0)).mpr z))⟩))⟩ (Keep.refl h0 [])
theorem c_idx1 (l : Launch) {Z : State} {a0 : Array Value} (G : GH Z a0) (a : Addr) (c0 : Int32) (h0 : Heap) (O0 : Old Z Z.heap.size h0) (p1 : Str Z h0 a [c0]) : Con false [] l Z (⟨"java/lang/String", "indexOf", "(I)I"⟩ : MethodName) jdk_42_method_79_code 2 (some .int) [] (rm4 3 0 0 46) #[(.ref a), (.int 46)] h0 [] (rvl (Q_idx1 Z a c0 h0)) := by
  refine con_of (a0 := a0) (plainFor_of_name pn1) (fun q => rfl) EW.nil O0 (fun m => ef_idx1 m a) ?_
  intro p_ e_ s_ m_ below_ meth_ c_ D hml hret hlk hnm
  refine go_aload_n 1 (D d12_0) rfl rfl rfl ?_
  refine go_iload_n 2 (D d12_1) rfl rfl ?_
  refine go_iconst 3 (v := 0) (D d12_2) rfl rfl ?_
  refine callV0 (cells' := 0) (slots' := 0) (Wd := 0) (argsL := [(.int 46), (.int 0)]) (rest := []) (pay_of (a0 := a0) (c_idxs1 l G a c0 h0 O0 p1) (wk G 39 rfl) (wk G 7 rfl) (by decide) (by decide)) p1.exa (wk G 35 rfl) (wk G 36 rfl) (wk G 38 rfl) (wk G 38 rfl) (wk G 37 rfl) (by decide) pd8 rfl rfl (by rw [hml]; rfl) (nb rfl) rfl rfl (by decide) (by decide) all0 (fun _ _ => sf0) (D d12_3) (k_v 6 rfl ?_)
  rintro _ h1 (⟨rfl, rfl, f3⟩ | ⟨rfl, rfl, f4⟩) K2
  · refine go_ireturn hret hlk rfl (by simp) (D d12_6) (by decide) (by decide) ⟨_, rfl, (Or.inl ⟨rfl, rfl, f3⟩)⟩ (Keep.refl h0 [])
  · refine go_ireturn hret hlk rfl (by simp) (D d12_6) (by decide) (by decide) ⟨_, rfl, (Or.inr (⟨rfl, rfl, f4⟩))⟩ (Keep.refl h0 [])
theorem ef_subi1_1 (m : MethodId) (a : Addr)  : entryFrame m #[(.ref a), (.int 1)] 2 = mkF m 0 #[.val (.ref a), .val (.int 1)] [] := by first | (simp [entryFrame, mkF, argsToLocals, Value.category]; done) | rfl
def Q_subi1_1 (Z : State) (a : Addr) (c0 : Int32) (h0 : Heap) (xv : Value) (h : Heap) : Prop := ∃ (r : Addr), (.ref r) = xv ∧ Str Z h r []
theorem ef_sub1_1_1 (m : MethodId) (a : Addr)  : entryFrame m #[(.ref a), (.int 1), (.int 1)] 5 = mkF m 0 #[.val (.ref a), .val (.int 1), .val (.int 1), .unset, .unset] [] := by first | (simp [entryFrame, mkF, argsToLocals, Value.category]; done) | rfl
def Q_sub1_1_1 (Z : State) (a : Addr) (c0 : Int32) (h0 : Heap) (xv : Value) (h : Heap) : Prop := ∃ (r : Addr), (.ref r) = xv ∧ Str Z h r []
theorem ef_news1_0_1 (m : MethodId) (t : Addr)  : entryFrame m #[(.ref t), (.int 1), (.int 0)] 3 = mkF m 0 #[.val (.ref t), .val (.int 1), .val (.int 0)] [] := by first | (simp [entryFrame, mkF, argsToLocals, Value.category]; done) | rfl
def Q_news1_0_1 (Z : State) (t : Addr) (k : ClassId) (c0 : Int32) (h0 : Heap) (xv : Value) (h : Heap) : Prop := ∃ (r : Addr), (.ref r) = xv ∧ Str Z h r []
theorem c_news1_0_1 (l : Launch) {Z : State} {a0 : Array Value} (G : GH Z a0) (t : Addr) (k : ClassId) (c0 : Int32) (h0 : Heap) (O0 : Old Z Z.heap.size h0) (p1 : Arv Z h0 t k (.byte) (1 : Int32) [(.int (c0).toInt8.toInt32)] (.int 0)) (p2 : C8 c0) : Con true EL1 l Z (⟨"java/lang/StringLatin1", "newString", "([BII)Ljava/lang/String;"⟩ : MethodName) jdk_43_method_47_code 3 (some (.object "java/lang/String")) [] (rm4 0 2 4 0) #[(.ref t), (.int 1), (.int 0)] h0 [] (rvl (Q_news1_0_1 Z t k c0 h0)) := by
  refine con_of (a0 := a0) (plainFor_of_name pn2) (fun q => nomatch q) (ew1 G) O0 (fun m => ef_news1_0_1 m t) ?_
  intro p_ e_ s_ m_ below_ meth_ c_ D hml hret hlk hnm
  refine go_iload_n 1 (D d20_0) rfl rfl ?_
  refine go_ifF 4 (D d20_1) rfl (by decide) ?_
  refine go_ldcH 6 (cells' := 2) (slots' := 4) (n := 0) (vs := (([] : List Int32).map fun c => c.toInt8.toInt32).map Value.int) (z := (0 : Int32)) rfl (by decide) (wk G 132 rfl) (wS G) (by decide +kernel) (by decide) (by decide) (by decide) (by decide) (D d20_4) rfl rfl rfl (by decide) (by decide) (fun h1 a2 t4 k5 X3 E6 F7 F8 A9 => ?_)
  have S10 : Str Z h1 a2 [] := ⟨t4, k5, E6, F8, F7, A9, by decide, by decide⟩
  have K11 : Keep h0 h1 [] := ((Keep.refl h0 []).ext X3)
  refine go_areturn hret hlk rfl rfl (D d20_6) (by decide) (by decide) ⟨_, rfl, ⟨a2, rfl, S10⟩⟩ K11
theorem c_sub1_1_1 (l : Launch) {Z : State} {a0 : Array Value} (G : GH Z a0) (a : Addr) (c0 : Int32) (h0 : Heap) (O0 : Old Z Z.heap.size h0) (p1 : Str Z h0 a [c0]) : Con true EL1 l Z (⟨"java/lang/String", "substring", "(II)Ljava/lang/String;"⟩ : MethodName) jdk_42_method_92_code 5 (some (.object "java/lang/String")) [] (rm4 2 2 4 29) #[(.ref a), (.int 1), (.int 1)] h0 [] (rvl (Q_sub1_1_1 Z a c0 h0)) := by
  refine con_of (a0 := a0) (plainFor_of_name pn1) (fun q => nomatch q) (ew1 G) O0 (fun m => ef_sub1_1_1 m a) ?_
  intro p_ e_ s_ m_ below_ meth_ c_ D hml hret hlk hnm
  have q1 : C8 c0 := by obtain ⟨_, _, _, _, _, _, q, _⟩ := id p1; exact q _ (by simp)
  refine go_aload_n 1 (D d18_0) rfl rfl rfl ?_
  refine callV0 (cells' := 0) (slots' := 0) (Wd := 0) (argsL := []) (rest := []) (pay_len G O0 (n := (1 : Int32)) p1 rfl (by decide) (by decide)) p1.exa (wk G 46 rfl) (wk G 47 rfl) (wk G 49 rfl) (wk G 49 rfl) (wk G 48 rfl) (by decide) pd6 rfl rfl (by rw [hml]; rfl) (nb rfl) rfl rfl (by decide) (by decide) all0 (fun _ _ => sf0) (D d18_1) (k_v 4 rfl ?_)
  rintro _ _ ⟨rfl, rfl⟩ -
  refine go_istore_n 5 (ls' := #[vr a, vi 1, vi 1, vi 1, un]) (D d18_4) rfl rfl ?_
  refine go_iload_n 6 (D d18_5) rfl rfl ?_
  refine go_iload_n 7 (D d18_6) rfl rfl ?_
  refine go_iload_n 8 (D d18_7) rfl rfl ?_
  refine callS0 (cells' := 0) (slots' := 0) (Wd := 0) (argsL := [(.int 1), (.int 1), (.int 1)]) (rest := []) (pay_of (a0 := a0) (c_cbbe l G (1 : Int32) (1 : Int32) (1 : Int32) h0 O0 (by decide) (by decide) (by decide)) (wk G 82 rfl) (wk G 7 rfl) (by decide) (by decide)) (wk G 80 rfl) (wk G 81 rfl) (wk G 7 rfl) (wk G 82 rfl) (by decide) pd11 rfl rfl (by rw [hml]; rfl) (nb rfl) rfl rfl (by decide) (by decide) all0 (fun _ _ => sf0) (D d18_8) (k_n 11 rfl ?_)
  rintro  h2 rfl K3
  refine go_iload_n 12 (D d18_11) rfl rfl ?_
  refine go_ifT 22 (D d18_12) (by decide) rfl (by decide) ?_
  refine go_iload_n 23 (D d18_22) rfl rfl ?_
  refine go_iload_n 24 (D d18_23) rfl rfl ?_
  refine go_isub 25 (z := (0 : Int32)) (D d18_24) rfl (by decide) ?_
  refine go_istore 27 (ls' := #[vr a, vi 1, vi 1, vi 1, vi 0]) (D d18_25) rfl rfl ?_
  refine go_aload_n 28 (D d18_27) rfl rfl rfl ?_
  obtain ⟨t4, k5, E6, F7, F8, A9, B10, L11⟩ := id p1
  refine callV0 (cells' := 0) (slots' := 0) (Wd := 0) (argsL := []) (rest := []) (pay_of (a0 := a0) (c_islatin l G a h0 O0 F8) (wk G 44 rfl) (wk G 7 rfl) (by decide) (by decide)) E6 (wk G 40 rfl) (wk G 41 rfl) (wk G 43 rfl) (wk G 43 rfl) (wk G 42 rfl) (by decide) pd5 rfl rfl (by rw [hml]; rfl) (nb rfl) rfl rfl (by decide) (by decide) all0 (fun _ _ => sf0) (D d18_28) (k_v 31 rfl ?_)
  rintro _ h12 ⟨rfl, rfl⟩ K13
  refine go_ifF 34 (D d18_31) rfl (by decide) ?_
  refine go_aload_n 35 (D d18_34) rfl rfl rfl ?_
  refine go_getF 38 (wk G 24 rfl) Via.refl F7 (D d18_35) rfl ?_
  refine go_iload_n 39 (D d18_38) rfl rfl ?_
  refine go_iload 41 (D d18_39) rfl rfl ?_
  refine callSW0 rfl (cells' := 2) (slots' := 4) (Wd := 0) (argsL := [(.ref t4), (.int 1), (.int 0)]) (rest := []) (payW_of (a0 := a0) (c_news1_0_1 l G t4 k5 c0 h0 O0 A9 q1) (wk G 112 rfl) (wk G 58 rfl) (by decide) (by decide) (ew1 G)) (wk G 110 rfl) (wk G 111 rfl) (wk G 58 rfl) (wk G 112 rfl) (by decide) pd16 rfl rfl (by rw [hml]; rfl) (nb rfl) rfl rfl (by decide) (by decide) all0 (D d18_41) (k_v 44 rfl ?_)
  rintro _ h14 ⟨r16, rfl, f17⟩ K15
  refine go_goto 57 (D d18_44) (by decide) rfl ?_
  have K18 : Keep h0 h14 [] := ((Keep.refl h0 []).trans K15 all0)
  refine go_areturn hret hlk rfl rfl (D d18_57) (by decide) (by decide) ⟨_, rfl, ⟨r16, rfl, f17⟩⟩ K18
theorem c_subi1_1 (l : Launch) {Z : State} {a0 : Array Value} (G : GH Z a0) (a : Addr) (c0 : Int32) (h0 : Heap) (O0 : Old Z Z.heap.size h0) (p1 : Str Z h0 a [c0]) : Con true EL1 l Z (⟨"java/lang/String", "substring", "(I)Ljava/lang/String;"⟩ : MethodName) jdk_42_method_91_code 2 (some (.object "java/lang/String")) [] (rm4 3 2 4 45) #[(.ref a), (.int 1)] h0 [] (rvl (Q_subi1_1 Z a c0 h0)) := by
  refine con_of (a0 := a0) (plainFor_of_name pn1) (fun q => nomatch q) (ew1 G) O0 (fun m => ef_subi1_1 m a) ?_
  intro p_ e_ s_ m_ below_ meth_ c_ D hml hret hlk hnm
  have q1 : C8 c0 := by obtain ⟨_, _, _, _, _, _, q, _⟩ := id p1; exact q _ (by simp)
  refine go_aload_n 1 (D d17_0) rfl rfl rfl ?_
  refine go_iload_n 2 (D d17_1) rfl rfl ?_
  refine go_aload_n 3 (D d17_2) rfl rfl rfl ?_
  refine callV0 (cells' := 0) (slots' := 0) (Wd := 2) (argsL := []) (rest := [(.int 1), (.ref a)]) (pay_len G O0 (n := (1 : Int32)) p1 rfl (by decide) (by decide)) p1.exa (wk G 46 rfl) (wk G 47 rfl) (wk G 49 rfl) (wk G 49 rfl) (wk G 48 rfl) (by decide) pd6 rfl rfl (by rw [hml]; rfl) (nb rfl) rfl rfl (by decide) (by decide) all0 (fun _ _ => sf0) (D d17_3) (k_v 6 rfl ?_)
  rintro _ _ ⟨rfl, rfl⟩ -
  refine callVW0 rfl (cells' := 2) (slots' := 4) (Wd := 0) (argsL := [(.int 1), (.int 1)]) (rest := []) (payW_of (a0 := a0) (c_sub1_1_1 l G a c0 h0 O0 p1) (wk G 79 rfl) (wk G 7 rfl) (by decide) (by decide) (ew1 G)) p1.exa (wk G 75 rfl) (wk G 76 rfl) (wk G 78 rfl) (wk G 78 rfl) (wk G 77 rfl) (by decide) pd12 rfl rfl (by rw [hml]; rfl) (nb rfl) rfl rfl (by decide) (by decide) all0 (D d17_6) (k_v 9 rfl ?_)
  rintro _ h2 ⟨r4, rfl, f5⟩ K3
  have K6 : Keep h0 h2 [] := ((Keep.refl h0 []).trans K3 all0)
  refine go_areturn hret hlk rfl rfl (D d17_9) (by decide) (by decide) ⟨_, rfl, ⟨r4, rfl, f5⟩⟩ K6
theorem ef_subi0_1 (m : MethodId) (a : Addr)  : entryFrame m #[(.ref a), (.int 0)] 2 = mkF m 0 #[.val (.ref a), .val (.int 0)] [] := by first | (simp [entryFrame, mkF, argsToLocals, Value.category]; done) | rfl
def Q_subi0_1 (Z : State) (a : Addr) (c0 : Int32) (h0 : Heap) (xv : Value) (h : Heap) : Prop := (.ref a) = xv ∧ h0 = h
theorem ef_sub0_1_1 (m : MethodId) (a : Addr)  : entryFrame m #[(.ref a), (.int 0), (.int 1)] 5 = mkF m 0 #[.val (.ref a), .val (.int 0), .val (.int 1), .unset, .unset] [] := by first | (simp [entryFrame, mkF, argsToLocals, Value.category]; done) | rfl
def Q_sub0_1_1 (Z : State) (a : Addr) (c0 : Int32) (h0 : Heap) (xv : Value) (h : Heap) : Prop := (.ref a) = xv ∧ h0 = h
theorem c_sub0_1_1 (l : Launch) {Z : State} {a0 : Array Value} (G : GH Z a0) (a : Addr) (c0 : Int32) (h0 : Heap) (O0 : Old Z Z.heap.size h0) (p1 : Str Z h0 a [c0]) : Con false [] l Z (⟨"java/lang/String", "substring", "(II)Ljava/lang/String;"⟩ : MethodName) jdk_42_method_92_code 5 (some (.object "java/lang/String")) [] (rm4 2 0 0 29) #[(.ref a), (.int 0), (.int 1)] h0 [] (rvl (Q_sub0_1_1 Z a c0 h0)) := by
  refine con_of (a0 := a0) (plainFor_of_name pn1) (fun q => rfl) EW.nil O0 (fun m => ef_sub0_1_1 m a) ?_
  intro p_ e_ s_ m_ below_ meth_ c_ D hml hret hlk hnm
  have q1 : C8 c0 := by obtain ⟨_, _, _, _, _, _, q, _⟩ := id p1; exact q _ (by simp)
  refine go_aload_n 1 (D d18_0) rfl rfl rfl ?_
  refine callV0 (cells' := 0) (slots' := 0) (Wd := 0) (argsL := []) (rest := []) (pay_len G O0 (n := (1 : Int32)) p1 rfl (by decide) (by decide)) p1.exa (wk G 46 rfl) (wk G 47 rfl) (wk G 49 rfl) (wk G 49 rfl) (wk G 48 rfl) (by decide) pd6 rfl rfl (by rw [hml]; rfl) (nb rfl) rfl rfl (by decide) (by decide) all0 (fun _ _ => sf0) (D d18_1) (k_v 4 rfl ?_)
  rintro _ _ ⟨rfl, rfl⟩ -
  refine go_istore_n 5 (ls' := #[vr a, vi 0, vi 1, vi 1, un]) (D d18_4) rfl rfl ?_
  refine go_iload_n 6 (D d18_5) rfl rfl ?_
  refine go_iload_n 7 (D d18_6) rfl rfl ?_
  refine go_iload_n 8 (D d18_7) rfl rfl ?_
  refine callS0 (cells' := 0) (slots' := 0) (Wd := 0) (argsL := [(.int 0), (.int 1), (.int 1)]) (rest := []) (pay_of (a0 := a0) (c_cbbe l G (0 : Int32) (1 : Int32) (1 : Int32) h0 O0 (by decide) (by decide) (by decide)) (wk G 82 rfl) (wk G 7 rfl) (by decide) (by decide)) (wk G 80 rfl) (wk G 81 rfl) (wk G 7 rfl) (wk G 82 rfl) (by decide) pd11 rfl rfl (by rw [hml]; rfl) (nb rfl) rfl rfl (by decide) (by decide) all0 (fun _ _ => sf0) (D d18_8) (k_n 11 rfl ?_)
  rintro  h2 rfl K3
  refine go_iload_n 12 (D d18_11) rfl rfl ?_
  refine go_ifF 15 (D d18_12) rfl (by decide) ?_
  refine go_iload_n 16 (D d18_15) rfl rfl ?_
  refine go_iload_n 17 (D d18_16) rfl rfl ?_
  refine go_icF 20 (D d18_17) rfl (by decide) ?_
  refine go_aload_n 21 (D d18_20) rfl rfl rfl ?_
  refine go_areturn hret hlk rfl rfl (D d18_21) (by decide) (by decide) ⟨_, rfl, ⟨rfl, rfl⟩⟩ (Keep.refl h0 [])
theorem c_subi0_1 (l : Launch) {Z : State} {a0 : Array Value} (G : GH Z a0) (a : Addr) (c0 : Int32) (h0 : Heap) (O0 : Old Z Z.heap.size h0) (p1 : Str Z h0 a [c0]) : Con false [] l Z (⟨"java/lang/String", "substring", "(I)Ljava/lang/String;"⟩ : MethodName) jdk_42_method_91_code 2 (some (.object "java/lang/String")) [] (rm4 3 0 0 45) #[(.ref a), (.int 0)] h0 [] (rvl (Q_subi0_1 Z a c0 h0)) := by
  refine con_of (a0 := a0) (plainFor_of_name pn1) (fun q => rfl) EW.nil O0 (fun m => ef_subi0_1 m a) ?_
  intro p_ e_ s_ m_ below_ meth_ c_ D hml hret hlk hnm
  have q1 : C8 c0 := by obtain ⟨_, _, _, _, _, _, q, _⟩ := id p1; exact q _ (by simp)
  refine go_aload_n 1 (D d17_0) rfl rfl rfl ?_
  refine go_iload_n 2 (D d17_1) rfl rfl ?_
  refine go_aload_n 3 (D d17_2) rfl rfl rfl ?_
  refine callV0 (cells' := 0) (slots' := 0) (Wd := 2) (argsL := []) (rest := [(.int 0), (.ref a)]) (pay_len G O0 (n := (1 : Int32)) p1 rfl (by decide) (by decide)) p1.exa (wk G 46 rfl) (wk G 47 rfl) (wk G 49 rfl) (wk G 49 rfl) (wk G 48 rfl) (by decide) pd6 rfl rfl (by rw [hml]; rfl) (nb rfl) rfl rfl (by decide) (by decide) all0 (fun _ _ => sf0) (D d17_3) (k_v 6 rfl ?_)
  rintro _ _ ⟨rfl, rfl⟩ -
  refine callV0 (cells' := 0) (slots' := 0) (Wd := 0) (argsL := [(.int 0), (.int 1)]) (rest := []) (pay_of (a0 := a0) (c_sub0_1_1 l G a c0 h0 O0 p1) (wk G 79 rfl) (wk G 7 rfl) (by decide) (by decide)) p1.exa (wk G 75 rfl) (wk G 76 rfl) (wk G 78 rfl) (wk G 78 rfl) (wk G 77 rfl) (by decide) pd12 rfl rfl (by rw [hml]; rfl) (nb rfl) rfl rfl (by decide) (by decide) all0 (fun _ _ => sf0) (D d17_6) (k_v 9 rfl ?_)
  rintro _ h2 ⟨rfl, rfl⟩ K3
  refine go_areturn hret hlk rfl rfl (D d17_9) (by decide) (by decide) ⟨_, rfl, ⟨rfl, rfl⟩⟩ (Keep.refl h0 [])
theorem c_unq1 (l : Launch) {Z : State} {a0 : Array Value} (G : GH Z a0) (a : Addr) (c0 : Int32) (h0 : Heap) (O0 : Old Z Z.heap.size h0) (p1 : Str Z h0 a [c0]) : Con true EL1 l Z (⟨"com/example/commit_feed/commitfeed/config/SqlNames", "unqualified", "(Ljava/lang/String;)Ljava/lang/String;"⟩ : MethodName) prog_9_method_4_code 1 (some (.object "java/lang/String")) [] (rm4 4 2 4 60) #[(.ref a)] h0 [] (rvl (Q_unq1 Z a c0 h0)) := by
  refine con_of (a0 := a0) (plainFor_of_name pn6) (fun q => nomatch q) (ew1 G) O0 (fun m => ef_unq1 m a) ?_
  intro p_ e_ s_ m_ below_ meth_ c_ D hml hret hlk hnm
  refine go_aload_n 1 (D d11_0) rfl rfl rfl ?_
  refine go_aload_n 2 (D d11_1) rfl rfl rfl ?_
  refine go_bipush 4 (v := 46) (D d11_2) rfl rfl ?_
  refine callV0 (cells' := 0) (slots' := 0) (Wd := 1) (argsL := [(.int 46)]) (rest := [(.ref a)]) (pay_of (a0 := a0) (c_idx1 l G a c0 h0 O0 p1) (wk G 34 rfl) (wk G 7 rfl) (by decide) (by decide)) p1.exa (wk G 30 rfl) (wk G 31 rfl) (wk G 33 rfl) (wk G 33 rfl) (wk G 32 rfl) (by decide) pd10 rfl rfl (by rw [hml]; rfl) (nb rfl) rfl rfl (by decide) (by decide) all0 (fun _ _ => sf0) (D d11_4) (k_v 7 rfl ?_)
  rintro _ h1 (⟨rfl, rfl, f3⟩ | ⟨rfl, rfl, f4⟩) K2
  · refine go_iconst 8 (v := 1) (D d11_7) rfl rfl ?_
    refine go_iadd 9 (z := (1 : Int32)) (D d11_8) rfl (by decide) ?_
    refine callVW0 rfl (cells' := 2) (slots' := 4) (Wd := 0) (argsL := [(.int 1)]) (rest := []) (payW_of (a0 := a0) (c_subi1_1 l G a c0 h0 O0 p1) (wk G 74 rfl) (wk G 7 rfl) (by decide) (by decide) (ew1 G)) p1.exa (wk G 70 rfl) (wk G 71 rfl) (wk G 73 rfl) (wk G 73 rfl) (wk G 72 rfl) (by decide) pd13 rfl rfl (by rw [hml]; rfl) (nb rfl) rfl rfl (by decide) (by decide) all0 (D d11_9) (k_v 12 rfl ?_)
    rintro _ h5 ⟨r7, rfl, f8⟩ K6
    have K9 : Keep h0 h5 [] := ((Keep.refl h0 []).trans K6 all0)
    refine go_areturn hret hlk rfl rfl (D d11_12) (by decide) (by decide) ⟨_, rfl, (Or.inl ⟨r7, rfl, f3, f8⟩)⟩ K9
  · refine go_iconst 8 (v := 1) (D d11_7) rfl rfl ?_
    refine go_iadd 9 (z := (0 : Int32)) (D d11_8) rfl (by decide) ?_
    refine callV0 (cells' := 0) (slots' := 0) (Wd := 0) (argsL := [(.int 0)]) (rest := []) (pay_of (a0 := a0) (c_subi0_1 l G a c0 h0 O0 p1) (wk G 74 rfl) (wk G 7 rfl) (by decide) (by decide)) p1.exa (wk G 70 rfl) (wk G 71 rfl) (wk G 73 rfl) (wk G 73 rfl) (wk G 72 rfl) (by decide) pd13 rfl rfl (by rw [hml]; rfl) (nb rfl) rfl rfl (by decide) (by decide) all0 (fun _ _ => sf0) (D d11_9) (k_v 12 rfl ?_)
    rintro _ h10 ⟨rfl, rfl⟩ K11
    refine go_areturn hret hlk rfl rfl (D d11_12) (by decide) (by decide) ⟨_, rfl, (Or.inr (⟨rfl, f4⟩))⟩ (Keep.refl h0 [])
theorem ef_unq2 (m : MethodId) (a : Addr)  : entryFrame m #[(.ref a)] 1 = mkF m 0 #[.val (.ref a)] [] := by first | (simp [entryFrame, mkF, argsToLocals, Value.category]; done) | rfl
def Q_unq2 (Z : State) (a : Addr) (c0 : Int32) (c1 : Int32) (h0 : Heap) (xv : Value) (h : Heap) : Prop := (∃ (r : Addr), (.ref r) = xv ∧ c0 = (46 : Int32) ∧ Str Z h r [c1]) ∨ (∃ (r : Addr), (.ref r) = xv ∧ ¬ c0 = (46 : Int32) ∧ c1 = (46 : Int32) ∧ Str Z h r []) ∨ ((.ref a) = xv ∧ ¬ c0 = (46 : Int32) ∧ ¬ c1 = (46 : Int32))
theorem ef_idx2 (m : MethodId) (a : Addr)  : entryFrame m #[(.ref a), (.int 46)] 2 = mkF m 0 #[.val (.ref a), .val (.int 46)] [] := by first | (simp [entryFrame, mkF, argsToLocals, Value.category]; done) | rfl
def Q_idx2 (Z : State) (a : Addr) (c0 : Int32) (c1 : Int32) (h0 : Heap) (xv : Value) (h : Heap) : Prop := ((.int 0) = xv ∧ h0 = h ∧ c0 = (46 : Int32)) ∨ ((.int 1) = xv ∧ h0 = h ∧ ¬ c0 = (46 : Int32) ∧ c1 = (46 : Int32)) ∨ ((.int (-1)) = xv ∧ h0 = h ∧ ¬ c0 = (46 : Int32) ∧ ¬ c1 = (46 : Int32))
theorem ef_idxs2 (m : MethodId) (a : Addr)  : entryFrame m #[(.ref a), (.int 46), (.int 0)] 3 = mkF m 0 #[.val (.ref a), .val (.int 46), .val (.int 0)] [] := by first | (simp [entryFrame, mkF, argsToLocals, Value.category]; done) | rfl
def Q_idxs2 (Z : State) (a : Addr) (c0 : Int32) (c1 : Int32) (h0 : Heap) (xv : Value) (h : Heap) : Prop := ((.int 0) = xv ∧ h0 = h ∧ c0 = (46 : Int32)) ∨ ((.int 1) = xv ∧ h0 = h ∧ ¬ c0 = (46 : Int32) ∧ c1 = (46 : Int32)) ∨ ((.int (-1)) = xv ∧ h0 = h ∧ ¬ c0 = (46 : Int32) ∧ ¬ c1 = (46 : Int32))
theorem ef_idxl2 (m : MethodId) (t : Addr)  : entryFrame m #[(.ref t), (.int 46), (.int 0), (.int 2)] 4 = mkF m 0 #[.val (.ref t), .val (.int 46), .val (.int 0), .val (.int 2)] [] := by first | (simp [entryFrame, mkF, argsToLocals, Value.category]; done) | rfl
def Q_idxl2 (Z : State) (t : Addr) (k : ClassId) (b0 : Int32) (b1 : Int32) (h0 : Heap) (xv : Value) (h : Heap) : Prop := ((.int 0) = xv ∧ h0 = h ∧ b0 = (46 : Int32)) ∨ ((.int 1) = xv ∧ h0 = h ∧ ¬ b0 = (46 : Int32) ∧ b1 = (46 : Int32)) ∨ ((.int (-1)) = xv ∧ h0 = h ∧ ¬ b0 = (46 : Int32) ∧ ¬ b1 = (46 : Int32))
theorem ef_min2_2 (m : MethodId)   : entryFrame m #[(.int 2), (.int 2)] 2 = mkF m 0 #[.val (.int 2), .val (.int 2)] [] := by first | (simp [entryFrame, mkF, argsToLocals, Value.category]; done) | rfl
def Q_min2_2 (Z : State)   (h0 : Heap) (xv : Value) (h : Heap) : Prop := (.int 2) = xv ∧ h0 = h
theorem c_min2_2 (l : Launch) {Z : State} {a0 : Array Value} (G : GH Z a0)   (h0 : Heap) (O0 : Old Z Z.heap.size h0)  : Con false [] l Z (⟨"java/lang/Math", "min", "(II)I"⟩ : MethodName) jdk_29_method_69_code 2 (some .int) [] (rm4 0 0 0 0) #[(.int 2), (.int 2)] h0 [] (rvl (Q_min2_2 Z h0)) := by
  refine con_of (a0 := a0) (Jvm.Free.JP.mathPlain rfl (by decide)) (fun q => rfl) EW.nil O0 (fun m => ef_min2_2 m ) ?_
  intro p_ e_ s_ m_ below_ meth_ c_ D hml hret hlk hnm
  refine go_iload_n 1 (D d16_0) rfl rfl ?_
  refine go_iload_n 2 (D d16_1) rfl rfl ?_
  refine go_icF 5 (D d16_2) rfl (by decide) ?_
  refine go_iload_n 6 (D d16_5) rfl rfl ?_
  refine go_goto 10 (D d16_6) (by decide) rfl ?_
  refine go_ireturn hret hlk rfl (by simp) (D d16_10) (by decide) (by decide) ⟨_, rfl, ⟨rfl, rfl⟩⟩ (Keep.refl h0 [])
theorem ef_idxc2 (m : MethodId) (t : Addr)  : entryFrame m #[(.ref t), (.int 46), (.int 0), (.int 2)] 6 = mkF m 0 #[.val (.ref t), .val (.int 46), .val (.int 0), .val (.int 2), .unset, .unset] [] := by first | (simp [entryFrame, mkF, argsToLocals, Value.category]; done) | rfl
def Q_idxc2 (Z : State) (t : Addr) (k : ClassId) (b0 : Int32) (b1 : Int32) (h0 : Heap) (xv : Value) (h : Heap) : Prop := ((.int 0) = xv ∧ h0 = h ∧ b0 = (46 : Int32)) ∨ ((.int 1) = xv ∧ h0 = h ∧ ¬ b0 = (46 : Int32) ∧ b1 = (46 : Int32)) ∨ ((.int (-1)) = xv ∧ h0 = h ∧ ¬ b0 = (46 : Int32) ∧ ¬ b1 = (46 : Int32))
theorem c_idxc2 (l : Launch) {Z : State} {a0 : Array Value} (G : GH Z a0) (t : Addr) (k : ClassId) (b0 : Int32) (b1 : Int32) (h0 : Heap) (O0 : Old Z Z.heap.size h0) (p1 : Arv Z h0 t k (.byte) (2 : Int32) [(.int b0), (.int b1)] (.int 0)) : Con false [] l Z (⟨"java/lang/StringLatin1", "indexOfChar", "([BIII)I"⟩ : MethodName) jdk_43_method_23_code 6 (some .int) [] (rm4 0 0 0 0) #[(.ref t), (.int 46), (.int 0), (.int 2)] h0 [] (rvl (Q_idxc2 Z t k b0 b1 h0)) := by
  refine con_of (a0 := a0) (plainFor_of_name pn2) (fun q => rfl) EW.nil O0 (fun m => ef_idxc2 m t) ?_
  intro p_ e_ s_ m_ below_ meth_ c_ D hml hret hlk hnm
  refine go_iload_n 1 (D d19_0) rfl rfl ?_
  refine go_i2b 2 (z := (46 : Int32)) (D d19_1) rfl (by decide) ?_
  refine go_istore 4 (ls' := #[vr t, vi 46, vi 0, vi 2, vi 46, un]) (D d19_2) rfl rfl ?_
  refine go_iload_n 5 (D d19_4) rfl rfl ?_
  refine go_istore 7 (ls' := #[vr t, vi 46, vi 0, vi 2, vi 46, vi 0]) (D d19_5) rfl rfl ?_
  refine go_iload 9 (D d19_7) rfl rfl ?_
  refine go_iload_n 10 (D d19_9) rfl rfl ?_
  refine go_icF 13 (D d19_10) rfl (by decide) ?_
  refine go_aload_n 14 (D d19_13) rfl rfl rfl ?_
  refine go_iload 16 (D d19_14) rfl rfl ?_
  refine go_baload 17 (i := 0) (v := (.int b0)) p1 (by decide) (by decide) rfl rfl (D d19_16) rfl ?_
  refine go_iload 19 (D d19_17) rfl rfl ?_
  by_cases cz1 : b0 = (46 : Int32)
  · refine go_icF 22 (D d19_19) rfl (XT.ii_ne_f cz1) ?_
    refine go_iload 24 (D d19_22) rfl rfl ?_
    refine go_ireturn hret hlk rfl (by simp) (D d19_24) (by decide) (by decide) ⟨_, rfl, (Or.inl ⟨rfl, rfl, cz1⟩)⟩ (Keep.refl h0 [])
  · refine go_icT 25 (D d19_19) (by decide) rfl (XT.ii_ne_t cz1) ?_
    refine go_iinc 28 (ls' := #[vr t, vi 46, vi 0, vi 2, vi 46, vi 1]) (y := (1 : Int32)) (D d19_25) rfl rfl rfl rfl ?_
    refine go_goto 7 (D d19_28) (by decide) rfl ?_
    refine go_iload 9 (D d19_7) rfl rfl ?_
    refine go_iload_n 10 (D d19_9) rfl rfl ?_
    refine go_icF 13 (D d19_10) rfl (by decide) ?_
    refine go_aload_n 14 (D d19_13) rfl rfl rfl ?_
    refine go_iload 16 (D d19_14) rfl rfl ?_
    refine go_baload 17 (i := 1) (v := (.int b1)) p1 (by decide) (by decide) rfl rfl (D d19_16) rfl ?_
    refine go_iload 19 (D d19_17) rfl rfl ?_
    by_cases cz2 : b1 = (46 : Int32)
    · refine go_icF 22 (D d19_19) rfl (XT.ii_ne_f cz2) ?_
      refine go_iload 24 (D d19_22) rfl rfl ?_
      refine go_ireturn hret hlk rfl (by simp) (D d19_24) (by decide) (by decide) ⟨_, rfl, (Or.inr (Or.inl ⟨rfl, rfl, cz1, cz2⟩))⟩ (Keep.refl h0 [])
    · refine go_icT 25 (D d19_19) (by decide) rfl (XT.ii_ne_t cz2) ?_
      refine go_iinc 28 (ls' := #[vr t, vi 46, vi 0, vi 2, vi 46, vi 2]) (y := (2 : Int32)) (D d19_25) rfl rfl rfl rfl ?_
      refine go_goto 7 (D d19_28) (by decide) rfl ?_
      refine go_iload 9 (D d19_7) rfl rfl ?_
      refine go_iload_n 10 (D d19_9) rfl rfl ?_
      refine go_icT 31 (D d19_10) (by decide) rfl (by decide) ?_
      refine go_iconst 32 (v := (-1)) (D d19_31) rfl rfl ?_
      refine go_ireturn hret hlk rfl (by simp) (D d19_32) (by decide) (by decide) ⟨_, rfl, (Or.inr (Or.inr (⟨rfl, rfl, cz1, cz2⟩)))⟩ (Keep.refl h0 [])
theorem c_idxl2 (l : Launch) {Z : State} {a0 : Array Value} (G : GH Z a0) (t : Addr) (k : ClassId) (b0 : Int32) (b1 : Int32) (h0 : Heap) (O0 : Old Z Z.heap.size h0) (p1 : Arv Z h0 t k (.byte) (2 : Int32) [(.int b0), (.int b1)] (.int 0)) : Con false [] l Z (⟨"java/lang/StringLatin1", "indexOf", "([BIII)I"⟩ : MethodName) jdk_43_method_22_code 4 (some .int) [] (rm4 1 0 0 17) #[(.ref t), (.int 46), (.int 0), (.int 2)] h0 [] (rvl (Q_idxl2 Z t k b0 b1 h0)) := by
  refine con_of (a0 := a0) (plainFor_of_name pn2) (fun q => rfl) EW.nil O0 (fun m => ef_idxl2 m t) ?_
  intro p_ e_ s_ m_ below_ meth_ c_ D hml hret hlk hnm
  refine go_iload_n 1 (D d14_0) rfl rfl ?_
  refine callS0 (cells' := 0) (slots' := 0) (Wd := 0) (argsL := [(.int 46)]) (rest := []) (pay_of (a0 := a0) (c_canenc46 l G  h0 O0 ) (wk G 62 rfl) (wk G 58 rfl) (by decide) (by decide)) (wk G 60 rfl) (wk G 61 rfl) (wk G 58 rfl) (wk G 62 rfl) (by decide) pd7 rfl rfl (by rw [hml]; rfl) (nb rfl) rfl rfl (by decide) (by decide) all0 (fun _ _ => sf0) (D d14_1) (k_v 4 rfl ?_)
  rintro _ h1 ⟨rfl, rfl⟩ K2
  refine go_ifT 9 (D d14_4) (by decide) rfl (by decide) ?_
  refine go_iload_n 10 (D d14_9) rfl rfl ?_
  refine go_iconst 11 (v := 0) (D d14_10) rfl rfl ?_
  refine callS0 (cells' := 0) (slots' := 0) (Wd := 0) (argsL := [(.int 0), (.int 0)]) (rest := []) (pay_of (a0 := a0) (c_max0_0 l G  h0 O0 ) (wk G 66 rfl) (wk G 65 rfl) (by decide) (by decide)) (wk G 63 rfl) (wk G 64 rfl) (wk G 65 rfl) (wk G 66 rfl) (by decide) pd8 rfl rfl (by rw [hml]; rfl) (nb rfl) rfl rfl (by decide) (by decide) all0 (fun _ _ => sf0) (D d14_11) (k_v 14 rfl ?_)
  rintro _ h3 ⟨rfl, rfl⟩ K4
  refine go_istore_n 15 (ls' := #[vr t, vi 46, vi 0, vi 2]) (D d14_14) rfl rfl ?_
  refine go_iload_n 16 (D d14_15) rfl rfl ?_
  refine go_aload_n 17 (D d14_16) rfl rfl rfl ?_
  refine go_arraylength 18 p1 (D d14_17) rfl ?_
  refine callS0 (cells' := 0) (slots' := 0) (Wd := 0) (argsL := [(.int 2), (.int 2)]) (rest := []) (pay_of (a0 := a0) (c_min2_2 l G  h0 O0 ) (wk G 69 rfl) (wk G 65 rfl) (by decide) (by decide)) (wk G 67 rfl) (wk G 68 rfl) (wk G 65 rfl) (wk G 69 rfl) (by decide) pd8 rfl rfl (by rw [hml]; rfl) (nb rfl) rfl rfl (by decide) (by decide) all0 (fun _ _ => sf0) (D d14_18) (k_v 21 rfl ?_)
  rintro _ h5 ⟨rfl, rfl⟩ K6
  refine go_istore_n 22 (ls' := #[vr t, vi 46, vi 0, vi 2]) (D d14_21) rfl rfl ?_
  refine go_iload_n 23 (D d14_22) rfl rfl ?_
  refine go_iload_n 24 (D d14_23) rfl rfl ?_
  refine go_icT 29 (D d14_24) (by decide) rfl (by decide) ?_
  refine go_aload_n 30 (D d14_29) rfl rfl rfl ?_
  refine go_iload_n 31 (D d14_30) rfl rfl ?_
  refine go_iload_n 32 (D d14_31) rfl rfl ?_
  refine go_iload_n 33 (D d14_32) rfl rfl ?_
  refine callS0 (cells' := 0) (slots' := 0) (Wd := 0) (argsL := [(.ref t), (.int 46), (.int 0), (.int 2)]) (rest := []) (pay_of (a0 := a0) (c_idxc2 l G t k b0 b1 h0 O0 p1) (wk G 109 rfl) (wk G 58 rfl) (by decide) (by decide)) (wk G 107 rfl) (wk G 108 rfl) (wk G 58 rfl) (wk G 109 rfl) (by decide) pd9 rfl rfl (by rw [hml]; rfl) (nb rfl) rfl rfl (by decide) (by decide) all0 (fun _ _ => sf0) (D d14_33) (k_v 36 rfl ?_)
  rintro _ h7 (⟨rfl, rfl, f9⟩ | ⟨rfl, rfl, f10, f11⟩ | ⟨rfl, rfl, f12, f13⟩) K8
  · refine go_ireturn hret hlk rfl (by simp) (D d14_36) (by decide) (by decide) ⟨_, rfl, (Or.inl ⟨rfl, rfl, f9⟩)⟩ (Keep.refl h0 [])
  · refine go_ireturn hret hlk rfl (by simp) (D d14_36) (by decide) (by decide) ⟨_, rfl, (Or.inr (Or.inl ⟨rfl, rfl, f10, f11⟩))⟩ (Keep.refl h0 [])
  · refine go_ireturn hret hlk rfl (by simp) (D d14_36) (by decide) (by decide) ⟨_, rfl, (Or.inr (Or.inr (⟨rfl, rfl, f12, f13⟩)))⟩ (Keep.refl h0 [])
theorem c_idxs2 (l : Launch) {Z : State} {a0 : Array Value} (G : GH Z a0) (a : Addr) (c0 : Int32) (c1 : Int32) (h0 : Heap) (O0 : Old Z Z.heap.size h0) (p1 : Str Z h0 a [c0, c1]) : Con false [] l Z (⟨"java/lang/String", "indexOf", "(II)I"⟩ : MethodName) jdk_42_method_80_code 3 (some .int) [] (rm4 2 0 0 32) #[(.ref a), (.int 46), (.int 0)] h0 [] (rvl (Q_idxs2 Z a c0 c1 h0)) := by
  refine con_of (a0 := a0) (plainFor_of_name pn1) (fun q => rfl) EW.nil O0 (fun m => ef_idxs2 m a) ?_
  intro p_ e_ s_ m_ below_ meth_ c_ D hml hret hlk hnm
  refine go_aload_n 1 (D d13_0) rfl rfl rfl ?_
  obtain ⟨t1, k2, E3, F4, F5, A6, B7, L8⟩ := id p1
  refine callV0 (cells' := 0) (slots' := 0) (Wd := 0) (argsL := []) (rest := []) (pay_of (a0 := a0) (c_islatin l G a h0 O0 F5) (wk G 44 rfl) (wk G 7 rfl) (by decide) (by decide)) E3 (wk G 40 rfl) (wk G 41 rfl) (wk G 43 rfl) (wk G 43 rfl) (wk G 42 rfl) (by decide) pd5 rfl rfl (by rw [hml]; rfl) (nb rfl) rfl rfl (by decide) (by decide) all0 (fun _ _ => sf0) (D d13_1) (k_v 4 rfl ?_)
  rintro _ h9 ⟨rfl, rfl⟩ K10
  refine go_ifF 7 (D d13_4) rfl (by decide) ?_
  refine go_aload_n 8 (D d13_7) rfl rfl rfl ?_
  refine go_getF 11 (wk G 24 rfl) Via.refl F4 (D d13_8) rfl ?_
  refine go_iload_n 12 (D d13_11) rfl rfl ?_
  refine go_iload_n 13 (D d13_12) rfl rfl ?_
  refine go_aload_n 14 (D d13_13) rfl rfl rfl ?_
  refine callV0 (cells' := 0) (slots' := 0) (Wd := 3) (argsL := []) (rest := [(.int 0), (.int 46), (.ref t1)]) (pay_len G O0 (n := (2 : Int32)) p1 rfl (by decide) (by decide)) E3 (wk G 46 rfl) (wk G 47 rfl) (wk G 49 rfl) (wk G 49 rfl) (wk G 48 rfl) (by decide) pd6 rfl rfl (by rw [hml]; rfl) (nb rfl) rfl rfl (by decide) (by decide) all0 (fun _ _ => sf0) (D d13_14) (k_v 17 rfl ?_)
  rintro _ _ ⟨rfl, rfl⟩ -
  refine callS0 (cells' := 0) (slots' := 0) (Wd := 0) (argsL := [(.ref t1), (.int 46), (.int 0), (.int 2)]) (rest := []) (pay_of (a0 := a0) (c_idxl2 l G t1 k2 ((c0).toInt8.toInt32) ((c1).toInt8.toInt32) h0 O0 A6) (wk G 59 rfl) (wk G 58 rfl) (by decide) (by decide)) (wk G 56 rfl) (wk G 57 rfl) (wk G 58 rfl) (wk G 59 rfl) (by decide) pd9 rfl rfl (by rw [hml]; rfl) (nb rfl) rfl rfl (by decide) (by decide) all0 (fun _ _ => sf0) (D d13_17) (k_v 20 rfl ?_)
  rintro _ h11 (⟨rfl, rfl, f13⟩ | ⟨rfl, rfl, f14, f15⟩ | ⟨rfl, rfl, f16, f17⟩) K12
  · refine go_goto 36 (D d13_20) (by decide) rfl ?_
    refine go_ireturn hret hlk rfl (by simp) (D d13_36) (by decide) (by decide) ⟨_, rfl, (Or.inl ⟨rfl, rfl, ((b46 (by obtain ⟨_, _, _, _, _, _, q, _⟩ := id p1; exact q _ (by simp) : C8 c0)).mp f13)⟩)⟩ (Keep.refl h0 [])
  · refine go_goto 36 (D d13_20) (by decide) rfl ?_
    refine go_ireturn hret hlk rfl (by simp) (D d13_36) (by decide) (by decide) ⟨_, rfl, (Or.inr (Or.inl ⟨rfl, rfl, (fun z => f14 ((b46 (by obtain ⟨_, _, _, _, _, _, q, _⟩ := id p1; exact q _ (by simp) : C8 c0)).mpr z)), ((b46 (by obtain ⟨_, _, _, _, _, _, q, _⟩ := id p1; exact q _ (by simp) : C8 c1)).mp f15)⟩))⟩ (Keep.refl h0 [])
  · refine go_goto 36 (D d13_20) (by decide) rfl ?_
    refine go_ireturn hret hlk rfl (by simp) (D d13_36) (by decide) (by decide) ⟨_, rfl, (Or.inr (Or.inr (⟨rfl, rfl, (fun z => f16 ((b46 (by obtain ⟨_, _, _, _, _, _, q, _⟩ := id p1; exact q _ (by simp) : C8 c0)).mpr z)), (fun z => f17 ((b46 (by obtain ⟨_, _, _, _, _, _, q, _⟩ := id p1; exact q _ (by simp) : C8 c1)).mpr z))⟩)))⟩ (Keep.refl h0 [])
theorem c_idx2 (l : Launch) {Z : State} {a0 : Array Value} (G : GH Z a0) (a : Addr) (c0 : Int32) (c1 : Int32) (h0 : Heap) (O0 : Old Z Z.heap.size h0) (p1 : Str Z h0 a [c0, c1]) : Con false [] l Z (⟨"java/lang/String", "indexOf", "(I)I"⟩ : MethodName) jdk_42_method_79_code 2 (some .int) [] (rm4 3 0 0 46) #[(.ref a), (.int 46)] h0 [] (rvl (Q_idx2 Z a c0 c1 h0)) := by
  refine con_of (a0 := a0) (plainFor_of_name pn1) (fun q => rfl) EW.nil O0 (fun m => ef_idx2 m a) ?_
  intro p_ e_ s_ m_ below_ meth_ c_ D hml hret hlk hnm
  refine go_aload_n 1 (D d12_0) rfl rfl rfl ?_
  refine go_iload_n 2 (D d12_1) rfl rfl ?_
  refine go_iconst 3 (v := 0) (D d12_2) rfl rfl ?_
  refine callV0 (cells' := 0) (slots' := 0) (Wd := 0) (argsL := [(.int 46), (.int 0)]) (rest := []) (pay_of (a0 := a0) (c_idxs2 l G a c0 c1 h0 O0 p1) (wk G 39 rfl) (wk G 7 rfl) (by decide) (by decide)) p1.exa (wk G 35 rfl) (wk G 36 rfl) (wk G 38 rfl) (wk G 38 rfl) (wk G 37 rfl) (by decide) pd8 rfl rfl (by rw [hml]; rfl) (nb rfl) rfl rfl (by decide) (by decide) all0 (fun _ _ => sf0) (D d12_3) (k_v 6 rfl ?_)
  rintro _ h1 (⟨rfl, rfl, f3⟩ | ⟨rfl, rfl, f4, f5⟩ | ⟨rfl, rfl, f6, f7⟩) K2
  · refine go_ireturn hret hlk rfl (by simp) (D d12_6) (by decide) (by decide) ⟨_, rfl, (Or.inl ⟨rfl, rfl, f3⟩)⟩ (Keep.refl h0 [])
  · refine go_ireturn hret hlk rfl (by simp) (D d12_6) (by decide) (by decide) ⟨_, rfl, (Or.inr (Or.inl ⟨rfl, rfl, f4, f5⟩))⟩ (Keep.refl h0 [])
  · refine go_ireturn hret hlk rfl (by simp) (D d12_6) (by decide) (by decide) ⟨_, rfl, (Or.inr (Or.inr (⟨rfl, rfl, f6, f7⟩)))⟩ (Keep.refl h0 [])
theorem ef_subi1_2 (m : MethodId) (a : Addr)  : entryFrame m #[(.ref a), (.int 1)] 2 = mkF m 0 #[.val (.ref a), .val (.int 1)] [] := by first | (simp [entryFrame, mkF, argsToLocals, Value.category]; done) | rfl
def Q_subi1_2 (Z : State) (a : Addr) (c0 : Int32) (c1 : Int32) (h0 : Heap) (xv : Value) (h : Heap) : Prop := ∃ (r : Addr), (.ref r) = xv ∧ Str Z h r [c1]
theorem ef_sub1_2_2 (m : MethodId) (a : Addr)  : entryFrame m #[(.ref a), (.int 1), (.int 2)] 5 = mkF m 0 #[.val (.ref a), .val (.int 1), .val (.int 2), .unset, .unset] [] := by first | (simp [entryFrame, mkF, argsToLocals, Value.category]; done) | rfl
def Q_sub1_2_2 (Z : State) (a : Addr) (c0 : Int32) (c1 : Int32) (h0 : Heap) (xv : Value) (h : Heap) : Prop := ∃ (r : Addr), (.ref r) = xv ∧ Str Z h r [c1]
theorem ef_news1_1_2 (m : MethodId) (t : Addr)  : entryFrame m #[(.ref t), (.int 1), (.int 1)] 3 = mkF m 0 #[.val (.ref t), .val (.int 1), .val (.int 1)] [] := by first | (simp [entryFrame, mkF, argsToLocals, Value.category]; done) | rfl
def Q_news1_1_2 (Z : State) (t : Addr) (k : ClassId) (c0 : Int32) (c1 : Int32) (h0 : Heap) (xv : Value) (h : Heap) : Prop := ∃ (r : Addr), (.ref r) = xv ∧ Str Z h r [c1]
theorem ef_cor1_2_2 (m : MethodId) (t : Addr)  : entryFrame m #[(.ref t), (.int 1), (.int 2)] 3 = mkF m 0 #[.val (.ref t), .val (.int 1), .val (.int 2)] [] := by first | (simp [entryFrame, mkF, argsToLocals, Value.category]; done) | rfl
def Q_cor1_2_2 (Z : State) (t : Addr) (k : ClassId) (b0 : Int32) (b1 : Int32) (h0 : Heap) (xv : Value) (h : Heap) : Prop := ∃ (r : Addr) (k2 : ClassId), (.ref r) = xv ∧ h0.size ≤ r ∧ Arv Z h r k2 (.byte) (1 : Int32) [(.int b1)] (.int 0)
theorem ef_corb1_2_2 (m : MethodId) (t : Addr)  : entryFrame m #[(.ref t), (.int 1), (.int 2)] 5 = mkF m 0 #[.val (.ref t), .val (.int 1), .val (.int 2), .unset, .unset] [] := by first | (simp [entryFrame, mkF, argsToLocals, Value.category]; done) | rfl
def Q_corb1_2_2 (Z : State) (t : Addr) (k : ClassId) (b0 : Int32) (b1 : Int32) (h0 : Heap) (xv : Value) (h : Heap) : Prop := ∃ (r : Addr) (k2 : ClassId), (.ref r) = xv ∧ h0.size ≤ r ∧ Arv Z h r k2 (.byte) (1 : Int32) [(.int b1)] (.int 0)
theorem c_corb1_2_2 (l : Launch) {Z : State} {a0 : Array Value} (G : GH Z a0) (t : Addr) (k : ClassId) (b0 : Int32) (b1 : Int32) (h0 : Heap) (O0 : Old Z Z.heap.size h0) (p1 : Arv Z h0 t k (.byte) (2 : Int32) [(.int b0), (.int b1)] (.int 0)) : Con false [] l Z (⟨"java/util/Arrays", "copyOfRangeByte", "([BII)[B"⟩ : MethodName) jdk_65_method_133_code 5 (some (.array .byte)) [] (rm4 1 1 1 18) #[(.ref t), (.int 1), (.int 2)] h0 [] (rvl (Q_corb1_2_2 Z t k b0 b1 h0)) := by
  refine con_of (a0 := a0) (plainFor_of_name pn4) (fun q => rfl) EW.nil O0 (fun m => ef_corb1_2_2 m t) ?_
  intro p_ e_ s_ m_ below_ meth_ c_ D hml hret hlk hnm
  refine go_iload_n 1 (D d22_0) rfl rfl ?_
  refine go_iload_n 2 (D d22_1) rfl rfl ?_
  refine callS0 (cells' := 0) (slots' := 0) (Wd := 0) (argsL := [(.int 1), (.int 2)]) (rest := []) (pay_of (a0 := a0) (c_chkl l G (1 : Int32) (2 : Int32) h0 O0 (by decide)) (wk G 123 rfl) (wk G 116 rfl) (by decide) (by decide)) (wk G 121 rfl) (wk G 122 rfl) (wk G 116 rfl) (wk G 123 rfl) (by decide) pd17 rfl rfl (by rw [hml]; rfl) (nb rfl) rfl rfl (by decide) (by decide) all0 (fun _ _ => sf0) (D d22_2) (k_n 5 rfl ?_)
  rintro  h1 rfl K2
  refine go_iload_n 6 (D d22_5) rfl rfl ?_
  refine go_iload_n 7 (D d22_6) rfl rfl ?_
  refine go_isub 8 (z := (1 : Int32)) (D d22_7) rfl (by decide) ?_
  refine go_istore_n 9 (ls' := #[vr t, vi 1, vi 2, vi 1, un]) (D d22_8) rfl rfl ?_
  refine go_iload_n 10 (D d22_9) rfl rfl ?_
  refine go_newP 12 (cells' := 1) (slots' := 1) (cap := 1) (vs := [(.int 0)]) (ty := .byte) (dv := .int 0) (wk G 19 rfl) rfl rfl (D d22_10) rfl (by decide) rfl (by decide) rfl rfl rfl (by decide) (by decide) (fun h3 a4 k8 g5 X6 A7 => ?_)
  refine go_astore 14 (ls' := #[vr t, vi 1, vi 2, vi 1, vr a4]) (D d22_12) rfl rfl rfl ?_
  refine go_aload_n 15 (D d22_14) rfl rfl rfl ?_
  refine go_iload_n 16 (D d22_15) rfl rfl ?_
  refine go_aload 18 (D d22_16) rfl rfl rfl ?_
  refine go_iconst 19 (v := 0) (D d22_18) rfl rfl ?_
  refine go_aload_n 20 (D d22_19) rfl rfl rfl ?_
  have K9 : Keep h0 h3 [] := ((Keep.refl h0 []).ext X6)
  have A10 := (p1.keep K9 nin0)
  refine go_arraylength 21 A10 (D d22_20) rfl ?_
  refine go_iload_n 22 (D d22_21) rfl rfl ?_
  refine go_isub 23 (z := (1 : Int32)) (D d22_22) rfl (by decide) ?_
  refine go_iload_n 24 (D d22_23) rfl rfl ?_
  refine go_old (fun O11 => ?_)
  refine callS0 (cells' := 1) (slots' := 1) (Wd := 4) (argsL := [(.int 1), (.int 1)]) (rest := [(.int 0), (.ref a4), (.int 1), (.ref t)]) (pay_of (a0 := a0) (c_min1_1 l G  h3 O11 ) (wk G 69 rfl) (wk G 65 rfl) (by decide) (by decide)) (wk G 124 rfl) (wk G 68 rfl) (wk G 65 rfl) (wk G 69 rfl) (by decide) pd8 rfl rfl (by rw [hml]; rfl) (nb rfl) rfl rfl (by decide) (by decide) all0 (fun _ _ => sf0) (D d22_24) (k_v 27 rfl ?_)
  rintro _ h12 ⟨rfl, rfl⟩ K13
  refine go_acopy 30 (Wd := 0) (vd' := [(.int b1)]) (wk G 125 rfl) (wk G 128 rfl) (wk G 126 rfl) (wk G 127 rfl) rfl A10 A7 rfl (by decide) (by decide) (by decide) (nb rfl) (nb rfl) (nb rfl) (Nat.le_trans O0.2.1 (Nat.le_of_eq g5)) rfl (by rw [hml]; rfl) (by decide) (by decide) (by decide) (D d22_27) rfl (fun h14 K15 A16 => ?_)
  refine go_aload 32 (D d22_30) rfl rfl rfl ?_
  have K17 : Keep h0 h14 [] := (K9.trans K15 (allS (Or.inr (Nat.le_of_eq g5)) all0))
  refine go_areturn hret hlk rfl rfl (D d22_32) (by decide) (by decide) ⟨_, rfl, ⟨a4, k8, rfl, (Nat.le_of_eq g5), A16⟩⟩ K17
theorem c_cor1_2_2 (l : Launch) {Z : State} {a0 : Array Value} (G : GH Z a0) (t : Addr) (k : ClassId) (b0 : Int32) (b1 : Int32) (h0 : Heap) (O0 : Old Z Z.heap.size h0) (p1 : Arv Z h0 t k (.byte) (2 : Int32) [(.int b0), (.int b1)] (.int 0)) : Con false [] l Z (⟨"java/util/Arrays", "copyOfRange", "([BII)[B"⟩ : MethodName) jdk_65_method_132_code 3 (some (.array .byte)) [] (rm4 2 1 1 34) #[(.ref t), (.int 1), (.int 2)] h0 [] (rvl (Q_cor1_2_2 Z t k b0 b1 h0)) := by
  refine con_of (a0 := a0) (plainFor_of_name pn4) (fun q => rfl) EW.nil O0 (fun m => ef_cor1_2_2 m t) ?_
  intro p_ e_ s_ m_ below_ meth_ c_ D hml hret hlk hnm
  refine go_iload_n 1 (D d21_0) rfl rfl ?_
  refine go_ifT 10 (D d21_1) (by decide) rfl (by decide) ?_
  refine go_aload_n 11 (D d21_10) rfl rfl rfl ?_
  refine go_iload_n 12 (D d21_11) rfl rfl ?_
  refine go_iload_n 13 (D d21_12) rfl rfl ?_
  refine callS0 (cells' := 1) (slots' := 1) (Wd := 0) (argsL := [(.ref t), (.int 1), (.int 2)]) (rest := []) (pay_of (a0 := a0) (c_corb1_2_2 l G t k b0 b1 h0 O0 p1) (wk G 120 rfl) (wk G 116 rfl) (by decide) (by decide)) (wk G 118 rfl) (wk G 119 rfl) (wk G 116 rfl) (wk G 120 rfl) (by decide) pd18 rfl rfl (by rw [hml]; rfl) (nb rfl) rfl rfl (by decide) (by decide) all0 (fun _ _ => sf0) (D d21_13) (k_v 16 rfl ?_)
  rintro _ h1 ⟨r3, r4, rfl, f5, f6⟩ K2
  have K7 : Keep h0 h1 [] := ((Keep.refl h0 []).trans K2 all0)
  refine go_areturn hret hlk rfl rfl (D d21_16) (by decide) (by decide) ⟨_, rfl, ⟨r3, r4, rfl, f5, f6⟩⟩ K7
theorem c_news1_1_2 (l : Launch) {Z : State} {a0 : Array Value} (G : GH Z a0) (t : Addr) (k : ClassId) (c0 : Int32) (c1 : Int32) (h0 : Heap) (O0 : Old Z Z.heap.size h0) (p1 : Arv Z h0 t k (.byte) (2 : Int32) [(.int (c0).toInt8.toInt32), (.int (c1).toInt8.toInt32)] (.int 0)) (p2 : C8 c0) (p3 : C8 c1) : Con false [] l Z (⟨"java/lang/StringLatin1", "newString", "([BII)Ljava/lang/String;"⟩ : MethodName) jdk_43_method_47_code 3 (some (.object "java/lang/String")) [] (rm4 3 2 5 50) #[(.ref t), (.int 1), (.int 1)] h0 [] (rvl (Q_news1_1_2 Z t k c0 c1 h0)) := by
  refine con_of (a0 := a0) (plainFor_of_name pn2) (fun q => rfl) EW.nil O0 (fun m => ef_news1_1_2 m t) ?_
  intro p_ e_ s_ m_ below_ meth_ c_ D hml hret hlk hnm
  refine go_iload_n 1 (D d20_0) rfl rfl ?_
  refine go_ifT 7 (D d20_1) (by decide) rfl (by decide) ?_
  refine go_newO 10 (cells' := 1) (slots' := 4) (wk G 113 rfl) (wk G 6 rfl) (wk G 7 rfl) (D d20_7) rfl rfl rfl (by decide) (by decide) (fun h1 a2 g3 X4 E5 D6 U7 => ?_)
  refine go_dup 11 (D d20_10) rfl rfl ?_
  refine go_aload_n 12 (D d20_11) rfl rfl rfl ?_
  refine go_iload_n 13 (D d20_12) rfl rfl ?_
  refine go_iload_n 14 (D d20_13) rfl rfl ?_
  refine go_iload_n 15 (D d20_14) rfl rfl ?_
  refine go_iadd 16 (z := (2 : Int32)) (D d20_15) rfl (by decide) ?_
  have K8 : Keep h0 h1 [] := ((Keep.refl h0 []).ext X4)
  have A9 := (p1.keep K8 nin0)
  refine go_old (fun O10 => ?_)
  refine callS0 (cells' := 2) (slots' := 5) (Wd := 2) (argsL := [(.ref t), (.int 1), (.int 2)]) (rest := [(.ref a2), (.ref a2)]) (pay_of (a0 := a0) (c_cor1_2_2 l G t k ((c0).toInt8.toInt32) ((c1).toInt8.toInt32) h1 O10 A9) (wk G 117 rfl) (wk G 116 rfl) (by decide) (by decide)) (wk G 114 rfl) (wk G 115 rfl) (wk G 116 rfl) (wk G 117 rfl) (by decide) pd18 rfl rfl (by rw [hml]; rfl) (nb rfl) rfl rfl (by decide) (by decide) all0 (fun _ _ => sf0) (D d20_16) (k_v 19 rfl ?_)
  rintro _ h11 ⟨r13, r14, rfl, f15, f16⟩ K12
  refine go_iconst 20 (v := 0) (D d20_19) rfl rfl ?_
  have K17 : Keep h1 h11 [] := ((Keep.refl h1 []).trans K12 all0)
  have E18 := (E5.keep K17)
  have F19 := D6 (Or.inr (wk G 20 rfl)) (ty := (.array .byte)) (by decide)
  have F20 := (F19.keep K17 nin0)
  have F21 := D6 (Or.inr (wk G 21 rfl)) (ty := .byte) (by decide)
  have F22 := (F21.keep K17 nin0)
  refine go_old (fun O23 => ?_)
  refine callI0 (cells' := 2) (slots' := 5) (Wd := 1) (argsL := [(.ref r13), (.int 0)]) (rest := [(.ref a2)]) (pay_of (a0 := a0) (c_strbb l G a2 r13 h11 O23 E18 (Nat.le_trans O0.2.1 (Nat.le_of_eq g3)) F20 F22) (wk G 131 rfl) (wk G 7 rfl) (by decide) (by decide)) rfl (wk G 129 rfl) (wk G 130 rfl) (wk G 131 rfl) (by decide) pd19 rfl rfl (by rw [hml]; rfl) (nb rfl) rfl rfl (by decide) (by decide) (allS (Nat.le_trans O0.2.1 (Nat.le_of_eq g3)) all0) (fun _ hal => (sfS safe_nil sf0)) (D d20_20) (k_n 23 rfl ?_)
  rintro  h24 ⟨f26, f27⟩ K25
  have K28 : Keep h0 h11 [] := (K8.trans K12 all0)
  have K29 : Keep h0 h24 [] := (K28.trans K25 (allS (Or.inr (Nat.le_of_eq g3)) all0))
  have E30 := (E18.keep K25)
  have A31 := (f16.keep K25 (ninS (Nat.ne_of_gt (Nat.lt_of_lt_of_le E5.lt f15)) nin0))
  have S32 : Str Z h24 a2 [c1] := ⟨r13, r14, E30, f26, f27, A31, (c8c p3 c8n), Nat.le_of_ble_eq_true rfl⟩
  refine go_areturn hret hlk rfl rfl (D d20_23) (by decide) (by decide) ⟨_, rfl, ⟨a2, rfl, S32⟩⟩ K29
theorem c_sub1_2_2 (l : Launch) {Z : State} {a0 : Array Value} (G : GH Z a0) (a : Addr) (c0 : Int32) (c1 : Int32) (h0 : Heap) (O0 : Old Z Z.heap.size h0) (p1 : Str Z h0 a [c0, c1]) : Con false [] l Z (⟨"java/lang/String", "substring", "(II)Ljava/lang/String;"⟩ : MethodName) jdk_42_method_92_code 5 (some (.object "java/lang/String")) [] (rm4 4 2 5 64) #[(.ref a), (.int 1), (.int 2)] h0 [] (rvl (Q_sub1_2_2 Z a c0 c1 h0)) := by
  refine con_of (a0 := a0) (plainFor_of_name pn1) (fun q => rfl) EW.nil O0 (fun m => ef_sub1_2_2 m a) ?_
  intro p_ e_ s_ m_ below_ meth_ c_ D hml hret hlk hnm
  have q1 : C8 c0 := by obtain ⟨_, _, _, _, _, _, q, _⟩ := id p1; exact q _ (by simp)
  have q2 : C8 c1 := by obtain ⟨_, _, _, _, _, _, q, _⟩ := id p1; exact q _ (by simp)
  refine go_aload_n 1 (D d18_0) rfl rfl rfl ?_
  refine callV0 (cells' := 0) (slots' := 0) (Wd := 0) (argsL := []) (rest := []) (pay_len G O0 (n := (2 : Int32)) p1 rfl (by decide) (by decide)) p1.exa (wk G 46 rfl) (wk G 47 rfl) (wk G 49 rfl) (wk G 49 rfl) (wk G 48 rfl) (by decide) pd6 rfl rfl (by rw [hml]; rfl) (nb rfl) rfl rfl (by decide) (by decide) all0 (fun _ _ => sf0) (D d18_1) (k_v 4 rfl ?_)
  rintro _ _ ⟨rfl, rfl⟩ -
  refine go_istore_n 5 (ls' := #[vr a, vi 1, vi 2, vi 2, un]) (D d18_4) rfl rfl ?_
  refine go_iload_n 6 (D d18_5) rfl rfl ?_
  refine go_iload_n 7 (D d18_6) rfl rfl ?_
  refine go_iload_n 8 (D d18_7) rfl rfl ?_
  refine callS0 (cells' := 0) (slots' := 0) (Wd := 0) (argsL := [(.int 1), (.int 2), (.int 2)]) (rest := []) (pay_of (a0 := a0) (c_cbbe l G (1 : Int32) (2 : Int32) (2 : Int32) h0 O0 (by decide) (by decide) (by decide)) (wk G 82 rfl) (wk G 7 rfl) (by decide) (by decide)) (wk G 80 rfl) (wk G 81 rfl) (wk G 7 rfl) (wk G 82 rfl) (by decide) pd11 rfl rfl (by rw [hml]; rfl) (nb rfl) rfl rfl (by decide) (by decide) all0 (fun _ _ => sf0) (D d18_8) (k_n 11 rfl ?_)
  rintro  h3 rfl K4
  refine go_iload_n 12 (D d18_11) rfl rfl ?_
  refine go_ifT 22 (D d18_12) (by decide) rfl (by decide) ?_
  refine go_iload_n 23 (D d18_22) rfl rfl ?_
  refine go_iload_n 24 (D d18_23) rfl rfl ?_
  refine go_isub 25 (z := (1 : Int32)) (D d18_24) rfl (by decide) ?_
  refine go_istore 27 (ls' := #[vr a, vi 1, vi 2, vi 2, vi 1]) (D d18_25) rfl rfl ?_
  refine go_aload_n 28 (D d18_27) rfl rfl rfl ?_
  obtain ⟨t5, k6, E7, F8, F9, A10, B11, L12⟩ := id p1
  refine callV0 (cells' := 0) (slots' := 0) (Wd := 0) (argsL := []) (rest := []) (pay_of (a0 := a0) (c_islatin l G a h0 O0 F9) (wk G 44 rfl) (wk G 7 rfl) (by decide) (by decide)) E7 (wk G 40 rfl) (wk G 41 rfl) (wk G 43 rfl) (wk G 43 rfl) (wk G 42 rfl) (by decide) pd5 rfl rfl (by rw [hml]; rfl) (nb rfl) rfl rfl (by decide) (by decide) all0 (fun _ _ => sf0) (D d18_28) (k_v 31 rfl ?_)
  rintro _ h13 ⟨rfl, rfl⟩ K14
  refine go_ifF 34 (D d18_31) rfl (by decide) ?_
  refine go_aload_n 35 (D d18_34) rfl rfl rfl ?_
  refine go_getF 38 (wk G 24 rfl) Via.refl F8 (D d18_35) rfl ?_
  refine go_iload_n 39 (D d18_38) rfl rfl ?_
  refine go_iload 41 (D d18_39) rfl rfl ?_
  refine callS0 (cells' := 2) (slots' := 5) (Wd := 0) (argsL := [(.ref t5), (.int 1), (.int 1)]) (rest := []) (pay_of (a0 := a0) (c_news1_1_2 l G t5 k6 c0 c1 h0 O0 A10 q1 q2) (wk G 112 rfl) (wk G 58 rfl) (by decide) (by decide)) (wk G 110 rfl) (wk G 111 rfl) (wk G 58 rfl) (wk G 112 rfl) (by decide) pd16 rfl rfl (by rw [hml]; rfl) (nb rfl) rfl rfl (by decide) (by decide) all0 (fun _ _ => sf0) (D d18_41) (k_v 44 rfl ?_)
  rintro _ h15 ⟨r17, rfl, f18⟩ K16
  refine go_goto 57 (D d18_44) (by decide) rfl ?_
  have K19 : Keep h0 h15 [] := ((Keep.refl h0 []).trans K16 all0)
  refine go_areturn hret hlk rfl rfl (D d18_57) (by decide) (by decide) ⟨_, rfl, ⟨r17, rfl, f18⟩⟩ K19
theorem c_subi1_2 (l : Launch) {Z : State} {a0 : Array Value} (G : GH Z a0) (a : Addr) (c0 : Int32) (c1 : Int32) (h0 : Heap) (O0 : Old Z Z.heap.size h0) (p1 : Str Z h0 a [c0, c1]) : Con false [] l Z (⟨"java/lang/String", "substring", "(I)Ljava/lang/String;"⟩ : MethodName) jdk_42_method_91_code 2 (some (.object "java/lang/String")) [] (rm4 5 2 5 80) #[(.ref a), (.int 1)] h0 [] (rvl (Q_subi1_2 Z a c0 c1 h0)) := by
  refine con_of (a0 := a0) (plainFor_of_name pn1) (fun q => rfl) EW.nil O0 (fun m => ef_subi1_2 m a) ?_
  intro p_ e_ s_ m_ below_ meth_ c_ D hml hret hlk hnm
  have q1 : C8 c0 := by obtain ⟨_, _, _, _, _, _, q, _⟩ := id p1; exact q _ (by simp)
  have q2 : C8 c1 := by obtain ⟨_, _, _, _, _, _, q, _⟩ := id p1; exact q _ (by simp)
  refine go_aload_n 1 (D d17_0) rfl rfl rfl ?_
  refine go_iload_n 2 (D d17_1) rfl rfl ?_
  refine go_aload_n 3 (D d17_2) rfl rfl rfl ?_
  refine callV0 (cells' := 0) (slots' := 0) (Wd := 2) (argsL := []) (rest := [(.int 1), (.ref a)]) (pay_len G O0 (n := (2 : Int32)) p1 rfl (by decide) (by decide)) p1.exa (wk G 46 rfl) (wk G 47 rfl) (wk G 49 rfl) (wk G 49 rfl) (wk G 48 rfl) (by decide) pd6 rfl rfl (by rw [hml]; rfl) (nb rfl) rfl rfl (by decide) (by decide) all0 (fun _ _ => sf0) (D d17_3) (k_v 6 rfl ?_)
  rintro _ _ ⟨rfl, rfl⟩ -
  refine callV0 (cells' := 2) (slots' := 5) (Wd := 0) (argsL := [(.int 1), (.int 2)]) (rest := []) (pay_of (a0 := a0) (c_sub1_2_2 l G a c0 c1 h0 O0 p1) (wk G 79 rfl) (wk G 7 rfl) (by decide) (by decide)) p1.exa (wk G 75 rfl) (wk G 76 rfl) (wk G 78 rfl) (wk G 78 rfl) (wk G 77 rfl) (by decide) pd12 rfl rfl (by rw [hml]; rfl) (nb rfl) rfl rfl (by decide) (by decide) all0 (fun _ _ => sf0) (D d17_6) (k_v 9 rfl ?_)
  rintro _ h3 ⟨r5, rfl, f6⟩ K4
  have K7 : Keep h0 h3 [] := ((Keep.refl h0 []).trans K4 all0)
  refine go_areturn hret hlk rfl rfl (D d17_9) (by decide) (by decide) ⟨_, rfl, ⟨r5, rfl, f6⟩⟩ K7
theorem ef_subi2_2 (m : MethodId) (a : Addr)  : entryFrame m #[(.ref a), (.int 2)] 2 = mkF m 0 #[.val (.ref a), .val (.int 2)] [] := by first | (simp [entryFrame, mkF, argsToLocals, Value.category]; done) | rfl
def Q_subi2_2 (Z : State) (a : Addr) (c0 : Int32) (c1 : Int32) (h0 : Heap) (xv : Value) (h : Heap) : Prop := ∃ (r : Addr), (.ref r) = xv ∧ Str Z h r []
theorem ef_sub2_2_2 (m : MethodId) (a : Addr)  : entryFrame m #[(.ref a), (.int 2), (.int 2)] 5 = mkF m 0 #[.val (.ref a), .val (.int 2), .val (.int 2), .unset, .unset] [] := by first | (simp [entryFrame, mkF, argsToLocals, Value.category]; done) | rfl
def Q_sub2_2_2 (Z : State) (a : Addr) (c0 : Int32) (c1 : Int32) (h0 : Heap) (xv : Value) (h : Heap) : Prop := ∃ (r : Addr), (.ref r) = xv ∧ Str Z h r []
theorem ef_news2_0_2 (m : MethodId) (t : Addr)  : entryFrame m #[(.ref t), (.int 2), (.int 0)] 3 = mkF m 0 #[.val (.ref t), .val (.int 2), .val (.int 0)] [] := by first | (simp [entryFrame, mkF, argsToLocals, Value.category]; done) | rfl
def Q_news2_0_2 (Z : State) (t : Addr) (k : ClassId) (c0 : Int32) (c1 : Int32) (h0 : Heap) (xv : Value) (h : Heap) : Prop := ∃ (r : Addr), (.ref r) = xv ∧ Str Z h r []
theorem c_news2_0_2 (l : Launch) {Z : State} {a0 : Array Value} (G : GH Z a0) (t : Addr) (k : ClassId) (c0 : Int32) (c1 : Int32) (h0 : Heap) (O0 : Old Z Z.heap.size h0) (p1 : Arv Z h0 t k (.byte) (2 : Int32) [(.int (c0).toInt8.toInt32), (.int (c1).toInt8.toInt32)] (.int 0)) (p2 : C8 c0) (p3 : C8 c1) : Con true EL1 l Z (⟨"java/lang/StringLatin1", "newString", "([BII)Ljava/lang/String;"⟩ : MethodName) jdk_43_method_47_code 3 (some (.object "java/lang/String")) [] (rm4 0 2 4 0) #[(.ref t), (.int 2), (.int 0)] h0 [] (rvl (Q_news2_0_2 Z t k c0 c1 h0)) := by
  refine con_of (a0 := a0) (plainFor_of_name pn2) (fun q => nomatch q) (ew1 G) O0 (fun m => ef_news2_0_2 m t) ?_
  intro p_ e_ s_ m_ below_ meth_ c_ D hml hret hlk hnm
  refine go_iload_n 1 (D d20_0) rfl rfl ?_
  refine go_ifF 4 (D d20_1) rfl (by decide) ?_
  refine go_ldcH 6 (cells' := 2) (slots' := 4) (n := 0) (vs := (([] : List Int32).map fun c => c.toInt8.toInt32).map Value.int) (z := (0 : Int32)) rfl (by decide) (wk G 132 rfl) (wS G) (by decide +kernel) (by decide) (by decide) (by decide) (by decide) (D d20_4) rfl rfl rfl (by decide) (by decide) (fun h1 a2 t4 k5 X3 E6 F7 F8 A9 => ?_)
  have S10 : Str Z h1 a2 [] := ⟨t4, k5, E6, F8, F7, A9, by decide, by decide⟩
  have K11 : Keep h0 h1 [] := ((Keep.refl h0 []).ext X3)
  refine go_areturn hret hlk rfl rfl (D d20_6) (by decide) (by decide) ⟨_, rfl, ⟨a2, rfl, S10⟩⟩ K11
theorem c_sub2_2_2 (l : Launch) {Z : State} {a0 : Array Value} (G : GH Z a0) (a : Addr) (c0 : Int32) (c1 : Int32) (h0 : Heap) (O0 : Old Z Z.heap.size h0) (p1 : Str Z h0 a [c0, c1]) : Con true EL1 l Z (⟨"java/lang/String", "substring", "(II)Ljava/lang/String;"⟩ : MethodName) jdk_42_method_92_code 5 (some (.object "java/lang/String")) [] (rm4 2 2 4 29) #[(.ref a), (.int 2), (.int 2)] h0 [] (rvl (Q_sub2_2_2 Z a c0 c1 h0)) := by
  refine con_of (a0 := a0) (plainFor_of_name pn1) (fun q => nomatch q) (ew1 G) O0 (fun m => ef_sub2_2_2 m a) ?_
  intro p_ e_ s_ m_ below_ meth_ c_ D hml hret hlk hnm
  have q1 : C8 c0 := by obtain ⟨_, _, _, _, _, _, q, _⟩ := id p1; exact q _ (by simp)
  have q2 : C8 c1 := by obtain ⟨_, _, _, _, _, _, q, _⟩ := id p1; exact q _ (by simp)
  refine go_aload_n 1 (D d18_0) rfl rfl rfl ?_
  refine callV0 (cells' := 0) (slots' := 0) (Wd := 0) (argsL := []) (rest := []) (pay_len G O0 (n := (2 : Int32)) p1 rfl (by decide) (by decide)) p1.exa (wk G 46 rfl) (wk G 47 rfl) (wk G 49 rfl) (wk G 49 rfl) (wk G 48 rfl) (by decide) pd6 rfl rfl (by rw [hml]; rfl) (nb rfl) rfl rfl (by decide) (by decide) all0 (fun _ _ => sf0) (D d18_1) (k_v 4 rfl ?_)
  rintro _ _ ⟨rfl, rfl⟩ -
  refine go_istore_n 5 (ls' := #[vr a, vi 2, vi 2, vi 2, un]) (D d18_4) rfl rfl ?_
  refine go_iload_n 6 (D d18_5) rfl rfl ?_
  refine go_iload_n 7 (D d18_6) rfl rfl ?_
  refine go_iload_n 8 (D d18_7) rfl rfl ?_
  refine callS0 (cells' := 0) (slots' := 0) (Wd := 0) (argsL := [(.int 2), (.int 2), (.int 2)]) (rest := []) (pay_of (a0 := a0) (c_cbbe l G (2 : Int32) (2 : Int32) (2 : Int32) h0 O0 (by decide) (by decide) (by decide)) (wk G 82 rfl) (wk G 7 rfl) (by decide) (by decide)) (wk G 80 rfl) (wk G 81 rfl) (wk G 7 rfl) (wk G 82 rfl) (by decide) pd11 rfl rfl (by rw [hml]; rfl) (nb rfl) rfl rfl (by decide) (by decide) all0 (fun _ _ => sf0) (D d18_8) (k_n 11 rfl ?_)
  rintro  h3 rfl K4
  refine go_iload_n 12 (D d18_11) rfl rfl ?_
  refine go_ifT 22 (D d18_12) (by decide) rfl (by decide) ?_
  refine go_iload_n 23 (D d18_22) rfl rfl ?_
  refine go_iload_n 24 (D d18_23) rfl rfl ?_
  refine go_isub 25 (z := (0 : Int32)) (D d18_24) rfl (by decide) ?_
  refine go_istore 27 (ls' := #[vr a, vi 2, vi 2, vi 2, vi 0]) (D d18_25) rfl rfl ?_
  refine go_aload_n 28 (D d18_27) rfl rfl rfl ?_
  obtain ⟨t5, k6, E7, F8, F9, A10, B11, L12⟩ := id p1
  refine callV0 (cells' := 0) (slots' := 0) (Wd := 0) (argsL := []) (rest := []) (pay_of (a0 := a0) (c_islatin l G a h0 O0 F9) (wk G 44 rfl) (wk G 7 rfl) (by decide) (by decide)) E7 (wk G 40 rfl) (wk G 41 rfl) (wk G 43 rfl) (wk G 43 rfl) (wk G 42 rfl) (by decide) pd5 rfl rfl (by rw [hml]; rfl) (nb rfl) rfl rfl (by decide) (by decide) all0 (fun _ _ => sf0) (D d18_28) (k_v 31 rfl ?_)
  rintro _ h13 ⟨rfl, rfl⟩ K14
  refine go_ifF 34 (D d18_31) rfl (by decide) ?_
  refine go_aload_n 35 (D d18_34) rfl rfl rfl ?_
  refine go_getF 38 (wk G 24 rfl) Via.refl F8 (D d18_35) rfl ?_
  refine go_iload_n 39 (D d18_38) rfl rfl ?_
  refine go_iload 41 (D d18_39) rfl rfl ?_
  refine callSW0 rfl (cells' := 2) (slots' := 4) (Wd := 0) (argsL := [(.ref t5), (.int 2), (.int 0)]) (rest := []) (payW_of (a0 := a0) (c_news2_0_2 l G t5 k6 c0 c1 h0 O0 A10 q1 q2) (wk G 112 rfl) (wk G 58 rfl) (by decide) (by decide) (ew1 G)) (wk G 110 rfl) (wk G 111 rfl) (wk G 58 rfl) (wk G 112 rfl) (by decide) pd16 rfl rfl (by rw [hml]; rfl) (nb rfl) rfl rfl (by decide) (by decide) all0 (D d18_41) (k_v 44 rfl ?_)
  rintro _ h15 ⟨r17, rfl, f18⟩ K16
  refine go_goto 57 (D d18_44) (by decide) rfl ?_
  have K19 : Keep h0 h15 [] := ((Keep.refl h0 []).trans K16 all0)
  refine go_areturn hret hlk rfl rfl (D d18_57) (by decide) (by decide) ⟨_, rfl, ⟨r17, rfl, f18⟩⟩ K19
theorem c_subi2_2 (l : Launch) {Z : State} {a0 : Array Value} (G : GH Z a0) (a : Addr) (c0 : Int32) (c1 : Int32) (h0 : Heap) (O0 : Old Z Z.heap.size h0) (p1 : Str Z h0 a [c0, c1]) : Con true EL1 l Z (⟨"java/lang/String", "substring", "(I)Ljava/lang/String;"⟩ : MethodName) jdk_42_method_91_code 2 (some (.object "java/lang/String")) [] (rm4 3 2 4 45) #[(.ref a), (.int 2)] h0 [] (rvl (Q_subi2_2 Z a c0 c1 h0)) := by
  refine con_of (a0 := a0) (plainFor_of_name pn1) (fun q => nomatch q) (ew1 G) O0 (fun m => ef_subi2_2 m a) ?_
  intro p_ e_ s_ m_ below_ meth_ c_ D hml hret hlk hnm
  have q1 : C8 c0 := by obtain ⟨_, _, _, _, _, _, q, _⟩ := id p1; exact q _ (by simp)
  have q2 : C8 c1 := by obtain ⟨_, _, _, _, _, _, q, _⟩ := id p1; exact q _ (by simp)
  refine go_aload_n 1 (D d17_0) rfl rfl rfl ?_
  refine go_iload_n 2 (D d17_1) rfl rfl ?_
  refine go_aload_n 3 (D d17_2) rfl rfl rfl ?_
  refine callV0 (cells' := 0) (slots' := 0) (Wd := 2) (argsL := []) (rest := [(.int 2), (.ref a)]) (pay_len G O0 (n := (2 : Int32)) p1 rfl (by decide) (by decide)) p1.exa (wk G 46 rfl) (wk G 47 rfl) (wk G 49 rfl) (wk G 49 rfl) (wk G 48 rfl) (by decide) pd6 rfl rfl (by rw [hml]; rfl) (nb rfl) rfl rfl (by decide) (by decide) all0 (fun _ _ => sf0) (D d17_3) (k_v 6 rfl ?_)
  rintro _ _ ⟨rfl, rfl⟩ -
  refine callVW0 rfl (cells' := 2) (slots' := 4) (Wd := 0) (argsL := [(.int 2), (.int 2)]) (rest := []) (payW_of (a0 := a0) (c_sub2_2_2 l G a c0 c1 h0 O0 p1) (wk G 79 rfl) (wk G 7 rfl) (by decide) (by decide) (ew1 G)) p1.exa (wk G 75 rfl) (wk G 76 rfl) (wk G 78 rfl) (wk G 78 rfl) (wk G 77 rfl) (by decide) pd12 rfl rfl (by rw [hml]; rfl) (nb rfl) rfl rfl (by decide) (by decide) all0 (D d17_6) (k_v 9 rfl ?_)
  rintro _ h3 ⟨r5, rfl, f6⟩ K4
  have K7 : Keep h0 h3 [] := ((Keep.refl h0 []).trans K4 all0)
  refine go_areturn hret hlk rfl rfl (D d17_9) (by decide) (by decide) ⟨_, rfl, ⟨r5, rfl, f6⟩⟩ K7
theorem ef_subi0_2 (m : MethodId) (a : Addr)  : entryFrame m #[(.ref a), (.int 0)] 2 = mkF m 0 #[.val (.ref a), .val (.int 0)] [] := by first | (simp [entryFrame, mkF, argsToLocals, Value.category]; done) | rfl
def Q_subi0_2 (Z : State) (a : Addr) (c0 : Int32) (c1 : Int32) (h0 : Heap) (xv : Value) (h : Heap) : Prop := (.ref a) = xv ∧ h0 = h
theorem ef_sub0_2_2 (m : MethodId) (a : Addr)  : entryFrame m #[(.ref a), (.int 0), (.int 2)] 5 = mkF m 0 #[.val (.ref a), .val (.int 0), .val (.int 2), .unset, .unset] [] := by first | (simp [entryFrame, mkF, argsToLocals, Value.category]; done) | rfl
def Q_sub0_2_2 (Z : State) (a : Addr) (c0 : Int32) (c1 : Int32) (h0 : Heap) (xv : Value) (h : Heap) : Prop := (.ref a) = xv ∧ h0 = h
theorem c_sub0_2_2 (l : Launch) {Z : State} {a0 : Array Value} (G : GH Z a0) (a : Addr) (c0 : Int32) (c1 : Int32) (h0 : Heap) (O0 : Old Z Z.heap.size h0) (p1 : Str Z h0 a [c0, c1]) : Con false [] l Z (⟨"java/lang/String", "substring", "(II)Ljava/lang/String;"⟩ : MethodName) jdk_42_method_92_code 5 (some (.object "java/lang/String")) [] (rm4 2 0 0 29) #[(.ref a), (.int 0), (.int 2)] h0 [] (rvl (Q_sub0_2_2 Z a c0 c1 h0)) := by
  refine con_of (a0 := a0) (plainFor_of_name pn1) (fun q => rfl) EW.nil O0 (fun m => ef_sub0_2_2 m a) ?_
  intro p_ e_ s_ m_ below_ meth_ c_ D hml hret hlk hnm
  have q1 : C8 c0 := by obtain ⟨_, _, _, _, _, _, q, _⟩ := id p1; exact q _ (by simp)
  have q2 : C8 c1 := by obtain ⟨_, _, _, _, _, _, q, _⟩ := id p1; exact q _ (by simp)
  refine go_aload_n 1 (D d18_0) rfl rfl rfl ?_
  refine callV0 (cells' := 0) (slots' := 0) (Wd := 0) (argsL := []) (rest := []) (pay_len G O0 (n := (2 : Int32)) p1 rfl (by decide) (by decide)) p1.exa (wk G 46 rfl) (wk G 47 rfl) (wk G 49 rfl) (wk G 49 rfl) (wk G 48 rfl) (by decide) pd6 rfl rfl (by rw [hml]; rfl) (nb rfl) rfl rfl (by decide) (by decide) all0 (fun _ _ => sf0) (D d18_1) (k_v 4 rfl ?_)
  rintro _ _ ⟨rfl, rfl⟩ -
  refine go_istore_n 5 (ls' := #[vr a, vi 0, vi 2, vi 2, un]) (D d18_4) rfl rfl ?_
  refine go_iload_n 6 (D d18_5) rfl rfl ?_
  refine go_iload_n 7 (D d18_6) rfl rfl ?_
  refine go_iload_n 8 (D d18_7) rfl rfl ?_
  refine callS0 (cells' := 0) (slots' := 0) (Wd := 0) (argsL := [(.int 0), (.int 2), (.int 2)]) (rest := []) (pay_of (a0 := a0) (c_cbbe l G (0 : Int32) (2 : Int32) (2 : Int32) h0 O0 (by decide) (by decide) (by decide)) (wk G 82 rfl) (wk G 7 rfl) (by decide) (by decide)) (wk G 80 rfl) (wk G 81 rfl) (wk G 7 rfl) (wk G 82 rfl) (by decide) pd11 rfl rfl (by rw [hml]; rfl) (nb rfl) rfl rfl (by decide) (by decide) all0 (fun _ _ => sf0) (D d18_8) (k_n 11 rfl ?_)
  rintro  h3 rfl K4
  refine go_iload_n 12 (D d18_11) rfl rfl ?_
  refine go_ifF 15 (D d18_12) rfl (by decide) ?_
  refine go_iload_n 16 (D d18_15) rfl rfl ?_
  refine go_iload_n 17 (D d18_16) rfl rfl ?_
  refine go_icF 20 (D d18_17) rfl (by decide) ?_
  refine go_aload_n 21 (D d18_20) rfl rfl rfl ?_
  refine go_areturn hret hlk rfl rfl (D d18_21) (by decide) (by decide) ⟨_, rfl, ⟨rfl, rfl⟩⟩ (Keep.refl h0 [])
theorem c_subi0_2 (l : Launch) {Z : State} {a0 : Array Value} (G : GH Z a0) (a : Addr) (c0 : Int32) (c1 : Int32) (h0 : Heap) (O0 : Old Z Z.heap.size h0) (p1 : Str Z h0 a [c0, c1]) : Con false [] l Z (⟨"java/lang/String", "substring", "(I)Ljava/lang/String;"⟩ : MethodName) jdk_42_method_91_code 2 (some (.object "java/lang/String")) [] (rm4 3 0 0 45) #[(.ref a), (.int 0)] h0 [] (rvl (Q_subi0_2 Z a c0 c1 h0)) := by
  refine con_of (a0 := a0) (plainFor_of_name pn1) (fun q => rfl) EW.nil O0 (fun m => ef_subi0_2 m a) ?_
  intro p_ e_ s_ m_ below_ meth_ c_ D hml hret hlk hnm
  have q1 : C8 c0 := by obtain ⟨_, _, _, _, _, _, q, _⟩ := id p1; exact q _ (by simp)
  have q2 : C8 c1 := by obtain ⟨_, _, _, _, _, _, q, _⟩ := id p1; exact q _ (by simp)
  refine go_aload_n 1 (D d17_0) rfl rfl rfl ?_
  refine go_iload_n 2 (D d17_1) rfl rfl ?_
  refine go_aload_n 3 (D d17_2) rfl rfl rfl ?_
  refine callV0 (cells' := 0) (slots' := 0) (Wd := 2) (argsL := []) (rest := [(.int 0), (.ref a)]) (pay_len G O0 (n := (2 : Int32)) p1 rfl (by decide) (by decide)) p1.exa (wk G 46 rfl) (wk G 47 rfl) (wk G 49 rfl) (wk G 49 rfl) (wk G 48 rfl) (by decide) pd6 rfl rfl (by rw [hml]; rfl) (nb rfl) rfl rfl (by decide) (by decide) all0 (fun _ _ => sf0) (D d17_3) (k_v 6 rfl ?_)
  rintro _ _ ⟨rfl, rfl⟩ -
  refine callV0 (cells' := 0) (slots' := 0) (Wd := 0) (argsL := [(.int 0), (.int 2)]) (rest := []) (pay_of (a0 := a0) (c_sub0_2_2 l G a c0 c1 h0 O0 p1) (wk G 79 rfl) (wk G 7 rfl) (by decide) (by decide)) p1.exa (wk G 75 rfl) (wk G 76 rfl) (wk G 78 rfl) (wk G 78 rfl) (wk G 77 rfl) (by decide) pd12 rfl rfl (by rw [hml]; rfl) (nb rfl) rfl rfl (by decide) (by decide) all0 (fun _ _ => sf0) (D d17_6) (k_v 9 rfl ?_)
  rintro _ h3 ⟨rfl, rfl⟩ K4
  refine go_areturn hret hlk rfl rfl (D d17_9) (by decide) (by decide) ⟨_, rfl, ⟨rfl, rfl⟩⟩ (Keep.refl h0 [])
theorem c_unq2 (l : Launch) {Z : State} {a0 : Array Value} (G : GH Z a0) (a : Addr) (c0 : Int32) (c1 : Int32) (h0 : Heap) (O0 : Old Z Z.heap.size h0) (p1 : Str Z h0 a [c0, c1]) : Con true EL1 l Z (⟨"com/example/commit_feed/commitfeed/config/SqlNames", "unqualified", "(Ljava/lang/String;)Ljava/lang/String;"⟩ : MethodName) prog_9_method_4_code 1 (some (.object "java/lang/String")) [] (rm4 6 2 5 93) #[(.ref a)] h0 [] (rvl (Q_unq2 Z a c0 c1 h0)) := by
  refine con_of (a0 := a0) (plainFor_of_name pn6) (fun q => nomatch q) (ew1 G) O0 (fun m => ef_unq2 m a) ?_
  intro p_ e_ s_ m_ below_ meth_ c_ D hml hret hlk hnm
  refine go_aload_n 1 (D d11_0) rfl rfl rfl ?_
  refine go_aload_n 2 (D d11_1) rfl rfl rfl ?_
  refine go_bipush 4 (v := 46) (D d11_2) rfl rfl ?_
  refine callV0 (cells' := 0) (slots' := 0) (Wd := 1) (argsL := [(.int 46)]) (rest := [(.ref a)]) (pay_of (a0 := a0) (c_idx2 l G a c0 c1 h0 O0 p1) (wk G 34 rfl) (wk G 7 rfl) (by decide) (by decide)) p1.exa (wk G 30 rfl) (wk G 31 rfl) (wk G 33 rfl) (wk G 33 rfl) (wk G 32 rfl) (by decide) pd10 rfl rfl (by rw [hml]; rfl) (nb rfl) rfl rfl (by decide) (by decide) all0 (fun _ _ => sf0) (D d11_4) (k_v 7 rfl ?_)
  rintro _ h1 (⟨rfl, rfl, f3⟩ | ⟨rfl, rfl, f4, f5⟩ | ⟨rfl, rfl, f6, f7⟩) K2
  · refine go_iconst 8 (v := 1) (D d11_7) rfl rfl ?_
    refine go_iadd 9 (z := (1 : Int32)) (D d11_8) rfl (by decide) ?_
    refine callV0 (cells' := 2) (slots' := 5) (Wd := 0) (argsL := [(.int 1)]) (rest := []) (pay_of (a0 := a0) (c_subi1_2 l G a c0 c1 h0 O0 p1) (wk G 74 rfl) (wk G 7 rfl) (by decide) (by decide)) p1.exa (wk G 70 rfl) (wk G 71 rfl) (wk G 73 rfl) (wk G 73 rfl) (wk G 72 rfl) (by decide) pd13 rfl rfl (by rw [hml]; rfl) (nb rfl) rfl rfl (by decide) (by decide) all0 (fun _ _ => sf0) (D d11_9) (k_v 12 rfl ?_)
    rintro _ h8 ⟨r10, rfl, f11⟩ K9
    have K12 : Keep h0 h8 [] := ((Keep.refl h0 []).trans K9 all0)
    refine go_areturn hret hlk rfl rfl (D d11_12) (by decide) (by decide) ⟨_, rfl, (Or.inl ⟨r10, rfl, f3, f11⟩)⟩ K12
  · refine go_iconst 8 (v := 1) (D d11_7) rfl rfl ?_
    refine go_iadd 9 (z := (2 : Int32)) (D d11_8) rfl (by decide) ?_
    refine callVW0 rfl (cells' := 2) (slots' := 4) (Wd := 0) (argsL := [(.int 2)]) (rest := []) (payW_of (a0 := a0) (c_subi2_2 l G a c0 c1 h0 O0 p1) (wk G 74 rfl) (wk G 7 rfl) (by decide) (by decide) (ew1 G)) p1.exa (wk G 70 rfl) (wk G 71 rfl) (wk G 73 rfl) (wk G 73 rfl) (wk G 72 rfl) (by decide) pd13 rfl rfl (by rw [hml]; rfl) (nb rfl) rfl rfl (by decide) (by decide) all0 (D d11_9) (k_v 12 rfl ?_)
    rintro _ h13 ⟨r15, rfl, f16⟩ K14
    have K17 : Keep h0 h13 [] := ((Keep.refl h0 []).trans K14 all0)
    refine go_areturn hret hlk rfl rfl (D d11_12) (by decide) (by decide) ⟨_, rfl, (Or.inr (Or.inl ⟨r15, rfl, f4, f5, f16⟩))⟩ K17
  · refine go_iconst 8 (v := 1) (D d11_7) rfl rfl ?_
    refine go_iadd 9 (z := (0 : Int32)) (D d11_8) rfl (by decide) ?_
    refine callV0 (cells' := 0) (slots' := 0) (Wd := 0) (argsL := [(.int 0)]) (rest := []) (pay_of (a0 := a0) (c_subi0_2 l G a c0 c1 h0 O0 p1) (wk G 74 rfl) (wk G 7 rfl) (by decide) (by decide)) p1.exa (wk G 70 rfl) (wk G 71 rfl) (wk G 73 rfl) (wk G 73 rfl) (wk G 72 rfl) (by decide) pd13 rfl rfl (by rw [hml]; rfl) (nb rfl) rfl rfl (by decide) (by decide) all0 (fun _ _ => sf0) (D d11_9) (k_v 12 rfl ?_)
    rintro _ h18 ⟨rfl, rfl⟩ K19
    refine go_areturn hret hlk rfl rfl (D d11_12) (by decide) (by decide) ⟨_, rfl, (Or.inr (Or.inr (⟨rfl, f6, f7⟩)))⟩ (Keep.refl h0 [])
theorem ef_unq3 (m : MethodId) (a : Addr)  : entryFrame m #[(.ref a)] 1 = mkF m 0 #[.val (.ref a)] [] := by first | (simp [entryFrame, mkF, argsToLocals, Value.category]; done) | rfl
def Q_unq3 (Z : State) (a : Addr) (c0 : Int32) (c1 : Int32) (c2 : Int32) (h0 : Heap) (xv : Value) (h : Heap) : Prop := (∃ (r : Addr), (.ref r) = xv ∧ c0 = (46 : Int32) ∧ Str Z h r [c1, c2]) ∨ (∃ (r : Addr), (.ref r) = xv ∧ ¬ c0 = (46 : Int32) ∧ c1 = (46 : Int32) ∧ Str Z h r [c2]) ∨ (∃ (r : Addr), (.ref r) = xv ∧ ¬ c0 = (46 : Int32) ∧ ¬ c1 = (46 : Int32) ∧ c2 = (46 : Int32) ∧ Str Z h r []) ∨ ((.ref a) = xv ∧ ¬ c0 = (46 : Int32) ∧ ¬ c1 = (46 : Int32) ∧ ¬ c2 = (46 : Int32))
theorem ef_idx3 (m : MethodId) (a : Addr)  : entryFrame m #[(.ref a), (.int 46)] 2 = mkF m 0 #[.val (.ref a), .val (.int 46)] [] := by first | (simp [entryFrame, mkF, argsToLocals, Value.category]; done) | rfl
def Q_idx3 (Z : State) (a : Addr) (c0 : Int32) (c1 : Int32) (c2 : Int32) (h0 : Heap) (xv : Value) (h : Heap) : Prop := ((.int 0) = xv ∧ h0 = h ∧ c0 = (46 : Int32)) ∨ ((.int 1) = xv ∧ h0 = h ∧ ¬ c0 = (46 : Int32) ∧ c1 = (46 : Int32)) ∨ ((.int 2) = xv ∧ h0 = h ∧ ¬ c0 = (46 : Int32) ∧ ¬ c1 = (46 : Int32) ∧ c2 = (46 : Int32)) ∨ ((.int (-1)) = xv ∧ h0 = h ∧ ¬ c0 = (46 : Int32) ∧ ¬ c1 = (46 : Int32) ∧ ¬ c2 = (46 : Int32))
theorem ef_idxs3 (m : MethodId) (a : Addr)  : entryFrame m #[(.ref a), (.int 46), (.int 0)] 3 = mkF m 0 #[.val (.ref a), .val (.int 46), .val (.int 0)] [] := by first | (simp [entryFrame, mkF, argsToLocals, Value.category]; done) | rfl
def Q_idxs3 (Z : State) (a : Addr) (c0 : Int32) (c1 : Int32) (c2 : Int32) (h0 : Heap) (xv : Value) (h : Heap) : Prop := ((.int 0) = xv ∧ h0 = h ∧ c0 = (46 : Int32)) ∨ ((.int 1) = xv ∧ h0 = h ∧ ¬ c0 = (46 : Int32) ∧ c1 = (46 : Int32)) ∨ ((.int 2) = xv ∧ h0 = h ∧ ¬ c0 = (46 : Int32) ∧ ¬ c1 = (46 : Int32) ∧ c2 = (46 : Int32)) ∨ ((.int (-1)) = xv ∧ h0 = h ∧ ¬ c0 = (46 : Int32) ∧ ¬ c1 = (46 : Int32) ∧ ¬ c2 = (46 : Int32))
theorem ef_idxl3 (m : MethodId) (t : Addr)  : entryFrame m #[(.ref t), (.int 46), (.int 0), (.int 3)] 4 = mkF m 0 #[.val (.ref t), .val (.int 46), .val (.int 0), .val (.int 3)] [] := by first | (simp [entryFrame, mkF, argsToLocals, Value.category]; done) | rfl
def Q_idxl3 (Z : State) (t : Addr) (k : ClassId) (b0 : Int32) (b1 : Int32) (b2 : Int32) (h0 : Heap) (xv : Value) (h : Heap) : Prop := ((.int 0) = xv ∧ h0 = h ∧ b0 = (46 : Int32)) ∨ ((.int 1) = xv ∧ h0 = h ∧ ¬ b0 = (46 : Int32) ∧ b1 = (46 : Int32)) ∨ ((.int 2) = xv ∧ h0 = h ∧ ¬ b0 = (46 : Int32) ∧ ¬ b1 = (46 : Int32) ∧ b2 = (46 : Int32)) ∨ ((.int (-1)) = xv ∧ h0 = h ∧ ¬ b0 = (46 : Int32) ∧ ¬ b1 = (46 : Int32) ∧ ¬ b2 = (46 : Int32))
theorem ef_min3_3 (m : MethodId)   : entryFrame m #[(.int 3), (.int 3)] 2 = mkF m 0 #[.val (.int 3), .val (.int 3)] [] := by first | (simp [entryFrame, mkF, argsToLocals, Value.category]; done) | rfl
def Q_min3_3 (Z : State)   (h0 : Heap) (xv : Value) (h : Heap) : Prop := (.int 3) = xv ∧ h0 = h
theorem c_min3_3 (l : Launch) {Z : State} {a0 : Array Value} (G : GH Z a0)   (h0 : Heap) (O0 : Old Z Z.heap.size h0)  : Con false [] l Z (⟨"java/lang/Math", "min", "(II)I"⟩ : MethodName) jdk_29_method_69_code 2 (some .int) [] (rm4 0 0 0 0) #[(.int 3), (.int 3)] h0 [] (rvl (Q_min3_3 Z h0)) := by
  refine con_of (a0 := a0) (Jvm.Free.JP.mathPlain rfl (by decide)) (fun q => rfl) EW.nil O0 (fun m => ef_min3_3 m ) ?_
  intro p_ e_ s_ m_ below_ meth_ c_ D hml hret hlk hnm
  refine go_iload_n 1 (D d16_0) rfl rfl ?_
  refine go_iload_n 2 (D d16_1) rfl rfl ?_
  refine go_icF 5 (D d16_2) rfl (by decide) ?_
  refine go_iload_n 6 (D d16_5) rfl rfl ?_
  refine go_goto 10 (D d16_6) (by decide) rfl ?_
  refine go_ireturn hret hlk rfl (by simp) (D d16_10) (by decide) (by decide) ⟨_, rfl, ⟨rfl, rfl⟩⟩ (Keep.refl h0 [])
theorem ef_idxc3 (m : MethodId) (t : Addr)  : entryFrame m #[(.ref t), (.int 46), (.int 0), (.int 3)] 6 = mkF m 0 #[.val (.ref t), .val (.int 46), .val (.int 0), .val (.int 3), .unset, .unset] [] := by first | (simp [entryFrame, mkF, argsToLocals, Value.category]; done) | rfl
def Q_idxc3 (Z : State) (t : Addr) (k : ClassId) (b0 : Int32) (b1 : Int32) (b2 : Int32) (h0 : Heap) (xv : Value) (h : Heap) : Prop := ((.int 0) = xv ∧ h0 = h ∧ b0 = (46 : Int32)) ∨ ((.int 1) = xv ∧ h0 = h ∧ ¬ b0 = (46 : Int32) ∧ b1 = (46 : Int32)) ∨ ((.int 2) = xv ∧ h0 = h ∧ ¬ b0 = (46 : Int32) ∧ ¬ b1 = (46 : Int32) ∧ b2 = (46 : Int32)) ∨ ((.int (-1)) = xv ∧ h0 = h ∧ ¬ b0 = (46 : Int32) ∧ ¬ b1 = (46 : Int32) ∧ ¬ b2 = (46 : Int32))
theorem c_idxc3 (l : Launch) {Z : State} {a0 : Array Value} (G : GH Z a0) (t : Addr) (k : ClassId) (b0 : Int32) (b1 : Int32) (b2 : Int32) (h0 : Heap) (O0 : Old Z Z.heap.size h0) (p1 : Arv Z h0 t k (.byte) (3 : Int32) [(.int b0), (.int b1), (.int b2)] (.int 0)) : Con false [] l Z (⟨"java/lang/StringLatin1", "indexOfChar", "([BIII)I"⟩ : MethodName) jdk_43_method_23_code 6 (some .int) [] (rm4 0 0 0 0) #[(.ref t), (.int 46), (.int 0), (.int 3)] h0 [] (rvl (Q_idxc3 Z t k b0 b1 b2 h0)) := by
  refine con_of (a0 := a0) (plainFor_of_name pn2) (fun q => rfl) EW.nil O0 (fun m => ef_idxc3 m t) ?_
  intro p_ e_ s_ m_ below_ meth_ c_ D hml hret hlk hnm
  refine go_iload_n 1 (D d19_0) rfl rfl ?_
  refine go_i2b 2 (z := (46 : Int32)) (D d19_1) rfl (by decide) ?_
  refine go_istore 4 (ls' := #[vr t, vi 46, vi 0, vi 3, vi 46, un]) (D d19_2) rfl rfl ?_
  refine go_iload_n 5 (D d19_4) rfl rfl ?_
  refine go_istore 7 (ls' := #[vr t, vi 46, vi 0, vi 3, vi 46, vi 0]) (D d19_5) rfl rfl ?_
  refine go_iload 9 (D d19_7) rfl rfl ?_
  refine go_iload_n 10 (D d19_9) rfl rfl ?_
  refine go_icF 13 (D d19_10) rfl (by decide) ?_
  refine go_aload_n 14 (D d19_13) rfl rfl rfl ?_
  refine go_iload 16 (D d19_14) rfl rfl ?_
  refine go_baload 17 (i := 0) (v := (.int b0)) p1 (by decide) (by decide) rfl rfl (D d19_16) rfl ?_
  refine go_iload 19 (D d19_17) rfl rfl ?_
  by_cases cz1 : b0 = (46 : Int32)
  · refine go_icF 22 (D d19_19) rfl (XT.ii_ne_f cz1) ?_
    refine go_iload 24 (D d19_22) rfl rfl ?_
    refine go_ireturn hret hlk rfl (by simp) (D d19_24) (by decide) (by decide) ⟨_, rfl, (Or.inl ⟨rfl, rfl, cz1⟩)⟩ (Keep.refl h0 [])
  · refine go_icT 25 (D d19_19) (by decide) rfl (XT.ii_ne_t cz1) ?_
    refine go_iinc 28 (ls' := #[vr t, vi 46, vi 0, vi 3, vi 46, vi 1]) (y := (1 : Int32)) (D d19_25) rfl rfl rfl rfl ?_
    refine go_goto 7 (D d19_28) (by decide) rfl ?_
    refine go_iload 9 (D d19_7) rfl rfl ?_
    refine go_iload_n 10 (D d19_9) rfl rfl ?_
    refine go_icF 13 (D d19_10) rfl (by decide) ?_
    refine go_aload_n 14 (D d19_13) rfl rfl rfl ?_
    refine go_iload 16 (D d19_14) rfl rfl ?_
    refine go_baload 17 (i := 1) (v := (.int b1)) p1 (by decide) (by decide) rfl rfl (D d19_16) rfl ?_
    refine go_iload 19 (D d19_17) rfl rfl ?_
    by_cases cz2 : b1 = (46 : Int32)
    · refine go_icF 22 (D d19_19) rfl (XT.ii_ne_f cz2) ?_
      refine go_iload 24 (D d19_22) rfl rfl ?_
      refine go_ireturn hret hlk rfl (by simp) (D d19_24) (by decide) (by decide) ⟨_, rfl, (Or.inr (Or.inl ⟨rfl, rfl, cz1, cz2⟩))⟩ (Keep.refl h0 [])
    · refine go_icT 25 (D d19_19) (by decide) rfl (XT.ii_ne_t cz2) ?_
      refine go_iinc 28 (ls' := #[vr t, vi 46, vi 0, vi 3, vi 46, vi 2]) (y := (2 : Int32)) (D d19_25) rfl rfl rfl rfl ?_
      refine go_goto 7 (D d19_28) (by decide) rfl ?_
      refine go_iload 9 (D d19_7) rfl rfl ?_
      refine go_iload_n 10 (D d19_9) rfl rfl ?_
      refine go_icF 13 (D d19_10) rfl (by decide) ?_
      refine go_aload_n 14 (D d19_13) rfl rfl rfl ?_
      refine go_iload 16 (D d19_14) rfl rfl ?_
      refine go_baload 17 (i := 2) (v := (.int b2)) p1 (by decide) (by decide) rfl rfl (D d19_16) rfl ?_
      refine go_iload 19 (D d19_17) rfl rfl ?_
      by_cases cz3 : b2 = (46 : Int32)
      · refine go_icF 22 (D d19_19) rfl (XT.ii_ne_f cz3) ?_
        refine go_iload 24 (D d19_22) rfl rfl ?_
        refine go_ireturn hret hlk rfl (by simp) (D d19_24) (by decide) (by decide) ⟨_, rfl, (Or.inr (Or.inr (Or.inl ⟨rfl, rfl, cz1, cz2, cz3⟩)))⟩ (Keep.refl h0 [])
      · refine go_icT 25 (D d19_19) (by decide) rfl (XT.ii_ne_t cz3) ?_
        refine go_iinc 28 (ls' := #[vr t, vi 46, vi 0, vi 3, vi 46, vi 3]) (y := (3 : Int32)) (D d19_25) rfl rfl rfl rfl ?_
        refine go_goto 7 (D d19_28) (by decide) rfl ?_
        refine go_iload 9 (D d19_7) rfl rfl ?_
        refine go_iload_n 10 (D d19_9) rfl rfl ?_
        refine go_icT 31 (D d19_10) (by decide) rfl (by decide) ?_
        refine go_iconst 32 (v := (-1)) (D d19_31) rfl rfl ?_
        refine go_ireturn hret hlk rfl (by simp) (D d19_32) (by decide) (by decide) ⟨_, rfl, (Or.inr (Or.inr (Or.inr (⟨rfl, rfl, cz1, cz2, cz3⟩))))⟩ (Keep.refl h0 [])
theorem c_idxl3 (l : Launch) {Z : State} {a0 : Array Value} (G : GH Z a0) (t : Addr) (k : ClassId) (b0 : Int32) (b1 : Int32) (b2 : Int32) (h0 : Heap) (O0 : Old Z Z.heap.size h0) (p1 : Arv Z h0 t k (.byte) (3 : Int32) [(.int b0), (.int b1), (.int b2)] (.int 0)) : Con false [] l Z (⟨"java/lang/StringLatin1", "indexOf", "([BIII)I"⟩ : MethodName) jdk_43_method_22_code 4 (some .int) [] (rm4 1 0 0 17) #[(.ref t), (.int 46), (.int 0), (.int 3)] h0 [] (rvl (Q_idxl3 Z t k b0 b1 b2 h0)) := by
  refine con_of (a0 := a0) (plainFor_of_name pn2) (fun q => rfl) EW.nil O0 (fun m => ef_idxl3 m t) ?_
  intro p_ e_ s_ m_ below_ meth_ c_ D hml hret hlk hnm
  refine go_iload_n 1 (D d14_0) rfl rfl ?_
  refine callS0 (cells' := 0) (slots' := 0) (Wd := 0) (argsL := [(.int 46)]) (rest := []) (pay_of (a0 := a0) (c_canenc46 l G  h0 O0 ) (wk G 62 rfl) (wk G 58 rfl) (by decide) (by decide)) (wk G 60 rfl) (wk G 61 rfl) (wk G 58 rfl) (wk G 62 rfl) (by decide) pd7 rfl rfl (by rw [hml]; rfl) (nb rfl) rfl rfl (by decide) (by decide) all0 (fun _ _ => sf0) (D d14_1) (k_v 4 rfl ?_)
  rintro _ h1 ⟨rfl, rfl⟩ K2
  refine go_ifT 9 (D d14_4) (by decide) rfl (by decide) ?_
  refine go_iload_n 10 (D d14_9) rfl rfl ?_
  refine go_iconst 11 (v := 0) (D d14_10) rfl rfl ?_
  refine callS0 (cells' := 0) (slots' := 0) (Wd := 0) (argsL := [(.int 0), (.int 0)]) (rest := []) (pay_of (a0 := a0) (c_max0_0 l G  h0 O0 ) (wk G 66 rfl) (wk G 65 rfl) (by decide) (by decide)) (wk G 63 rfl) (wk G 64 rfl) (wk G 65 rfl) (wk G 66 rfl) (by decide) pd8 rfl rfl (by rw [hml]; rfl) (nb rfl) rfl rfl (by decide) (by decide) all0 (fun _ _ => sf0) (D d14_11) (k_v 14 rfl ?_)
  rintro _ h3 ⟨rfl, rfl⟩ K4
  refine go_istore_n 15 (ls' := #[vr t, vi 46, vi 0, vi 3]) (D d14_14) rfl rfl ?_
  refine go_iload_n 16 (D d14_15) rfl rfl ?_
  refine go_aload_n 17 (D d14_16) rfl rfl rfl ?_
  refine go_arraylength 18 p1 (D d14_17) rfl ?_
  refine callS0 (cells' := 0) (slots' := 0) (Wd := 0) (argsL := [(.int 3), (.int 3)]) (rest := []) (pay_of (a0 := a0) (c_min3_3 l G  h0 O0 ) (wk G 69 rfl) (wk G 65 rfl) (by decide) (by decide)) (wk G 67 rfl) (wk G 68 rfl) (wk G 65 rfl) (wk G 69 rfl) (by decide) pd8 rfl rfl (by rw [hml]; rfl) (nb rfl) rfl rfl (by decide) (by decide) all0 (fun _ _ => sf0) (D d14_18) (k_v 21 rfl ?_)
  rintro _ h5 ⟨rfl, rfl⟩ K6
  refine go_istore_n 22 (ls' := #[vr t, vi 46, vi 0, vi 3]) (D d14_21) rfl rfl ?_
  refine go_iload_n 23 (D d14_22) rfl rfl ?_
  refine go_iload_n 24 (D d14_23) rfl rfl ?_
  refine go_icT 29 (D d14_24) (by decide) rfl (by decide) ?_
  refine go_aload_n 30 (D d14_29) rfl rfl rfl ?_
  refine go_iload_n 31 (D d14_30) rfl rfl ?_
  refine go_iload_n 32 (D d14_31) rfl rfl ?_
  refine go_iload_n 33 (D d14_32) rfl rfl ?_
  refine callS0 (cells' := 0) (slots' := 0) (Wd := 0) (argsL := [(.ref t), (.int 46), (.int 0), (.int 3)]) (rest := []) (pay_of (a0 := a0) (c_idxc3 l G t k b0 b1 b2 h0 O0 p1) (wk G 109 rfl) (wk G 58 rfl) (by decide) (by decide)) (wk G 107 rfl) (wk G 108 rfl) (wk G 58 rfl) (wk G 109 rfl) (by decide) pd9 rfl rfl (by rw [hml]; rfl) (nb rfl) rfl rfl (by decide) (by decide) all0 (fun _ _ => sf0) (D d14_33) (k_v 36 rfl ?_)
  rintro _ h7 (⟨rfl, rfl, f9⟩ | ⟨rfl, rfl, f10, f11⟩ | ⟨rfl, rfl, f12, f13, f14⟩ | ⟨rfl, rfl, f15, f16, f17⟩) K8
  · refine go_ireturn hret hlk rfl (by simp) (D d14_36) (by decide) (by decide) ⟨_, rfl, (Or.inl ⟨rfl, rfl, f9⟩)⟩ (Keep.refl h0 [])
  · refine go_ireturn hret hlk rfl (by simp) (D d14_36) (by decide) (by decide) ⟨_, rfl, (Or.inr (Or.inl ⟨rfl, rfl, f10, f11⟩))⟩ (Keep.refl h0 [])
  · refine go_ireturn hret hlk rfl (by simp) (D d14_36) (by decide) (by decide) ⟨_, rfl, (Or.inr (Or.inr (Or.inl ⟨rfl, rfl, f12, f13, f14⟩)))⟩ (Keep.refl h0 [])
  · refine go_ireturn hret hlk rfl (by simp) (D d14_36) (by decide) (by decide) ⟨_, rfl, (Or.inr (Or.inr (Or.inr (⟨rfl, rfl, f15, f16, f17⟩))))⟩ (Keep.refl h0 [])
theorem c_idxs3 (l : Launch) {Z : State} {a0 : Array Value} (G : GH Z a0) (a : Addr) (c0 : Int32) (c1 : Int32) (c2 : Int32) (h0 : Heap) (O0 : Old Z Z.heap.size h0) (p1 : Str Z h0 a [c0, c1, c2]) : Con false [] l Z (⟨"java/lang/String", "indexOf", "(II)I"⟩ : MethodName) jdk_42_method_80_code 3 (some .int) [] (rm4 2 0 0 32) #[(.ref a), (.int 46), (.int 0)] h0 [] (rvl (Q_idxs3 Z a c0 c1 c2 h0)) := by
  refine con_of (a0 := a0) (plainFor_of_name pn1) (fun q => rfl) EW.nil O0 (fun m => ef_idxs3 m a) ?_
  intro p_ e_ s_ m_ below_ meth_ c_ D hml hret hlk hnm
  refine go_aload_n 1 (D d13_0) rfl rfl rfl ?_
  obtain ⟨t1, k2, E3, F4, F5, A6, B7, L8⟩ := id p1
  refine callV0 (cells' := 0) (slots' := 0) (Wd := 0) (argsL := []) (rest := []) (pay_of (a0 := a0) (c_islatin l G a h0 O0 F5) (wk G 44 rfl) (wk G 7 rfl) (by decide) (by decide)) E3 (wk G 40 rfl) (wk G 41 rfl) (wk G 43 rfl) (wk G 43 rfl) (wk G 42 rfl) (by decide) pd5 rfl rfl (by rw [hml]; rfl) (nb rfl) rfl rfl (by decide) (by decide) all0 (fun _ _ => sf0) (D d13_1) (k_v 4 rfl ?_)
  rintro _ h9 ⟨rfl, rfl⟩ K10
  refine go_ifF 7 (D d13_4) rfl (by decide) ?_
  refine go_aload_n 8 (D d13_7) rfl rfl rfl ?_
  refine go_getF 11 (wk G 24 rfl) Via.refl F4 (D d13_8) rfl ?_
  refine go_iload_n 12 (D d13_11) rfl rfl ?_
  refine go_iload_n 13 (D d13_12) rfl rfl ?_
  refine go_aload_n 14 (D d13_13) rfl rfl rfl ?_
  refine callV0 (cells' := 0) (slots' := 0) (Wd := 3) (argsL := []) (rest := [(.int 0), (.int 46), (.ref t1)]) (pay_len G O0 (n := (3 : Int32)) p1 rfl (by decide) (by decide)) E3 (wk G 46 rfl) (wk G 47 rfl) (wk G 49 rfl) (wk G 49 rfl) (wk G 48 rfl) (by decide) pd6 rfl rfl (by rw [hml]; rfl) (nb rfl) rfl rfl (by decide) (by decide) all0 (fun _ _ => sf0) (D d13_14) (k_v 17 rfl ?_)
  rintro _ _ ⟨rfl, rfl⟩ -
  refine callS0 (cells' := 0) (slots' := 0) (Wd := 0) (argsL := [(.ref t1), (.int 46), (.int 0), (.int 3)]) (rest := []) (pay_of (a0 := a0) (c_idxl3 l G t1 k2 ((c0).toInt8.toInt32) ((c1).toInt8.toInt32) ((c2).toInt8.toInt32) h0 O0 A6) (wk G 59 rfl) (wk G 58 rfl) (by decide) (by decide)) (wk G 56 rfl) (wk G 57 rfl) (wk G 58 rfl) (wk G 59 rfl) (by decide) pd9 rfl rfl (by rw [hml]; rfl) (nb rfl) rfl rfl (by decide) (by decide) all0 (fun _ _ => sf0) (D d13_17) (k_v 20 rfl ?_)
  rintro _ h11 (⟨rfl, rfl, f13⟩ | ⟨rfl, rfl, f14, f15⟩ | ⟨rfl, rfl, f16, f17, f18⟩ | ⟨rfl, rfl, f19, f20, f21⟩) K12
  · refine go_goto 36 (D d13_20) (by decide) rfl ?_
    refine go_ireturn hret hlk rfl (by simp) (D d13_36) (by decide) (by decide) ⟨_, rfl, (Or.inl ⟨rfl, rfl, ((b46 (by obtain ⟨_, _, _, _, _, _, q, _⟩ := id p1; exact q _ (by simp) : C8 c0)).mp f13)⟩)⟩ (Keep.refl h0 [])
  · refine go_goto 36 (D d13_20) (by decide) rfl ?_
    refine go_ireturn hret hlk rfl (by simp) (D d13_36) (by decide) (by decide) ⟨_, rfl, (Or.inr (Or.inl ⟨rfl, rfl, (fun z => f14 ((b46 (by obtain ⟨_, _, _, _, _, _, q, _⟩ := id p1; exact q _ (by simp) : C8 c0)).mpr z)), ((b46 (by obtain ⟨_, _, _, _, _, _, q, _⟩ := id p1; exact q _ (by simp) : C8 c1)).mp f15)⟩))⟩ (Keep.refl h0 [])
  · refine go_goto 36 (D d13_20) (by decide) rfl ?_
    refine go_ireturn hret hlk rfl (by simp) (D d13_36) (by decide) (by decide) ⟨_, rfl, (Or.inr (Or.inr (Or.inl ⟨rfl, rfl, (fun z => f16 ((b46 (by obtain ⟨_, _, _, _, _, _, q, _⟩ := id p1; exact q _ (by simp) : C8 c0)).mpr z)), (fun z => f17 ((b46 (by obtain ⟨_, _, _, _, _, _, q, _⟩ := id p1; exact q _ (by simp) : C8 c1)).mpr z)), ((b46 (by obtain ⟨_, _, _, _, _, _, q, _⟩ := id p1; exact q _ (by simp) : C8 c2)).mp f18)⟩)))⟩ (Keep.refl h0 [])
  · refine go_goto 36 (D d13_20) (by decide) rfl ?_
    refine go_ireturn hret hlk rfl (by simp) (D d13_36) (by decide) (by decide) ⟨_, rfl, (Or.inr (Or.inr (Or.inr (⟨rfl, rfl, (fun z => f19 ((b46 (by obtain ⟨_, _, _, _, _, _, q, _⟩ := id p1; exact q _ (by simp) : C8 c0)).mpr z)), (fun z => f20 ((b46 (by obtain ⟨_, _, _, _, _, _, q, _⟩ := id p1; exact q _ (by simp) : C8 c1)).mpr z)), (fun z => f21 ((b46 (by obtain ⟨_, _, _, _, _, _, q, _⟩ := id p1; exact q _ (by simp) : C8 c2)).mpr z))⟩))))⟩ (Keep.refl h0 [])
theorem c_idx3 (l : Launch) {Z : State} {a0 : Array Value} (G : GH Z a0) (a : Addr) (c0 : Int32) (c1 : Int32) (c2 : Int32) (h0 : Heap) (O0 : Old Z Z.heap.size h0) (p1 : Str Z h0 a [c0, c1, c2]) : Con false [] l Z (⟨"java/lang/String", "indexOf", "(I)I"⟩ : MethodName) jdk_42_method_79_code 2 (some .int) [] (rm4 3 0 0 46) #[(.ref a), (.int 46)] h0 [] (rvl (Q_idx3 Z a c0 c1 c2 h0)) := by
  refine con_of (a0 := a0) (plainFor_of_name pn1) (fun q => rfl) EW.nil O0 (fun m => ef_idx3 m a) ?_
  intro p_ e_ s_ m_ below_ meth_ c_ D hml hret hlk hnm
  refine go_aload_n 1 (D d12_0) rfl rfl rfl ?_
  refine go_iload_n 2 (D d12_1) rfl rfl ?_
  refine go_iconst 3 (v := 0) (D d12_2) rfl rfl ?_
  refine callV0 (cells' := 0) (slots' := 0) (Wd := 0) (argsL := [(.int 46), (.int 0)]) (rest := []) (pay_of (a0 := a0) (c_idxs3 l G a c0 c1 c2 h0 O0 p1) (wk G 39 rfl) (wk G 7 rfl) (by decide) (by decide)) p1.exa (wk G 35 rfl) (wk G 36 rfl) (wk G 38 rfl) (wk G 38 rfl) (wk G 37 rfl) (by decide) pd8 rfl rfl (by rw [hml]; rfl) (nb rfl) rfl rfl (by decide) (by decide) all0 (fun _ _ => sf0) (D d12_3) (k_v 6 rfl ?_)
  rintro _ h1 (⟨rfl, rfl, f3⟩ | ⟨rfl, rfl, f4, f5⟩ | ⟨rfl, rfl, f6, f7, f8⟩ | ⟨rfl, rfl, f9, f10, f11⟩) K2
  · refine go_ireturn hret hlk rfl (by simp) (D d12_6) (by decide) (by decide) ⟨_, rfl, (Or.inl ⟨rfl, rfl, f3⟩)⟩ (Keep.refl h0 [])
  · refine go_ireturn hret hlk rfl (by simp) (D d12_6) (by decide) (by decide) ⟨_, rfl, (Or.inr (Or.inl ⟨rfl, rfl, f4, f5⟩))⟩ (Keep.refl h0 [])
  · refine go_ireturn hret hlk rfl (by simp) (D d12_6) (by decide) (by decide) ⟨_, rfl, (Or.inr (Or.inr (Or.inl ⟨rfl, rfl, f6, f7, f8⟩)))⟩ (Keep.refl h0 [])
  · refine go_ireturn hret hlk rfl (by simp) (D d12_6) (by decide) (by decide) ⟨_, rfl, (Or.inr (Or.inr (Or.inr (⟨rfl, rfl, f9, f10, f11⟩))))⟩ (Keep.refl h0 [])
theorem ef_subi1_3 (m : MethodId) (a : Addr)  : entryFrame m #[(.ref a), (.int 1)] 2 = mkF m 0 #[.val (.ref a), .val (.int 1)] [] := by first | (simp [entryFrame, mkF, argsToLocals, Value.category]; done) | rfl
def Q_subi1_3 (Z : State) (a : Addr) (c0 : Int32) (c1 : Int32) (c2 : Int32) (h0 : Heap) (xv : Value) (h : Heap) : Prop := ∃ (r : Addr), (.ref r) = xv ∧ Str Z h r [c1, c2]
theorem ef_sub1_3_3 (m : MethodId) (a : Addr)  : entryFrame m #[(.ref a), (.int 1), (.int 3)] 5 = mkF m 0 #[.val (.ref a), .val (.int 1), .val (.int 3), .unset, .unset] [] := by first | (simp [entryFrame, mkF, argsToLocals, Value.category]; done) | rfl
def Q_sub1_3_3 (Z : State) (a : Addr) (c0 : Int32) (c1 : Int32) (c2 : Int32) (h0 : Heap) (xv : Value) (h : Heap) : Prop := ∃ (r : Addr), (.ref r) = xv ∧ Str Z h r [c1, c2]
theorem ef_news1_2_3 (m : MethodId) (t : Addr)  : entryFrame m #[(.ref t), (.int 1), (.int 2)] 3 = mkF m 0 #[.val (.ref t), .val (.int 1), .val (.int 2)] [] := by first | (simp [entryFrame, mkF, argsToLocals, Value.category]; done) | rfl
def Q_news1_2_3 (Z : State) (t : Addr) (k : ClassId) (c0 : Int32) (c1 : Int32) (c2 : Int32) (h0 : Heap) (xv : Value) (h : Heap) : Prop := ∃ (r : Addr), (.ref r) = xv ∧ Str Z h r [c1, c2]
theorem ef_cor1_3_3 (m : MethodId) (t : Addr)  : entryFrame m #[(.ref t), (.int 1), (.int 3)] 3 = mkF m 0 #[.val (.ref t), .val (.int 1), .val (.int 3)] [] := by first | (simp [entryFrame, mkF, argsToLocals, Value.category]; done) | rfl
def Q_cor1_3_3 (Z : State) (t : Addr) (k : ClassId) (b0 : Int32) (b1 : Int32) (b2 : Int32) (h0 : Heap) (xv : Value) (h : Heap) : Prop := ∃ (r : Addr) (k2 : ClassId), (.ref r) = xv ∧ h0.size ≤ r ∧ Arv Z h r k2 (.byte) (2 : Int32) [(.int b1), (.int b2)] (.int 0)
theorem ef_corb1_3_3 (m : MethodId) (t : Addr)  : entryFrame m #[(.ref t), (.int 1), (.int 3)] 5 = mkF m 0 #[.val (.ref t), .val (.int 1), .val (.int 3), .unset, .unset] [] := by first | (simp [entryFrame, mkF, argsToLocals, Value.category]; done) | rfl
def Q_corb1_3_3 (Z : State) (t : Addr) (k : ClassId) (b0 : Int32) (b1 : Int32) (b2 : Int32) (h0 : Heap) (xv : Value) (h : Heap) : Prop := ∃ (r : Addr) (k2 : ClassId), (.ref r) = xv ∧ h0.size ≤ r ∧ Arv Z h r k2 (.byte) (2 : Int32) [(.int b1), (.int b2)] (.int 0)
theorem c_corb1_3_3 (l : Launch) {Z : State} {a0 : Array Value} (G : GH Z a0) (t : Addr) (k : ClassId) (b0 : Int32) (b1 : Int32) (b2 : Int32) (h0 : Heap) (O0 : Old Z Z.heap.size h0) (p1 : Arv Z h0 t k (.byte) (3 : Int32) [(.int b0), (.int b1), (.int b2)] (.int 0)) : Con false [] l Z (⟨"java/util/Arrays", "copyOfRangeByte", "([BII)[B"⟩ : MethodName) jdk_65_method_133_code 5 (some (.array .byte)) [] (rm4 1 1 2 18) #[(.ref t), (.int 1), (.int 3)] h0 [] (rvl (Q_corb1_3_3 Z t k b0 b1 b2 h0)) := by
  refine con_of (a0 := a0) (plainFor_of_name pn4) (fun q => rfl) EW.nil O0 (fun m => ef_corb1_3_3 m t) ?_
  intro p_ e_ s_ m_ below_ meth_ c_ D hml hret hlk hnm
  refine go_iload_n 1 (D d22_0) rfl rfl ?_
  refine go_iload_n 2 (D d22_1) rfl rfl ?_
  refine callS0 (cells' := 0) (slots' := 0) (Wd := 0) (argsL := [(.int 1), (.int 3)]) (rest := []) (pay_of (a0 := a0) (c_chkl l G (1 : Int32) (3 : Int32) h0 O0 (by decide)) (wk G 123 rfl) (wk G 116 rfl) (by decide) (by decide)) (wk G 121 rfl) (wk G 122 rfl) (wk G 116 rfl) (wk G 123 rfl) (by decide) pd17 rfl rfl (by rw [hml]; rfl) (nb rfl) rfl rfl (by decide) (by decide) all0 (fun _ _ => sf0) (D d22_2) (k_n 5 rfl ?_)
  rintro  h1 rfl K2
  refine go_iload_n 6 (D d22_5) rfl rfl ?_
  refine go_iload_n 7 (D d22_6) rfl rfl ?_
  refine go_isub 8 (z := (2 : Int32)) (D d22_7) rfl (by decide) ?_
  refine go_istore_n 9 (ls' := #[vr t, vi 1, vi 3, vi 2, un]) (D d22_8) rfl rfl ?_
  refine go_iload_n 10 (D d22_9) rfl rfl ?_
  refine go_newP 12 (cells' := 1) (slots' := 2) (cap := 2) (vs := [(.int 0), (.int 0)]) (ty := .byte) (dv := .int 0) (wk G 19 rfl) rfl rfl (D d22_10) rfl (by decide) rfl (by decide) rfl rfl rfl (by decide) (by decide) (fun h3 a4 k8 g5 X6 A7 => ?_)
  refine go_astore 14 (ls' := #[vr t, vi 1, vi 3, vi 2, vr a4]) (D d22_12) rfl rfl rfl ?_
  refine go_aload_n 15 (D d22_14) rfl rfl rfl ?_
  refine go_iload_n 16 (D d22_15) rfl rfl ?_
  refine go_aload 18 (D d22_16) rfl rfl rfl ?_
  refine go_iconst 19 (v := 0) (D d22_18) rfl rfl ?_
  refine go_aload_n 20 (D d22_19) rfl rfl rfl ?_
  have K9 : Keep h0 h3 [] := ((Keep.refl h0 []).ext X6)
  have A10 := (p1.keep K9 nin0)
  refine go_arraylength 21 A10 (D d22_20) rfl ?_
  refine go_iload_n 22 (D d22_21) rfl rfl ?_
  refine go_isub 23 (z := (2 : Int32)) (D d22_22) rfl (by decide) ?_
  refine go_iload_n 24 (D d22_23) rfl rfl ?_
  refine go_old (fun O11 => ?_)
  refine callS0 (cells' := 1) (slots' := 2) (Wd := 4) (argsL := [(.int 2), (.int 2)]) (rest := [(.int 0), (.ref a4), (.int 1), (.ref t)]) (pay_of (a0 := a0) (c_min2_2 l G  h3 O11 ) (wk G 69 rfl) (wk G 65 rfl) (by decide) (by decide)) (wk G 124 rfl) (wk G 68 rfl) (wk G 65 rfl) (wk G 69 rfl) (by decide) pd8 rfl rfl (by rw [hml]; rfl) (nb rfl) rfl rfl (by decide) (by decide) all0 (fun _ _ => sf0) (D d22_24) (k_v 27 rfl ?_)
  rintro _ h12 ⟨rfl, rfl⟩ K13
  refine go_acopy 30 (Wd := 0) (vd' := [(.int b1), (.int b2)]) (wk G 125 rfl) (wk G 128 rfl) (wk G 126 rfl) (wk G 127 rfl) rfl A10 A7 rfl (by decide) (by decide) (by decide) (nb rfl) (nb rfl) (nb rfl) (Nat.le_trans O0.2.1 (Nat.le_of_eq g5)) rfl (by rw [hml]; rfl) (by decide) (by decide) (by decide) (D d22_27) rfl (fun h14 K15 A16 => ?_)
  refine go_aload 32 (D d22_30) rfl rfl rfl ?_
  have K17 : Keep h0 h14 [] := (K9.trans K15 (allS (Or.inr (Nat.le_of_eq g5)) all0))
  refine go_areturn hret hlk rfl rfl (D d22_32) (by decide) (by decide) ⟨_, rfl, ⟨a4, k8, rfl, (Nat.le_of_eq g5), A16⟩⟩ K17
theorem c_cor1_3_3 (l : Launch) {Z : State} {a0 : Array Value} (G : GH Z a0) (t : Addr) (k : ClassId) (b0 : Int32) (b1 : Int32) (b2 : Int32) (h0 : Heap) (O0 : Old Z Z.heap.size h0) (p1 : Arv Z h0 t k (.byte) (3 : Int32) [(.int b0), (.int b1), (.int b2)] (.int 0)) : Con false [] l Z (⟨"java/util/Arrays", "copyOfRange", "([BII)[B"⟩ : MethodName) jdk_65_method_132_code 3 (some (.array .byte)) [] (rm4 2 1 2 34) #[(.ref t), (.int 1), (.int 3)] h0 [] (rvl (Q_cor1_3_3 Z t k b0 b1 b2 h0)) := by
  refine con_of (a0 := a0) (plainFor_of_name pn4) (fun q => rfl) EW.nil O0 (fun m => ef_cor1_3_3 m t) ?_
  intro p_ e_ s_ m_ below_ meth_ c_ D hml hret hlk hnm
  refine go_iload_n 1 (D d21_0) rfl rfl ?_
  refine go_ifT 10 (D d21_1) (by decide) rfl (by decide) ?_
  refine go_aload_n 11 (D d21_10) rfl rfl rfl ?_
  refine go_iload_n 12 (D d21_11) rfl rfl ?_
  refine go_iload_n 13 (D d21_12) rfl rfl ?_
  refine callS0 (cells' := 1) (slots' := 2) (Wd := 0) (argsL := [(.ref t), (.int 1), (.int 3)]) (rest := []) (pay_of (a0 := a0) (c_corb1_3_3 l G t k b0 b1 b2 h0 O0 p1) (wk G 120 rfl) (wk G 116 rfl) (by decide) (by decide)) (wk G 118 rfl) (wk G 119 rfl) (wk G 116 rfl) (wk G 120 rfl) (by decide) pd18 rfl rfl (by rw [hml]; rfl) (nb rfl) rfl rfl (by decide) (by decide) all0 (fun _ _ => sf0) (D d21_13) (k_v 16 rfl ?_)
  rintro _ h1 ⟨r3, r4, rfl, f5, f6⟩ K2
  have K7 : Keep h0 h1 [] := ((Keep.refl h0 []).trans K2 all0)
  refine go_areturn hret hlk rfl rfl (D d21_16) (by decide) (by decide) ⟨_, rfl, ⟨r3, r4, rfl, f5, f6⟩⟩ K7
theorem c_news1_2_3 (l : Launch) {Z : State} {a0 : Array Value} (G : GH Z a0) (t : Addr) (k : ClassId) (c0 : Int32) (c1 : Int32) (c2 : Int32) (h0 : Heap) (O0 : Old Z Z.heap.size h0) (p1 : Arv Z h0 t k (.byte) (3 : Int32) [(.int (c0).toInt8.toInt32), (.int (c1).toInt8.toInt32), (.int (c2).toInt8.toInt32)] (.int 0)) (p2 : C8 c0) (p3 : C8 c1) (p4 : C8 c2) : Con false [] l Z (⟨"java/lang/StringLatin1", "newString", "([BII)Ljava/lang/String;"⟩ : MethodName) jdk_43_method_47_code 3 (some (.object "java/lang/String")) [] (rm4 3 2 6 50) #[(.ref t), (.int 1), (.int 2)] h0 [] (rvl (Q_news1_2_3 Z t k c0 c1 c2 h0)) := by
  refine con_of (a0 := a0) (plainFor_of_name pn2) (fun q => rfl) EW.nil O0 (fun m => ef_news1_2_3 m t) ?_
  intro p_ e_ s_ m_ below_ meth_ c_ D hml hret hlk hnm
  refine go_iload_n 1 (D d20_0) rfl rfl ?_
  refine go_ifT 7 (D d20_1) (by decide) rfl (by decide) ?_
  refine go_newO 10 (cells' := 1) (slots' := 4) (wk G 113 rfl) (wk G 6 rfl) (wk G 7 rfl) (D d20_7) rfl rfl rfl (by decide) (by decide) (fun h1 a2 g3 X4 E5 D6 U7 => ?_)
  refine go_dup 11 (D d20_10) rfl rfl ?_
  refine go_aload_n 12 (D d20_11) rfl rfl rfl ?_
  refine go_iload_n 13 (D d20_12) rfl rfl ?_
  refine go_iload_n 14 (D d20_13) rfl rfl ?_
  refine go_iload_n 15 (D d20_14) rfl rfl ?_
  refine go_iadd 16 (z := (3 : Int32)) (D d20_15) rfl (by decide) ?_
  have K8 : Keep h0 h1 [] := ((Keep.refl h0 []).ext X4)
  have A9 := (p1.keep K8 nin0)
  refine go_old (fun O10 => ?_)
  refine callS0 (cells' := 2) (slots' := 6) (Wd := 2) (argsL := [(.ref t), (.int 1), (.int 3)]) (rest := [(.ref a2), (.ref a2)]) (pay_of (a0 := a0) (c_cor1_3_3 l G t k ((c0).toInt8.toInt32) ((c1).toInt8.toInt32) ((c2).toInt8.toInt32) h1 O10 A9) (wk G 117 rfl) (wk G 116 rfl) (by decide) (by decide)) (wk G 114 rfl) (wk G 115 rfl) (wk G 116 rfl) (wk G 117 rfl) (by decide) pd18 rfl rfl (by rw [hml]; rfl) (nb rfl) rfl rfl (by decide) (by decide) all0 (fun _ _ => sf0) (D d20_16) (k_v 19 rfl ?_)
  rintro _ h11 ⟨r13, r14, rfl, f15, f16⟩ K12
  refine go_iconst 20 (v := 0) (D d20_19) rfl rfl ?_
  have K17 : Keep h1 h11 [] := ((Keep.refl h1 []).trans K12 all0)
  have E18 := (E5.keep K17)
  have F19 := D6 (Or.inr (wk G 20 rfl)) (ty := (.array .byte)) (by decide)
  have F20 := (F19.keep K17 nin0)
  have F21 := D6 (Or.inr (wk G 21 rfl)) (ty := .byte) (by decide)
  have F22 := (F21.keep K17 nin0)
  refine go_old (fun O23 => ?_)
  refine callI0 (cells' := 2) (slots' := 6) (Wd := 1) (argsL := [(.ref r13), (.int 0)]) (rest := [(.ref a2)]) (pay_of (a0 := a0) (c_strbb l G a2 r13 h11 O23 E18 (Nat.le_trans O0.2.1 (Nat.le_of_eq g3)) F20 F22) (wk G 131 rfl) (wk G 7 rfl) (by decide) (by decide)) rfl (wk G 129 rfl) (wk G 130 rfl) (wk G 131 rfl) (by decide) pd19 rfl rfl (by rw [hml]; rfl) (nb rfl) rfl rfl (by decide) (by decide) (allS (Nat.le_trans O0.2.1 (Nat.le_of_eq g3)) all0) (fun _ hal => (sfS safe_nil sf0)) (D d20_20) (k_n 23 rfl ?_)
  rintro  h24 ⟨f26, f27⟩ K25
  have K28 : Keep h0 h11 [] := (K8.trans K12 all0)
  have K29 : Keep h0 h24 [] := (K28.trans K25 (allS (Or.inr (Nat.le_of_eq g3)) all0))
  have E30 := (E18.keep K25)
  have A31 := (f16.keep K25 (ninS (Nat.ne_of_gt (Nat.lt_of_lt_of_le E5.lt f15)) nin0))
  have S32 : Str Z h24 a2 [c1, c2] := ⟨r13, r14, E30, f26, f27, A31, (c8c p3 (c8c p4 c8n)), Nat.le_of_ble_eq_true rfl⟩
  refine go_areturn hret hlk rfl rfl (D d20_23) (by decide) (by decide) ⟨_, rfl, ⟨a2, rfl, S32⟩⟩ K29
theorem c_sub1_3_3 (l : Launch) {Z : State} {a0 : Array Value} (G : GH Z a0) (a : Addr) (c0 : Int32) (c1 : Int32) (c2 : Int32) (h0 : Heap) (O0 : Old Z Z.heap.size h0) (p1 : Str Z h0 a [c0, c1, c2]) : Con false [] l Z (⟨"java/lang/String", "substring", "(II)Ljava/lang/String;"⟩ : MethodName) jdk_42_method_92_code 5 (some (.object "java/lang/String")) [] (rm4 4 2 6 64) #[(.ref a), (.int 1), (.int 3)] h0 [] (rvl (Q_sub1_3_3 Z a c0 c1 c2 h0)) := by
  refine con_of (a0 := a0) (plainFor_of_name pn1) (fun q => rfl) EW.nil O0 (fun m => ef_sub1_3_3 m a) ?_
  intro p_ e_ s_ m_ below_ meth_ c_ D hml hret hlk hnm
  have q1 : C8 c0 := by obtain ⟨_, _, _, _, _, _, q, _⟩ := id p1; exact q _ (by simp)
  have q2 : C8 c1 := by obtain ⟨_, _, _, _, _, _, q, _⟩ := id p1; exact q _ (by simp)
  have q3 : C8 c2 := by obtain ⟨_, _, _, _, _, _, q, _⟩ := id p1; exact q _ (by simp)
  refine go_aload_n 1 (D d18_0) rfl rfl rfl ?_
  refine callV0 (cells' := 0) (slots' := 0) (Wd := 0) (argsL := []) (rest := []) (pay_len G O0 (n := (3 : Int32)) p1 rfl (by decide) (by decide)) p1.exa (wk G 46 rfl) (wk G 47 rfl) (wk G 49 rfl) (wk G 49 rfl) (wk G 48 rfl) (by decide) pd6 rfl rfl (by rw [hml]; rfl) (nb rfl) rfl rfl (by decide) (by decide) all0 (fun _ _ => sf0) (D d18_1) (k_v 4 rfl ?_)
  rintro _ _ ⟨rfl, rfl⟩ -
  refine go_istore_n 5 (ls' := #[vr a, vi 1, vi 3, vi 3, un]) (D d18_4) rfl rfl ?_
  refine go_iload_n 6 (D d18_5) rfl rfl ?_
  refine go_iload_n 7 (D d18_6) rfl rfl ?_
  refine go_iload_n 8 (D d18_7) rfl rfl ?_
  refine callS0 (cells' := 0) (slots' := 0) (Wd := 0) (argsL := [(.int 1), (.int 3), (.int 3)]) (rest := []) (pay_of (a0 := a0) (c_cbbe l G (1 : Int32) (3 : Int32) (3 : Int32) h0 O0 (by decide) (by decide) (by decide)) (wk G 82 rfl) (wk G 7 rfl) (by decide) (by decide)) (wk G 80 rfl) (wk G 81 rfl) (wk G 7 rfl) (wk G 82 rfl) (by decide) pd11 rfl rfl (by rw [hml]; rfl) (nb rfl) rfl rfl (by decide) (by decide) all0 (fun _ _ => sf0) (D d18_8) (k_n 11 rfl ?_)
  rintro  h4 rfl K5
  refine go_iload_n 12 (D d18_11) rfl rfl ?_
  refine go_ifT 22 (D d18_12) (by decide) rfl (by decide) ?_
  refine go_iload_n 23 (D d18_22) rfl rfl ?_
  refine go_iload_n 24 (D d18_23) rfl rfl ?_
  refine go_isub 25 (z := (2 : Int32)) (D d18_24) rfl (by decide) ?_
  refine go_istore 27 (ls' := #[vr a, vi 1, vi 3, vi 3, vi 2]) (D d18_25) rfl rfl ?_
  refine go_aload_n 28 (D d18_27) rfl rfl rfl ?_
  obtain ⟨t6, k7, E8, F9, F10, A11, B12, L13⟩ := id p1
  refine callV0 (cells' := 0) (slots' := 0) (Wd := 0) (argsL := []) (rest := []) (pay_of (a0 := a0) (c_islatin l G a h0 O0 F10) (wk G 44 rfl) (wk G 7 rfl) (by decide) (by decide)) E8 (wk G 40 rfl) (wk G 41 rfl) (wk G 43 rfl) (wk G 43 rfl) (wk G 42 rfl) (by decide) pd5 rfl rfl (by rw [hml]; rfl) (nb rfl) rfl rfl (by decide) (by decide) all0 (fun _ _ => sf0) (D d18_28) (k_v 31 rfl ?_)
  rintro _ h14 ⟨rfl, rfl⟩ K15
  refine go_ifF 34 (D d18_31) rfl (by decide) ?_
  refine go_aload_n 35 (D d18_34) rfl rfl rfl ?_
  refine go_getF 38 (wk G 24 rfl) Via.refl F9 (D d18_35) rfl ?_
  refine go_iload_n 39 (D d18_38) rfl rfl ?_
  refine go_iload 41 (D d18_39) rfl rfl ?_
  refine callS0 (cells' := 2) (slots' := 6) (Wd := 0) (argsL := [(.ref t6), (.int 1), (.int 2)]) (rest := []) (pay_of (a0 := a0) (c_news1_2_3 l G t6 k7 c0 c1 c2 h0 O0 A11 q1 q2 q3) (wk G 112 rfl) (wk G 58 rfl) (by decide) (by decide)) (wk G 110 rfl) (wk G 111 rfl) (wk G 58 rfl) (wk G 112 rfl) (by decide) pd16 rfl rfl (by rw [hml]; rfl) (nb rfl) rfl rfl (by decide) (by decide) all0 (fun _ _ => sf0) (D d18_41) (k_v 44 rfl ?_)
  rintro _ h16 ⟨r18, rfl, f19⟩ K17
  refine go_goto 57 (D d18_44) (by decide) rfl ?_
  have K20 : Keep h0 h16 [] := ((Keep.refl h0 []).trans K17 all0)
  refine go_areturn hret hlk rfl rfl (D d18_57) (by decide) (by decide) ⟨_, rfl, ⟨r18, rfl, f19⟩⟩ K20
theorem c_subi1_3 (l : Launch) {Z : State} {a0 : Array Value} (G : GH Z a0) (a : Addr) (c0 : Int32) (c1 : Int32) (c2 : Int32) (h0 : Heap) (O0 : Old Z Z.heap.size h0) (p1 : Str Z h0 a [c0, c1, c2]) : Con false [] l Z (⟨"java/lang/String", "substring", "(I)Ljava/lang/String;"⟩ : MethodName) jdk_42_method_91_code 2 (some (.object "java/lang/String")) [] (rm4 5 2 6 80) #[(.ref a), (.int 1)] h0 [] (rvl (Q_subi1_3 Z a c0 c1 c2 h0)) := by
  refine con_of (a0 := a0) (plainFor_of_name pn1) (fun q => rfl) EW.nil O0 (fun m => ef_subi1_3 m a) ?_
  intro p_ e_ s_ m_ below_ meth_ c_ D hml hret hlk hnm
  have q1 : C8 c0 := by obtain ⟨_, _, _, _, _, _, q, _⟩ := id p1; exact q _ (by simp)
  have q2 : C8 c1 := by obtain ⟨_, _, _, _, _, _, q, _⟩ := id p1; exact q _ (by simp)
  have q3 : C8 c2 := by obtain ⟨_, _, _, _, _, _, q, _⟩ := id p1; exact q _ (by simp)
  refine go_aload_n 1 (D d17_0) rfl rfl rfl ?_
  refine go_iload_n 2 (D d17_1) rfl rfl ?_
  refine go_aload_n 3 (D d17_2) rfl rfl rfl ?_
  refine callV0 (cells' := 0) (slots' := 0) (Wd := 2) (argsL := []) (rest := [(.int 1), (.ref a)]) (pay_len G O0 (n := (3 : Int32)) p1 rfl (by decide) (by decide)) p1.exa (wk G 46 rfl) (wk G 47 rfl) (wk G 49 rfl) (wk G 49 rfl) (wk G 48 rfl) (by decide) pd6 rfl rfl (by rw [hml]; rfl) (nb rfl) rfl rfl (by decide) (by decide) all0 (fun _ _ => sf0) (D d17_3) (k_v 6 rfl ?_)
  rintro _ _ ⟨rfl, rfl⟩ -
  refine callV0 (cells' := 2) (slots' := 6) (Wd := 0) (argsL := [(.int 1), (.int 3)]) (rest := []) (pay_of (a0 := a0) (c_sub1_3_3 l G a c0 c1 c2 h0 O0 p1) (wk G 79 rfl) (wk G 7 rfl) (by decide) (by decide)) p1.exa (wk G 75 rfl) (wk G 76 rfl) (wk G 78 rfl) (wk G 78 rfl) (wk G 77 rfl) (by decide) pd12 rfl rfl (by rw [hml]; rfl) (nb rfl) rfl rfl (by decide) (by decide) all0 (fun _ _ => sf0) (D d17_6) (k_v 9 rfl ?_)
  rintro _ h4 ⟨r6, rfl, f7⟩ K5
  have K8 : Keep h0 h4 [] := ((Keep.refl h0 []).trans K5 all0)
  refine go_areturn hret hlk rfl rfl (D d17_9) (by decide) (by decide) ⟨_, rfl, ⟨r6, rfl, f7⟩⟩ K8
theorem ef_subi2_3 (m : MethodId) (a : Addr)  : entryFrame m #[(.ref a), (.int 2)] 2 = mkF m 0 #[.val (.ref a), .val (.int 2)] [] := by first | (simp [entryFrame, mkF, argsToLocals, Value.category]; done) | rfl
def Q_subi2_3 (Z : State) (a : Addr) (c0 : Int32) (c1 : Int32) (c2 : Int32) (h0 : Heap) (xv : Value) (h : Heap) : Prop := ∃ (r : Addr), (.ref r) = xv ∧ Str Z h r [c2]
theorem ef_sub2_3_3 (m : MethodId) (a : Addr)  : entryFrame m #[(.ref a), (.int 2), (.int 3)] 5 = mkF m 0 #[.val (.ref a), .val (.int 2), .val (.int 3), .unset, .unset] [] := by first | (simp [entryFrame, mkF, argsToLocals, Value.category]; done) | rfl
def Q_sub2_3_3 (Z : State) (a : Addr) (c0 : Int32) (c1 : Int32) (c2 : Int32) (h0 : Heap) (xv : Value) (h : Heap) : Prop := ∃ (r : Addr), (.ref r) = xv ∧ Str Z h r [c2]
theorem ef_news2_1_3 (m : MethodId) (t : Addr)  : entryFrame m #[(.ref t), (.int 2), (.int 1)] 3 = mkF m 0 #[.val (.ref t), .val (.int 2), .val (.int 1)] [] := by first | (simp [entryFrame, mkF, argsToLocals, Value.category]; done) | rfl
def Q_news2_1_3 (Z : State) (t : Addr) (k : ClassId) (c0 : Int32) (c1 : Int32) (c2 : Int32) (h0 : Heap) (xv : Value) (h : Heap) : Prop := ∃ (r : Addr), (.ref r) = xv ∧ Str Z h r [c2]
theorem ef_cor2_3_3 (m : MethodId) (t : Addr)  : entryFrame m #[(.ref t), (.int 2), (.int 3)] 3 = mkF m 0 #[.val (.ref t), .val (.int 2), .val (.int 3)] [] := by first | (simp [entryFrame, mkF, argsToLocals, Value.category]; done) | rfl
def Q_cor2_3_3 (Z : State) (t : Addr) (k : ClassId) (b0 : Int32) (b1 : Int32) (b2 : Int32) (h0 : Heap) (xv : Value) (h : Heap) : Prop := ∃ (r : Addr) (k2 : ClassId), (.ref r) = xv ∧ h0.size ≤ r ∧ Arv Z h r k2 (.byte) (1 : Int32) [(.int b2)] (.int 0)
theorem ef_corb2_3_3 (m : MethodId) (t : Addr)  : entryFrame m #[(.ref t), (.int 2), (.int 3)] 5 = mkF m 0 #[.val (.ref t), .val (.int 2), .val (.int 3), .unset, .unset] [] := by first | (simp [entryFrame, mkF, argsToLocals, Value.category]; done) | rfl
def Q_corb2_3_3 (Z : State) (t : Addr) (k : ClassId) (b0 : Int32) (b1 : Int32) (b2 : Int32) (h0 : Heap) (xv : Value) (h : Heap) : Prop := ∃ (r : Addr) (k2 : ClassId), (.ref r) = xv ∧ h0.size ≤ r ∧ Arv Z h r k2 (.byte) (1 : Int32) [(.int b2)] (.int 0)
theorem c_corb2_3_3 (l : Launch) {Z : State} {a0 : Array Value} (G : GH Z a0) (t : Addr) (k : ClassId) (b0 : Int32) (b1 : Int32) (b2 : Int32) (h0 : Heap) (O0 : Old Z Z.heap.size h0) (p1 : Arv Z h0 t k (.byte) (3 : Int32) [(.int b0), (.int b1), (.int b2)] (.int 0)) : Con false [] l Z (⟨"java/util/Arrays", "copyOfRangeByte", "([BII)[B"⟩ : MethodName) jdk_65_method_133_code 5 (some (.array .byte)) [] (rm4 1 1 1 18) #[(.ref t), (.int 2), (.int 3)] h0 [] (rvl (Q_corb2_3_3 Z t k b0 b1 b2 h0)) := by
  refine con_of (a0 := a0) (plainFor_of_name pn4) (fun q => rfl) EW.nil O0 (fun m => ef_corb2_3_3 m t) ?_
  intro p_ e_ s_ m_ below_ meth_ c_ D hml hret hlk hnm
  refine go_iload_n 1 (D d22_0) rfl rfl ?_
  refine go_iload_n 2 (D d22_1) rfl rfl ?_
  refine callS0 (cells' := 0) (slots' := 0) (Wd := 0) (argsL := [(.int 2), (.int 3)]) (rest := []) (pay_of (a0 := a0) (c_chkl l G (2 : Int32) (3 : Int32) h0 O0 (by decide)) (wk G 123 rfl) (wk G 116 rfl) (by decide) (by decide)) (wk G 121 rfl) (wk G 122 rfl) (wk G 116 rfl) (wk G 123 rfl) (by decide) pd17 rfl rfl (by rw [hml]; rfl) (nb rfl) rfl rfl (by decide) (by decide) all0 (fun _ _ => sf0) (D d22_2) (k_n 5 rfl ?_)
  rintro  h1 rfl K2
  refine go_iload_n 6 (D d22_5) rfl rfl ?_
  refine go_iload_n 7 (D d22_6) rfl rfl ?_
  refine go_isub 8 (z := (1 : Int32)) (D d22_7) rfl (by decide) ?_
  refine go_istore_n 9 (ls' := #[vr t, vi 2, vi 3, vi 1, un]) (D d22_8) rfl rfl ?_
  refine go_iload_n 10 (D d22_9) rfl rfl ?_
  refine go_newP 12 (cells' := 1) (slots' := 1) (cap := 1) (vs := [(.int 0)]) (ty := .byte) (dv := .int 0) (wk G 19 rfl) rfl rfl (D d22_10) rfl (by decide) rfl (by decide) rfl rfl rfl (by decide) (by decide) (fun h3 a4 k8 g5 X6 A7 => ?_)
  refine go_astore 14 (ls' := #[vr t, vi 2, vi 3, vi 1, vr a4]) (D d22_12) rfl rfl rfl ?_
  refine go_aload_n 15 (D d22_14) rfl rfl rfl ?_
  refine go_iload_n 16 (D d22_15) rfl rfl ?_
  refine go_aload 18 (D d22_16) rfl rfl rfl ?_
  refine go_iconst 19 (v := 0) (D d22_18) rfl rfl ?_
  refine go_aload_n 20 (D d22_19) rfl rfl rfl ?_
  have K9 : Keep h0 h3 [] := ((Keep.refl h0 []).ext X6)
  have A10 := (p1.keep K9 nin0)
  refine go_arraylength 21 A10 (D d22_20) rfl ?_
  refine go_iload_n 22 (D d22_21) rfl rfl ?_
  refine go_isub 23 (z := (1 : Int32)) (D d22_22) rfl (by decide) ?_
  refine go_iload_n 24 (D d22_23) rfl rfl ?_
  refine go_old (fun O11 => ?_)
  refine callS0 (cells' := 1) (slots' := 1) (Wd := 4) (argsL := [(.int 1), (.int 1)]) (rest := [(.int 0), (.ref a4), (.int 2), (.ref t)]) (pay_of (a0 := a0) (c_min1_1 l G  h3 O11 ) (wk G 69 rfl) (wk G 65 rfl) (by decide) (by decide)) (wk G 124 rfl) (wk G 68 rfl) (wk G 65 rfl) (wk G 69 rfl) (by decide) pd8 rfl rfl (by rw [hml]; rfl) (nb rfl) rfl rfl (by decide) (by decide) all0 (fun _ _ => sf0) (D d22_24) (k_v 27 rfl ?_)
  rintro _ h12 ⟨rfl, rfl⟩ K13
  refine go_acopy 30 (Wd := 0) (vd' := [(.int b2)]) (wk G 125 rfl) (wk G 128 rfl) (wk G 126 rfl) (wk G 127 rfl) rfl A10 A7 rfl (by decide) (by decide) (by decide) (nb rfl) (nb rfl) (nb rfl) (Nat.le_trans O0.2.1 (Nat.le_of_eq g5)) rfl (by rw [hml]; rfl) (by decide) (by decide) (by decide) (D d22_27) rfl (fun h14 K15 A16 => ?_)
  refine go_aload 32 (D d22_30) rfl rfl rfl ?_
  have K17 : Keep h0 h14 [] := (K9.trans K15 (allS (Or.inr (Nat.le_of_eq g5)) all0))
  refine go_areturn hret hlk rfl rfl (D d22_32) (by decide) (by decide) ⟨_, rfl, ⟨a4, k8, rfl, (Nat.le_of_eq g5), A16⟩⟩ K17
theorem c_cor2_3_3 (l : Launch) {Z : State} {a0 : Array Value} (G : GH Z a0) (t : Addr) (k : ClassId) (b0 : Int32) (b1 : Int32) (b2 : Int32) (h0 : Heap) (O0 : Old Z Z.heap.size h0) (p1 : Arv Z h0 t k (.byte) (3 : Int32) [(.int b0), (.int b1), (.int b2)] (.int 0)) : Con false [] l Z (⟨"java/util/Arrays", "copyOfRange", "([BII)[B"⟩ : MethodName) jdk_65_method_132_code 3 (some (.array .byte)) [] (rm4 2 1 1 34) #[(.ref t), (.int 2), (.int 3)] h0 [] (rvl (Q_cor2_3_3 Z t k b0 b1 b2 h0)) := by
  refine con_of (a0 := a0) (plainFor_of_name pn4) (fun q => rfl) EW.nil O0 (fun m => ef_cor2_3_3 m t) ?_
  intro p_ e_ s_ m_ below_ meth_ c_ D hml hret hlk hnm
  refine go_iload_n 1 (D d21_0) rfl rfl ?_
  refine go_ifT 10 (D d21_1) (by decide) rfl (by decide) ?_
  refine go_aload_n 11 (D d21_10) rfl rfl rfl ?_
  refine go_iload_n 12 (D d21_11) rfl rfl ?_
  refine go_iload_n 13 (D d21_12) rfl rfl ?_
  refine callS0 (cells' := 1) (slots' := 1) (Wd := 0) (argsL := [(.ref t), (.int 2), (.int 3)]) (rest := []) (pay_of (a0 := a0) (c_corb2_3_3 l G t k b0 b1 b2 h0 O0 p1) (wk G 120 rfl) (wk G 116 rfl) (by decide) (by decide)) (wk G 118 rfl) (wk G 119 rfl) (wk G 116 rfl) (wk G 120 rfl) (by decide) pd18 rfl rfl (by rw [hml]; rfl) (nb rfl) rfl rfl (by decide) (by decide) all0 (fun _ _ => sf0) (D d21_13) (k_v 16 rfl ?_)
  rintro _ h1 ⟨r3, r4, rfl, f5, f6⟩ K2
  have K7 : Keep h0 h1 [] := ((Keep.refl h0 []).trans K2 all0)
  refine go_areturn hret hlk rfl rfl (D d21_16) (by decide) (by decide) ⟨_, rfl, ⟨r3, r4, rfl, f5, f6⟩⟩ K7
theorem c_news2_1_3 (l : Launch) {Z : State} {a0 : Array Value} (G : GH Z a0) (t : Addr) (k : ClassId) (c0 : Int32) (c1 : Int32) (c2 : Int32) (h0 : Heap) (O0 : Old Z Z.heap.size h0) (p1 : Arv Z h0 t k (.byte) (3 : Int32) [(.int (c0).toInt8.toInt32), (.int (c1).toInt8.toInt32), (.int (c2).toInt8.toInt32)] (.int 0)) (p2 : C8 c0) (p3 : C8 c1) (p4 : C8 c2) : Con false [] l Z (⟨"java/lang/StringLatin1", "newString", "([BII)Ljava/lang/String;"⟩ : MethodName) jdk_43_method_47_code 3 (some (.object "java/lang/String")) [] (rm4 3 2 5 50) #[(.ref t), (.int 2), (.int 1)] h0 [] (rvl (Q_news2_1_3 Z t k c0 c1 c2 h0)) := by
  refine con_of (a0 := a0) (plainFor_of_name pn2) (fun q => rfl) EW.nil O0 (fun m => ef_news2_1_3 m t) ?_
  intro p_ e_ s_ m_ below_ meth_ c_ D hml hret hlk hnm
  refine go_iload_n 1 (D d20_0) rfl rfl ?_
  refine go_ifT 7 (D d20_1) (by decide) rfl (by decide) ?_
  refine go_newO 10 (cells' := 1) (slots' := 4) (wk G 113 rfl) (wk G 6 rfl) (wk G 7 rfl) (D d20_7) rfl rfl rfl (by decide) (by decide) (fun h1 a2 g3 X4 E5 D6 U7 => ?_)
  refine go_dup 11 (D d20_10) rfl rfl ?_
  refine go_aload_n 12 (D d20_11) rfl rfl rfl ?_
  refine go_iload_n 13 (D d20_12) rfl rfl ?_
  refine go_iload_n 14 (D d20_13) rfl rfl ?_
  refine go_iload_n 15 (D d20_14) rfl rfl ?_
  refine go_iadd 16 (z := (3 : Int32)) (D d20_15) rfl (by decide) ?_
  have K8 : Keep h0 h1 [] := ((Keep.refl h0 []).ext X4)
  have A9 := (p1.keep K8 nin0)
  refine go_old (fun O10 => ?_)
  refine callS0 (cells' := 2) (slots' := 5) (Wd := 2) (argsL := [(.ref t), (.int 2), (.int 3)]) (rest := [(.ref a2), (.ref a2)]) (pay_of (a0 := a0) (c_cor2_3_3 l G t k ((c0).toInt8.toInt32) ((c1).toInt8.toInt32) ((c2).toInt8.toInt32) h1 O10 A9) (wk G 117 rfl) (wk G 116 rfl) (by decide) (by decide)) (wk G 114 rfl) (wk G 115 rfl) (wk G 116 rfl) (wk G 117 rfl) (by decide) pd18 rfl rfl (by rw [hml]; rfl) (nb rfl) rfl rfl (by decide) (by decide) all0 (fun _ _ => sf0) (D d20_16) (k_v 19 rfl ?_)
  rintro _ h11 ⟨r13, r14, rfl, f15, f16⟩ K12
  refine go_iconst 20 (v := 0) (D d20_19) rfl rfl ?_
  have K17 : Keep h1 h11 [] := ((Keep.refl h1 []).trans K12 all0)
  have E18 := (E5.keep K17)
  have F19 := D6 (Or.inr (wk G 20 rfl)) (ty := (.array .byte)) (by decide)
  have F20 := (F19.keep K17 nin0)
  have F21 := D6 (Or.inr (wk G 21 rfl)) (ty := .byte) (by decide)
  have F22 := (F21.keep K17 nin0)
  refine go_old (fun O23 => ?_)
  refine callI0 (cells' := 2) (slots' := 5) (Wd := 1) (argsL := [(.ref r13), (.int 0)]) (rest := [(.ref a2)]) (pay_of (a0 := a0) (c_strbb l G a2 r13 h11 O23 E18 (Nat.le_trans O0.2.1 (Nat.le_of_eq g3)) F20 F22) (wk G 131 rfl) (wk G 7 rfl) (by decide) (by decide)) rfl (wk G 129 rfl) (wk G 130 rfl) (wk G 131 rfl) (by decide) pd19 rfl rfl (by rw [hml]; rfl) (nb rfl) rfl rfl (by decide) (by decide) (allS (Nat.le_trans O0.2.1 (Nat.le_of_eq g3)) all0) (fun _ hal => (sfS safe_nil sf0)) (D d20_20) (k_n 23 rfl ?_)
  rintro  h24 ⟨f26, f27⟩ K25
  have K28 : Keep h0 h11 [] := (K8.trans K12 all0)
  have K29 : Keep h0 h24 [] := (K28.trans K25 (allS (Or.inr (Nat.le_of_eq g3)) all0))
  have E30 := (E18.keep K25)
  have A31 := (f16.keep K25 (ninS (Nat.ne_of_gt (Nat.lt_of_lt_of_le E5.lt f15)) nin0))
  have S32 : Str Z h24 a2 [c2] := ⟨r13, r14, E30, f26, f27, A31, (c8c p4 c8n), Nat.le_of_ble_eq_true rfl⟩
  refine go_areturn hret hlk rfl rfl (D d20_23) (by decide) (by decide) ⟨_, rfl, ⟨a2, rfl, S32⟩⟩ K29
theorem c_sub2_3_3 (l : Launch) {Z : State} {a0 : Array Value} (G : GH Z a0) (a : Addr) (c0 : Int32) (c1 : Int32) (c2 : Int32) (h0 : Heap) (O0 : Old Z Z.heap.size h0) (p1 : Str Z h0 a [c0, c1, c2]) : Con false [] l Z (⟨"java/lang/String", "substring", "(II)Ljava/lang/String;"⟩ : MethodName) jdk_42_method_92_code 5 (some (.object "java/lang/String")) [] (rm4 4 2 5 64) #[(.ref a), (.int 2), (.int 3)] h0 [] (rvl (Q_sub2_3_3 Z a c0 c1 c2 h0)) := by
  refine con_of (a0 := a0) (plainFor_of_name pn1) (fun q => rfl) EW.nil O0 (fun m => ef_sub2_3_3 m a) ?_
  intro p_ e_ s_ m_ below_ meth_ c_ D hml hret hlk hnm
  have q1 : C8 c0 := by obtain ⟨_, _, _, _, _, _, q, _⟩ := id p1; exact q _ (by simp)
  have q2 : C8 c1 := by obtain ⟨_, _, _, _, _, _, q, _⟩ := id p1; exact q _ (by simp)
  have q3 : C8 c2 := by obtain ⟨_, _, _, _, _, _, q, _⟩ := id p1; exact q _ (by simp)
  refine go_aload_n 1 (D d18_0) rfl rfl rfl ?_
  refine callV0 (cells' := 0) (slots' := 0) (Wd := 0) (argsL := []) (rest := []) (pay_len G O0 (n := (3 : Int32)) p1 rfl (by decide) (by decide)) p1.exa (wk G 46 rfl) (wk G 47 rfl) (wk G 49 rfl) (wk G 49 rfl) (wk G 48 rfl) (by decide) pd6 rfl rfl (by rw [hml]; rfl) (nb rfl) rfl rfl (by decide) (by decide) all0 (fun _ _ => sf0) (D d18_1) (k_v 4 rfl ?_)
  rintro _ _ ⟨rfl, rfl⟩ -
  refine go_istore_n 5 (ls' := #[vr a, vi 2, vi 3, vi 3, un]) (D d18_4) rfl rfl ?_
  refine go_iload_n 6 (D d18_5) rfl rfl ?_
  refine go_iload_n 7 (D d18_6) rfl rfl ?_
  refine go_iload_n 8 (D d18_7) rfl rfl ?_
  refine callS0 (cells' := 0) (slots' := 0) (Wd := 0) (argsL := [(.int 2), (.int 3), (.int 3)]) (rest := []) (pay_of (a0 := a0) (c_cbbe l G (2 : Int32) (3 : Int32) (3 : Int32) h0 O0 (by decide) (by decide) (by decide)) (wk G 82 rfl) (wk G 7 rfl) (by decide) (by decide)) (wk G 80 rfl) (wk G 81 rfl) (wk G 7 rfl) (wk G 82 rfl) (by decide) pd11 rfl rfl (by rw [hml]; rfl) (nb rfl) rfl rfl (by decide) (by decide) all0 (fun _ _ => sf0) (D d18_8) (k_n 11 rfl ?_)
  rintro  h4 rfl K5
  refine go_iload_n 12 (D d18_11) rfl rfl ?_
  refine go_ifT 22 (D d18_12) (by decide) rfl (by decide) ?_
  refine go_iload_n 23 (D d18_22) rfl rfl ?_
  refine go_iload_n 24 (D d18_23) rfl rfl ?_
  refine go_isub 25 (z := (1 : Int32)) (D d18_24) rfl (by decide) ?_
  refine go_istore 27 (ls' := #[vr a, vi 2, vi 3, vi 3, vi 1]) (D d18_25) rfl rfl ?_
  refine go_aload_n 28 (D d18_27) rfl rfl rfl ?_
  obtain ⟨t6, k7, E8, F9, F10, A11, B12, L13⟩ := id p1
  refine callV0 (cells' := 0) (slots' := 0) (Wd := 0) (argsL := []) (rest := []) (pay_of (a0 := a0) (c_islatin l G a h0 O0 F10) (wk G 44 rfl) (wk G 7 rfl) (by decide) (by decide)) E8 (wk G 40 rfl) (wk G 41 rfl) (wk G 43 rfl) (wk G 43 rfl) (wk G 42 rfl) (by decide) pd5 rfl rfl (by rw [hml]; rfl) (nb rfl) rfl rfl (by decide) (by decide) all0 (fun _ _ => sf0) (D d18_28) (k_v 31 rfl ?_)
  rintro _ h14 ⟨rfl, rfl⟩ K15
  refine go_ifF 34 (D d18_31) rfl (by decide) ?_
  refine go_aload_n 35 (D d18_34) rfl rfl rfl ?_
  refine go_getF 38 (wk G 24 rfl) Via.refl F9 (D d18_35) rfl ?_
  refine go_iload_n 39 (D d18_38) rfl rfl ?_
  refine go_iload 41 (D d18_39) rfl rfl ?_
  refine callS0 (cells' := 2) (slots' := 5) (Wd := 0) (argsL := [(.ref t6), (.int 2), (.int 1)]) (rest := []) (pay_of (a0 := a0) (c_news2_1_3 l G t6 k7 c0 c1 c2 h0 O0 A11 q1 q2 q3) (wk G 112 rfl) (wk G 58 rfl) (by decide) (by decide)) (wk G 110 rfl) (wk G 111 rfl) (wk G 58 rfl) (wk G 112 rfl) (by decide) pd16 rfl rfl (by rw [hml]; rfl) (nb rfl) rfl rfl (by decide) (by decide) all0 (fun _ _ => sf0) (D d18_41) (k_v 44 rfl ?_)
  rintro _ h16 ⟨r18, rfl, f19⟩ K17
  refine go_goto 57 (D d18_44) (by decide) rfl ?_
  have K20 : Keep h0 h16 [] := ((Keep.refl h0 []).trans K17 all0)
  refine go_areturn hret hlk rfl rfl (D d18_57) (by decide) (by decide) ⟨_, rfl, ⟨r18, rfl, f19⟩⟩ K20
theorem c_subi2_3 (l : Launch) {Z : State} {a0 : Array Value} (G : GH Z a0) (a : Addr) (c0 : Int32) (c1 : Int32) (c2 : Int32) (h0 : Heap) (O0 : Old Z Z.heap.size h0) (p1 : Str Z h0 a [c0, c1, c2]) : Con false [] l Z (⟨"java/lang/String", "substring", "(I)Ljava/lang/String;"⟩ : MethodName) jdk_42_method_91_code 2 (some (.object "java/lang/String")) [] (rm4 5 2 5 80) #[(.ref a), (.int 2)] h0 [] (rvl (Q_subi2_3 Z a c0 c1 c2 h0)) := by
  refine con_of (a0 := a0) (plainFor_of_name pn1) (fun q => rfl) EW.nil O0 (fun m => ef_subi2_3 m a) ?_
  intro p_ e_ s_ m_ below_ meth_ c_ D hml hret hlk hnm
  have q1 : C8 c0 := by obtain ⟨_, _, _, _, _, _, q, _⟩ := id p1; exact q _ (by simp)
  have q2 : C8 c1 := by obtain ⟨_, _, _, _, _, _, q, _⟩ := id p1; exact q _ (by simp)
  have q3 : C8 c2 := by obtain ⟨_, _, _, _, _, _, q, _⟩ := id p1; exact q _ (by simp)
  refine go_aload_n 1 (D d17_0) rfl rfl rfl ?_
  refine go_iload_n 2 (D d17_1) rfl rfl ?_
  refine go_aload_n 3 (D d17_2) rfl rfl rfl ?_
  refine callV0 (cells' := 0) (slots' := 0) (Wd := 2) (argsL := []) (rest := [(.int 2), (.ref a)]) (pay_len G O0 (n := (3 : Int32)) p1 rfl (by decide) (by decide)) p1.exa (wk G 46 rfl) (wk G 47 rfl) (wk G 49 rfl) (wk G 49 rfl) (wk G 48 rfl) (by decide) pd6 rfl rfl (by rw [hml]; rfl) (nb rfl) rfl rfl (by decide) (by decide) all0 (fun _ _ => sf0) (D d17_3) (k_v 6 rfl ?_)
  rintro _ _ ⟨rfl, rfl⟩ -
  refine callV0 (cells' := 2) (slots' := 5) (Wd := 0) (argsL := [(.int 2), (.int 3)]) (rest := []) (pay_of (a0 := a0) (c_sub2_3_3 l G a c0 c1 c2 h0 O0 p1) (wk G 79 rfl) (wk G 7 rfl) (by decide) (by decide)) p1.exa (wk G 75 rfl) (wk G 76 rfl) (wk G 78 rfl) (wk G 78 rfl) (wk G 77 rfl) (by decide) pd12 rfl rfl (by rw [hml]; rfl) (nb rfl) rfl rfl (by decide) (by decide) all0 (fun _ _ => sf0) (D d17_6) (k_v 9 rfl ?_)
  rintro _ h4 ⟨r6, rfl, f7⟩ K5
  have K8 : Keep h0 h4 [] := ((Keep.refl h0 []).trans K5 all0)
  refine go_areturn hret hlk rfl rfl (D d17_9) (by decide) (by decide) ⟨_, rfl, ⟨r6, rfl, f7⟩⟩ K8
theorem ef_subi3_3 (m : MethodId) (a : Addr)  : entryFrame m #[(.ref a), (.int 3)] 2 = mkF m 0 #[.val (.ref a), .val (.int 3)] [] := by first | (simp [entryFrame, mkF, argsToLocals, Value.category]; done) | rfl
def Q_subi3_3 (Z : State) (a : Addr) (c0 : Int32) (c1 : Int32) (c2 : Int32) (h0 : Heap) (xv : Value) (h : Heap) : Prop := ∃ (r : Addr), (.ref r) = xv ∧ Str Z h r []
theorem ef_sub3_3_3 (m : MethodId) (a : Addr)  : entryFrame m #[(.ref a), (.int 3), (.int 3)] 5 = mkF m 0 #[.val (.ref a), .val (.int 3), .val (.int 3), .unset, .unset] [] := by first | (simp [entryFrame, mkF, argsToLocals, Value.category]; done) | rfl
def Q_sub3_3_3 (Z : State) (a : Addr) (c0 : Int32) (c1 : Int32) (c2 : Int32) (h0 : Heap) (xv : Value) (h : Heap) : Prop := ∃ (r : Addr), (.ref r) = xv ∧ Str Z h r []
theorem ef_news3_0_3 (m : MethodId) (t : Addr)  : entryFrame m #[(.ref t), (.int 3), (.int 0)] 3 = mkF m 0 #[.val (.ref t), .val (.int 3), .val (.int 0)] [] := by first | (simp [entryFrame, mkF, argsToLocals, Value.category]; done) | rfl
def Q_news3_0_3 (Z : State) (t : Addr) (k : ClassId) (c0 : Int32) (c1 : Int32) (c2 : Int32) (h0 : Heap) (xv : Value) (h : Heap) : Prop := ∃ (r : Addr), (.ref r) = xv ∧ Str Z h r []
theorem c_news3_0_3 (l : Launch) {Z : State} {a0 : Array Value} (G : GH Z a0) (t : Addr) (k : ClassId) (c0 : Int32) (c1 : Int32) (c2 : Int32) (h0 : Heap) (O0 : Old Z Z.heap.size h0) (p1 : Arv Z h0 t k (.byte) (3 : Int32) [(.int (c0).toInt8.toInt32), (.int (c1).toInt8.toInt32), (.int (c2).toInt8.toInt32)] (.int 0)) (p2 : C8 c0) (p3 : C8 c1) (p4 : C8 c2) : Con true EL1 l Z (⟨"java/lang/StringLatin1", "newString", "([BII)Ljava/lang/String;"⟩ : MethodName) jdk_43_method_47_code 3 (some (.object "java/lang/String")) [] (rm4 0 2 4 0) #[(.ref t), (.int 3), (.int 0)] h0 [] (rvl (Q_news3_0_3 Z t k c0 c1 c2 h0)) := by
  refine con_of (a0 := a0) (plainFor_of_name pn2) (fun q => nomatch q) (ew1 G) O0 (fun m => ef_news3_0_3 m t) ?_
  intro p_ e_ s_ m_ below_ meth_ c_ D hml hret hlk hnm
  refine go_iload_n 1 (D d20_0) rfl rfl ?_
  refine go_ifF 4 (D d20_1) rfl (by decide) ?_
  refine go_ldcH 6 (cells' := 2) (slots' := 4) (n := 0) (vs := (([] : List Int32).map fun c => c.toInt8.toInt32).map Value.int) (z := (0 : Int32)) rfl (by decide) (wk G 132 rfl) (wS G) (by decide +kernel) (by decide) (by decide) (by decide) (by decide) (D d20_4) rfl rfl rfl (by decide) (by decide) (fun h1 a2 t4 k5 X3 E6 F7 F8 A9 => ?_)
  have S10 : Str Z h1 a2 [] := ⟨t4, k5, E6, F8, F7, A9, by decide, by decide⟩
  have K11 : Keep h0 h1 [] := ((Keep.refl h0 []).ext X3)
  refine go_areturn hret hlk rfl rfl (D d20_6) (by decide) (by decide) ⟨_, rfl, ⟨a2, rfl, S10⟩⟩ K11
theorem c_sub3_3_3 (l : Launch) {Z : State} {a0 : Array Value} (G : GH Z a0) (a : Addr) (c0 : Int32) (c1 : Int32) (c2 : Int32) (h0 : Heap) (O0 : Old Z Z.heap.size h0) (p1 : Str Z h0 a [c0, c1, c2]) : Con true EL1 l Z (⟨"java/lang/String", "substring", "(II)Ljava/lang/String;"⟩ : MethodName) jdk_42_method_92_code 5 (some (.object "java/lang/String")) [] (rm4 2 2 4 29) #[(.ref a), (.int 3), (.int 3)] h0 [] (rvl (Q_sub3_3_3 Z a c0 c1 c2 h0)) := by
  refine con_of (a0 := a0) (plainFor_of_name pn1) (fun q => nomatch q) (ew1 G) O0 (fun m => ef_sub3_3_3 m a) ?_
  intro p_ e_ s_ m_ below_ meth_ c_ D hml hret hlk hnm
  have q1 : C8 c0 := by obtain ⟨_, _, _, _, _, _, q, _⟩ := id p1; exact q _ (by simp)
  have q2 : C8 c1 := by obtain ⟨_, _, _, _, _, _, q, _⟩ := id p1; exact q _ (by simp)
  have q3 : C8 c2 := by obtain ⟨_, _, _, _, _, _, q, _⟩ := id p1; exact q _ (by simp)
  refine go_aload_n 1 (D d18_0) rfl rfl rfl ?_
  refine callV0 (cells' := 0) (slots' := 0) (Wd := 0) (argsL := []) (rest := []) (pay_len G O0 (n := (3 : Int32)) p1 rfl (by decide) (by decide)) p1.exa (wk G 46 rfl) (wk G 47 rfl) (wk G 49 rfl) (wk G 49 rfl) (wk G 48 rfl) (by decide) pd6 rfl rfl (by rw [hml]; rfl) (nb rfl) rfl rfl (by decide) (by decide) all0 (fun _ _ => sf0) (D d18_1) (k_v 4 rfl ?_)
  rintro _ _ ⟨rfl, rfl⟩ -
  refine go_istore_n 5 (ls' := #[vr a, vi 3, vi 3, vi 3, un]) (D d18_4) rfl rfl ?_
  refine go_iload_n 6 (D d18_5) rfl rfl ?_
  refine go_iload_n 7 (D d18_6) rfl rfl ?_
  refine go_iload_n 8 (D d18_7) rfl rfl ?_
  refine callS0 (cells' := 0) (slots' := 0) (Wd := 0) (argsL := [(.int 3), (.int 3), (.int 3)]) (rest := []) (pay_of (a0 := a0) (c_cbbe l G (3 : Int32) (3 : Int32) (3 : Int32) h0 O0 (by decide) (by decide) (by decide)) (wk G 82 rfl) (wk G 7 rfl) (by decide) (by decide)) (wk G 80 rfl) (wk G 81 rfl) (wk G 7 rfl) (wk G 82 rfl) (by decide) pd11 rfl rfl (by rw [hml]; rfl) (nb rfl) rfl rfl (by decide) (by decide) all0 (fun _ _ => sf0) (D d18_8) (k_n 11 rfl ?_)
  rintro  h4 rfl K5
  refine go_iload_n 12 (D d18_11) rfl rfl ?_
  refine go_ifT 22 (D d18_12) (by decide) rfl (by decide) ?_
  refine go_iload_n 23 (D d18_22) rfl rfl ?_
  refine go_iload_n 24 (D d18_23) rfl rfl ?_
  refine go_isub 25 (z := (0 : Int32)) (D d18_24) rfl (by decide) ?_
  refine go_istore 27 (ls' := #[vr a, vi 3, vi 3, vi 3, vi 0]) (D d18_25) rfl rfl ?_
  refine go_aload_n 28 (D d18_27) rfl rfl rfl ?_
  obtain ⟨t6, k7, E8, F9, F10, A11, B12, L13⟩ := id p1
  refine callV0 (cells' := 0) (slots' := 0) (Wd := 0) (argsL := []) (rest := []) (pay_of (a0 := a0) (c_islatin l G a h0 O0 F10) (wk G 44 rfl) (wk G 7 rfl) (by decide) (by decide)) E8 (wk G 40 rfl) (wk G 41 rfl) (wk G 43 rfl) (wk G 43 rfl) (wk G 42 rfl) (by decide) pd5 rfl rfl (by rw [hml]; rfl) (nb rfl) rfl rfl (by decide) (by decide) all0 (fun _ _ => sf0) (D d18_28) (k_v 31 rfl ?_)
  rintro _ h14 ⟨rfl, rfl⟩ K15
  refine go_ifF 34 (D d18_31) rfl (by decide) ?_
  refine go_aload_n 35 (D d18_34) rfl rfl rfl ?_
  refine go_getF 38 (wk G 24 rfl) Via.refl F9 (D d18_35) rfl ?_
  refine go_iload_n 39 (D d18_38) rfl rfl ?_
  refine go_iload 41 (D d18_39) rfl rfl ?_
  refine callSW0 rfl (cells' := 2) (slots' := 4) (Wd := 0) (argsL := [(.ref t6), (.int 3), (.int 0)]) (rest := []) (payW_of (a0 := a0) (c_news3_0_3 l G t6 k7 c0 c1 c2 h0 O0 A11 q1 q2 q3) (wk G 112 rfl) (wk G 58 rfl) (by decide) (by decide) (ew1 G)) (wk G 110 rfl) (wk G 111 rfl) (wk G 58 rfl) (wk G 112 rfl) (by decide) pd16 rfl rfl (by rw [hml]; rfl) (nb rfl) rfl rfl (by decide) (by decide) all0 (D d18_41) (k_v 44 rfl ?_)
  rintro _ h16 ⟨r18, rfl, f19⟩ K17
  refine go_goto 57 (D d18_44) (by decide) rfl ?_
  have K20 : Keep h0 h16 [] := ((Keep.refl h0 []).trans K17 all0)
  refine go_areturn hret hlk rfl rfl (D d18_57) (by decide) (by decide) ⟨_, rfl, ⟨r18, rfl, f19⟩⟩ K20
theorem c_subi3_3 (l : Launch) {Z : State} {a0 : Array Value} (G : GH Z a0) (a : Addr) (c0 : Int32) (c1 : Int32) (c2 : Int32) (h0 : Heap) (O0 : Old Z Z.heap.size h0) (p1 : Str Z h0 a [c0, c1, c2]) : Con true EL1 l Z (⟨"java/lang/String", "substring", "(I)Ljava/lang/String;"⟩ : MethodName) jdk_42_method_91_code 2 (some (.object "java/lang/String")) [] (rm4 3 2 4 45) #[(.ref a), (.int 3)] h0 [] (rvl (Q_subi3_3 Z a c0 c1 c2 h0)) := by
  refine con_of (a0 := a0) (plainFor_of_name pn1) (fun q => nomatch q) (ew1 G) O0 (fun m => ef_subi3_3 m a) ?_
  intro p_ e_ s_ m_ below_ meth_ c_ D hml hret hlk hnm
  have q1 : C8 c0 := by obtain ⟨_, _, _, _, _, _, q, _⟩ := id p1; exact q _ (by simp)
  have q2 : C8 c1 := by obtain ⟨_, _, _, _, _, _, q, _⟩ := id p1; exact q _ (by simp)
  have q3 : C8 c2 := by obtain ⟨_, _, _, _, _, _, q, _⟩ := id p1; exact q _ (by simp)
  refine go_aload_n 1 (D d17_0) rfl rfl rfl ?_
  refine go_iload_n 2 (D d17_1) rfl rfl ?_
  refine go_aload_n 3 (D d17_2) rfl rfl rfl ?_
  refine callV0 (cells' := 0) (slots' := 0) (Wd := 2) (argsL := []) (rest := [(.int 3), (.ref a)]) (pay_len G O0 (n := (3 : Int32)) p1 rfl (by decide) (by decide)) p1.exa (wk G 46 rfl) (wk G 47 rfl) (wk G 49 rfl) (wk G 49 rfl) (wk G 48 rfl) (by decide) pd6 rfl rfl (by rw [hml]; rfl) (nb rfl) rfl rfl (by decide) (by decide) all0 (fun _ _ => sf0) (D d17_3) (k_v 6 rfl ?_)
  rintro _ _ ⟨rfl, rfl⟩ -
  refine callVW0 rfl (cells' := 2) (slots' := 4) (Wd := 0) (argsL := [(.int 3), (.int 3)]) (rest := []) (payW_of (a0 := a0) (c_sub3_3_3 l G a c0 c1 c2 h0 O0 p1) (wk G 79 rfl) (wk G 7 rfl) (by decide) (by decide) (ew1 G)) p1.exa (wk G 75 rfl) (wk G 76 rfl) (wk G 78 rfl) (wk G 78 rfl) (wk G 77 rfl) (by decide) pd12 rfl rfl (by rw [hml]; rfl) (nb rfl) rfl rfl (by decide) (by decide) all0 (D d17_6) (k_v 9 rfl ?_)
  rintro _ h4 ⟨r6, rfl, f7⟩ K5
  have K8 : Keep h0 h4 [] := ((Keep.refl h0 []).trans K5 all0)
  refine go_areturn hret hlk rfl rfl (D d17_9) (by decide) (by decide) ⟨_, rfl, ⟨r6, rfl, f7⟩⟩ K8
theorem ef_subi0_3 (m : MethodId) (a : Addr)  : entryFrame m #[(.ref a), (.int 0)] 2 = mkF m 0 #[.val (.ref a), .val (.int 0)] [] := by first | (simp [entryFrame, mkF, argsToLocals, Value.category]; done) | rfl
def Q_subi0_3 (Z : State) (a : Addr) (c0 : Int32) (c1 : Int32) (c2 : Int32) (h0 : Heap) (xv : Value) (h : Heap) : Prop := (.ref a) = xv ∧ h0 = h
theorem ef_sub0_3_3 (m : MethodId) (a : Addr)  : entryFrame m #[(.ref a), (.int 0), (.int 3)] 5 = mkF m 0 #[.val (.ref a), .val (.int 0), .val (.int 3), .unset, .unset] [] := by first | (simp [entryFrame, mkF, argsToLocals, Value.category]; done) | rfl
def Q_sub0_3_3 (Z : State) (a : Addr) (c0 : Int32) (c1 : Int32) (c2 : Int32) (h0 : Heap) (xv : Value) (h : Heap) : Prop := (.ref a) = xv ∧ h0 = h
theorem c_sub0_3_3 (l : Launch) {Z : State} {a0 : Array Value} (G : GH Z a0) (a : Addr) (c0 : Int32) (c1 : Int32) (c2 : Int32) (h0 : Heap) (O0 : Old Z Z.heap.size h0) (p1 : Str Z h0 a [c0, c1, c2]) : Con false [] l Z (⟨"java/lang/String", "substring", "(II)Ljava/lang/String;"⟩ : MethodName) jdk_42_method_92_code 5 (some (.object "java/lang/String")) [] (rm4 2 0 0 29) #[(.ref a), (.int 0), (.int 3)] h0 [] (rvl (Q_sub0_3_3 Z a c0 c1 c2 h0)) := by
  refine con_of (a0 := a0) (plainFor_of_name pn1) (fun q => rfl) EW.nil O0 (fun m => ef_sub0_3_3 m a) ?_
  intro p_ e_ s_ m_ below_ meth_ c_ D hml hret hlk hnm
  have q1 : C8 c0 := by obtain ⟨_, _, _, _, _, _, q, _⟩ := id p1; exact q _ (by simp)
  have q2 : C8 c1 := by obtain ⟨_, _, _, _, _, _, q, _⟩ := id p1; exact q _ (by simp)
  have q3 : C8 c2 := by obtain ⟨_, _, _, _, _, _, q, _⟩ := id p1; exact q _ (by simp)
  refine go_aload_n 1 (D d18_0) rfl rfl rfl ?_
  refine callV0 (cells' := 0) (slots' := 0) (Wd := 0) (argsL := []) (rest := []) (pay_len G O0 (n := (3 : Int32)) p1 rfl (by decide) (by decide)) p1.exa (wk G 46 rfl) (wk G 47 rfl) (wk G 49 rfl) (wk G 49 rfl) (wk G 48 rfl) (by decide) pd6 rfl rfl (by rw [hml]; rfl) (nb rfl) rfl rfl (by decide) (by decide) all0 (fun _ _ => sf0) (D d18_1) (k_v 4 rfl ?_)
  rintro _ _ ⟨rfl, rfl⟩ -
  refine go_istore_n 5 (ls' := #[vr a, vi 0, vi 3, vi 3, un]) (D d18_4) rfl rfl ?_
  refine go_iload_n 6 (D d18_5) rfl rfl ?_
  refine go_iload_n 7 (D d18_6) rfl rfl ?_
  refine go_iload_n 8 (D d18_7) rfl rfl ?_
  refine callS0 (cells' := 0) (slots' := 0) (Wd := 0) (argsL := [(.int 0), (.int 3), (.int 3)]) (rest := []) (pay_of (a0 := a0) (c_cbbe l G (0 : Int32) (3 : Int32) (3 : Int32) h0 O0 (by decide) (by decide) (by decide)) (wk G 82 rfl) (wk G 7 rfl) (by decide) (by decide)) (wk G 80 rfl) (wk G 81 rfl) (wk G 7 rfl) (wk G 82 rfl) (by decide) pd11 rfl rfl (by rw [hml]; rfl) (nb rfl) rfl rfl (by decide) (by decide) all0 (fun _ _ => sf0) (D d18_8) (k_n 11 rfl ?_)
  rintro  h4 rfl K5
  refine go_iload_n 12 (D d18_11) rfl rfl ?_
  refine go_ifF 15 (D d18_12) rfl (by decide) ?_
  refine go_iload_n 16 (D d18_15) rfl rfl ?_
  refine go_iload_n 17 (D d18_16) rfl rfl ?_
  refine go_icF 20 (D d18_17) rfl (by decide) ?_
  refine go_aload_n 21 (D d18_20) rfl rfl rfl ?_
  refine go_areturn hret hlk rfl rfl (D d18_21) (by decide) (by decide) ⟨_, rfl, ⟨rfl, rfl⟩⟩ (Keep.refl h0 [])
theorem c_subi0_3 (l : Launch) {Z : State} {a0 : Array Value} (G : GH Z a0) (a : Addr) (c0 : Int32) (c1 : Int32) (c2 : Int32) (h0 : Heap) (O0 : Old Z Z.heap.size h0) (p1 : Str Z h0 a [c0, c1, c2]) : Con false [] l Z (⟨"java/lang/String", "substring", "(I)Ljava/lang/String;"⟩ : MethodName) jdk_42_method_91_code 2 (some (.object "java/lang/String")) [] (rm4 3 0 0 45) #[(.ref a), (.int 0)] h0 [] (rvl (Q_subi0_3 Z a c0 c1 c2 h0)) := by
  refine con_of (a0 := a0) (plainFor_of_name pn1) (fun q => rfl) EW.nil O0 (fun m => ef_subi0_3 m a) ?_
  intro p_ e_ s_ m_ below_ meth_ c_ D hml hret hlk hnm
  have q1 : C8 c0 := by obtain ⟨_, _, _, _, _, _, q, _⟩ := id p1; exact q _ (by simp)
  have q2 : C8 c1 := by obtain ⟨_, _, _, _, _, _, q, _⟩ := id p1; exact q _ (by simp)
  have q3 : C8 c2 := by obtain ⟨_, _, _, _, _, _, q, _⟩ := id p1; exact q _ (by simp)
  refine go_aload_n 1 (D d17_0) rfl rfl rfl ?_
  refine go_iload_n 2 (D d17_1) rfl rfl ?_
  refine go_aload_n 3 (D d17_2) rfl rfl rfl ?_
  refine callV0 (cells' := 0) (slots' := 0) (Wd := 2) (argsL := []) (rest := [(.int 0), (.ref a)]) (pay_len G O0 (n := (3 : Int32)) p1 rfl (by decide) (by decide)) p1.exa (wk G 46 rfl) (wk G 47 rfl) (wk G 49 rfl) (wk G 49 rfl) (wk G 48 rfl) (by decide) pd6 rfl rfl (by rw [hml]; rfl) (nb rfl) rfl rfl (by decide) (by decide) all0 (fun _ _ => sf0) (D d17_3) (k_v 6 rfl ?_)
  rintro _ _ ⟨rfl, rfl⟩ -
  refine callV0 (cells' := 0) (slots' := 0) (Wd := 0) (argsL := [(.int 0), (.int 3)]) (rest := []) (pay_of (a0 := a0) (c_sub0_3_3 l G a c0 c1 c2 h0 O0 p1) (wk G 79 rfl) (wk G 7 rfl) (by decide) (by decide)) p1.exa (wk G 75 rfl) (wk G 76 rfl) (wk G 78 rfl) (wk G 78 rfl) (wk G 77 rfl) (by decide) pd12 rfl rfl (by rw [hml]; rfl) (nb rfl) rfl rfl (by decide) (by decide) all0 (fun _ _ => sf0) (D d17_6) (k_v 9 rfl ?_)
  rintro _ h4 ⟨rfl, rfl⟩ K5
  refine go_areturn hret hlk rfl rfl (D d17_9) (by decide) (by decide) ⟨_, rfl, ⟨rfl, rfl⟩⟩ (Keep.refl h0 [])
theorem c_unq3 (l : Launch) {Z : State} {a0 : Array Value} (G : GH Z a0) (a : Addr) (c0 : Int32) (c1 : Int32) (c2 : Int32) (h0 : Heap) (O0 : Old Z Z.heap.size h0) (p1 : Str Z h0 a [c0, c1, c2]) : Con true EL1 l Z (⟨"com/example/commit_feed/commitfeed/config/SqlNames", "unqualified", "(Ljava/lang/String;)Ljava/lang/String;"⟩ : MethodName) prog_9_method_4_code 1 (some (.object "java/lang/String")) [] (rm4 6 2 6 93) #[(.ref a)] h0 [] (rvl (Q_unq3 Z a c0 c1 c2 h0)) := by
  refine con_of (a0 := a0) (plainFor_of_name pn6) (fun q => nomatch q) (ew1 G) O0 (fun m => ef_unq3 m a) ?_
  intro p_ e_ s_ m_ below_ meth_ c_ D hml hret hlk hnm
  refine go_aload_n 1 (D d11_0) rfl rfl rfl ?_
  refine go_aload_n 2 (D d11_1) rfl rfl rfl ?_
  refine go_bipush 4 (v := 46) (D d11_2) rfl rfl ?_
  refine callV0 (cells' := 0) (slots' := 0) (Wd := 1) (argsL := [(.int 46)]) (rest := [(.ref a)]) (pay_of (a0 := a0) (c_idx3 l G a c0 c1 c2 h0 O0 p1) (wk G 34 rfl) (wk G 7 rfl) (by decide) (by decide)) p1.exa (wk G 30 rfl) (wk G 31 rfl) (wk G 33 rfl) (wk G 33 rfl) (wk G 32 rfl) (by decide) pd10 rfl rfl (by rw [hml]; rfl) (nb rfl) rfl rfl (by decide) (by decide) all0 (fun _ _ => sf0) (D d11_4) (k_v 7 rfl ?_)
  rintro _ h1 (⟨rfl, rfl, f3⟩ | ⟨rfl, rfl, f4, f5⟩ | ⟨rfl, rfl, f6, f7, f8⟩ | ⟨rfl, rfl, f9, f10, f11⟩) K2
  · refine go_iconst 8 (v := 1) (D d11_7) rfl rfl ?_
    refine go_iadd 9 (z := (1 : Int32)) (D d11_8) rfl (by decide) ?_
    refine callV0 (cells' := 2) (slots' := 6) (Wd := 0) (argsL := [(.int 1)]) (rest := []) (pay_of (a0 := a0) (c_subi1_3 l G a c0 c1 c2 h0 O0 p1) (wk G 74 rfl) (wk G 7 rfl) (by decide) (by decide)) p1.exa (wk G 70 rfl) (wk G 71 rfl) (wk G 73 rfl) (wk G 73 rfl) (wk G 72 rfl) (by decide) pd13 rfl rfl (by rw [hml]; rfl) (nb rfl) rfl rfl (by decide) (by decide) all0 (fun _ _ => sf0) (D d11_9) (k_v 12 rfl ?_)
    rintro _ h12 ⟨r14, rfl, f15⟩ K13
    have K16 : Keep h0 h12 [] := ((Keep.refl h0 []).trans K13 all0)
    refine go_areturn hret hlk rfl rfl (D d11_12) (by decide) (by decide) ⟨_, rfl, (Or.inl ⟨r14, rfl, f3, f15⟩)⟩ K16
  · refine go_iconst 8 (v := 1) (D d11_7) rfl rfl ?_
    refine go_iadd 9 (z := (2 : Int32)) (D d11_8) rfl (by decide) ?_
    refine callV0 (cells' := 2) (slots' := 5) (Wd := 0) (argsL := [(.int 2)]) (rest := []) (pay_of (a0 := a0) (c_subi2_3 l G a c0 c1 c2 h0 O0 p1) (wk G 74 rfl) (wk G 7 rfl) (by decide) (by decide)) p1.exa (wk G 70 rfl) (wk G 71 rfl) (wk G 73 rfl) (wk G 73 rfl) (wk G 72 rfl) (by decide) pd13 rfl rfl (by rw [hml]; rfl) (nb rfl) rfl rfl (by decide) (by decide) all0 (fun _ _ => sf0) (D d11_9) (k_v 12 rfl ?_)
    rintro _ h17 ⟨r19, rfl, f20⟩ K18
    have K21 : Keep h0 h17 [] := ((Keep.refl h0 []).trans K18 all0)
    refine go_areturn hret hlk rfl rfl (D d11_12) (by decide) (by decide) ⟨_, rfl, (Or.inr (Or.inl ⟨r19, rfl, f4, f5, f20⟩))⟩ K21
  · refine go_iconst 8 (v := 1) (D d11_7) rfl rfl ?_
    refine go_iadd 9 (z := (3 : Int32)) (D d11_8) rfl (by decide) ?_
    refine callVW0 rfl (cells' := 2) (slots' := 4) (Wd := 0) (argsL := [(.int 3)]) (rest := []) (payW_of (a0 := a0) (c_subi3_3 l G a c0 c1 c2 h0 O0 p1) (wk G 74 rfl) (wk G 7 rfl) (by decide) (by decide) (ew1 G)) p1.exa (wk G 70 rfl) (wk G 71 rfl) (wk G 73 rfl) (wk G 73 rfl) (wk G 72 rfl) (by decide) pd13 rfl rfl (by rw [hml]; rfl) (nb rfl) rfl rfl (by decide) (by decide) all0 (D d11_9) (k_v 12 rfl ?_)
    rintro _ h22 ⟨r24, rfl, f25⟩ K23
    have K26 : Keep h0 h22 [] := ((Keep.refl h0 []).trans K23 all0)
    refine go_areturn hret hlk rfl rfl (D d11_12) (by decide) (by decide) ⟨_, rfl, (Or.inr (Or.inr (Or.inl ⟨r24, rfl, f6, f7, f8, f25⟩)))⟩ K26
  · refine go_iconst 8 (v := 1) (D d11_7) rfl rfl ?_
    refine go_iadd 9 (z := (0 : Int32)) (D d11_8) rfl (by decide) ?_
    refine callV0 (cells' := 0) (slots' := 0) (Wd := 0) (argsL := [(.int 0)]) (rest := []) (pay_of (a0 := a0) (c_subi0_3 l G a c0 c1 c2 h0 O0 p1) (wk G 74 rfl) (wk G 7 rfl) (by decide) (by decide)) p1.exa (wk G 70 rfl) (wk G 71 rfl) (wk G 73 rfl) (wk G 73 rfl) (wk G 72 rfl) (by decide) pd13 rfl rfl (by rw [hml]; rfl) (nb rfl) rfl rfl (by decide) (by decide) all0 (fun _ _ => sf0) (D d11_9) (k_v 12 rfl ?_)
    rintro _ h27 ⟨rfl, rfl⟩ K28
    refine go_areturn hret hlk rfl rfl (D d11_12) (by decide) (by decide) ⟨_, rfl, (Or.inr (Or.inr (Or.inr (⟨rfl, f9, f10, f11⟩))))⟩ (Keep.refl h0 [])
theorem ef_unq4 (m : MethodId) (a : Addr)  : entryFrame m #[(.ref a)] 1 = mkF m 0 #[.val (.ref a)] [] := by first | (simp [entryFrame, mkF, argsToLocals, Value.category]; done) | rfl
def Q_unq4 (Z : State) (a : Addr) (c0 : Int32) (c1 : Int32) (c2 : Int32) (c3 : Int32) (h0 : Heap) (xv : Value) (h : Heap) : Prop := (∃ (r : Addr), (.ref r) = xv ∧ c0 = (46 : Int32) ∧ Str Z h r [c1, c2, c3]) ∨ (∃ (r : Addr), (.ref r) = xv ∧ ¬ c0 = (46 : Int32) ∧ c1 = (46 : Int32) ∧ Str Z h r [c2, c3]) ∨ (∃ (r : Addr), (.ref r) = xv ∧ ¬ c0 = (46 : Int32) ∧ ¬ c1 = (46 : Int32) ∧ c2 = (46 : Int32) ∧ Str Z h r [c3]) ∨ (∃ (r : Addr), (.ref r) = xv ∧ ¬ c0 = (46 : Int32) ∧ ¬ c1 = (46 : Int32) ∧ ¬ c2 = (46 : Int32) ∧ c3 = (46 : Int32) ∧ Str Z h r []) ∨ ((.ref a) = xv ∧ ¬ c0 = (46 : Int32) ∧ ¬ c1 = (46 : Int32) ∧ ¬ c2 = (46 : Int32) ∧ ¬ c3 = (46 : Int32))
theorem ef_idx4 (m : MethodId) (a : Addr)  : entryFrame m #[(.ref a), (.int 46)] 2 = mkF m 0 #[.val (.ref a), .val (.int 46)] [] := by first | (simp [entryFrame, mkF, argsToLocals, Value.category]; done) | rfl
def Q_idx4 (Z : State) (a : Addr) (c0 : Int32) (c1 : Int32) (c2 : Int32) (c3 : Int32) (h0 : Heap) (xv : Value) (h : Heap) : Prop := ((.int 0) = xv ∧ h0 = h ∧ c0 = (46 : Int32)) ∨ ((.int 1) = xv ∧ h0 = h ∧ ¬ c0 = (46 : Int32) ∧ c1 = (46 : Int32)) ∨ ((.int 2) = xv ∧ h0 = h ∧ ¬ c0 = (46 : Int32) ∧ ¬ c1 = (46 : Int32) ∧ c2 = (46 : Int32)) ∨ ((.int 3) = xv ∧ h0 = h ∧ ¬ c0 = (46 : Int32) ∧ ¬ c1 = (46 : Int32) ∧ ¬ c2 = (46 : Int32) ∧ c3 = (46 : Int32)) ∨ ((.int (-1)) = xv ∧ h0 = h ∧ ¬ c0 = (46 : Int32) ∧ ¬ c1 = (46 : Int32) ∧ ¬ c2 = (46 : Int32) ∧ ¬ c3 = (46 : Int32))
theorem ef_idxs4 (m : MethodId) (a : Addr)  : entryFrame m #[(.ref a), (.int 46), (.int 0)] 3 = mkF m 0 #[.val (.ref a), .val (.int 46), .val (.int 0)] [] := by first | (simp [entryFrame, mkF, argsToLocals, Value.category]; done) | rfl
def Q_idxs4 (Z : State) (a : Addr) (c0 : Int32) (c1 : Int32) (c2 : Int32) (c3 : Int32) (h0 : Heap) (xv : Value) (h : Heap) : Prop := ((.int 0) = xv ∧ h0 = h ∧ c0 = (46 : Int32)) ∨ ((.int 1) = xv ∧ h0 = h ∧ ¬ c0 = (46 : Int32) ∧ c1 = (46 : Int32)) ∨ ((.int 2) = xv ∧ h0 = h ∧ ¬ c0 = (46 : Int32) ∧ ¬ c1 = (46 : Int32) ∧ c2 = (46 : Int32)) ∨ ((.int 3) = xv ∧ h0 = h ∧ ¬ c0 = (46 : Int32) ∧ ¬ c1 = (46 : Int32) ∧ ¬ c2 = (46 : Int32) ∧ c3 = (46 : Int32)) ∨ ((.int (-1)) = xv ∧ h0 = h ∧ ¬ c0 = (46 : Int32) ∧ ¬ c1 = (46 : Int32) ∧ ¬ c2 = (46 : Int32) ∧ ¬ c3 = (46 : Int32))
theorem ef_idxl4 (m : MethodId) (t : Addr)  : entryFrame m #[(.ref t), (.int 46), (.int 0), (.int 4)] 4 = mkF m 0 #[.val (.ref t), .val (.int 46), .val (.int 0), .val (.int 4)] [] := by first | (simp [entryFrame, mkF, argsToLocals, Value.category]; done) | rfl
def Q_idxl4 (Z : State) (t : Addr) (k : ClassId) (b0 : Int32) (b1 : Int32) (b2 : Int32) (b3 : Int32) (h0 : Heap) (xv : Value) (h : Heap) : Prop := ((.int 0) = xv ∧ h0 = h ∧ b0 = (46 : Int32)) ∨ ((.int 1) = xv ∧ h0 = h ∧ ¬ b0 = (46 : Int32) ∧ b1 = (46 : Int32)) ∨ ((.int 2) = xv ∧ h0 = h ∧ ¬ b0 = (46 : Int32) ∧ ¬ b1 = (46 : Int32) ∧ b2 = (46 : Int32)) ∨ ((.int 3) = xv ∧ h0 = h ∧ ¬ b0 = (46 : Int32) ∧ ¬ b1 = (46 : Int32) ∧ ¬ b2 = (46 : Int32) ∧ b3 = (46 : Int32)) ∨ ((.int (-1)) = xv ∧ h0 = h ∧ ¬ b0 = (46 : Int32) ∧ ¬ b1 = (46 : Int32) ∧ ¬ b2 = (46 : Int32) ∧ ¬ b3 = (46 : Int32))
theorem ef_min4_4 (m : MethodId)   : entryFrame m #[(.int 4), (.int 4)] 2 = mkF m 0 #[.val (.int 4), .val (.int 4)] [] := by first | (simp [entryFrame, mkF, argsToLocals, Value.category]; done) | rfl
def Q_min4_4 (Z : State)   (h0 : Heap) (xv : Value) (h : Heap) : Prop := (.int 4) = xv ∧ h0 = h
theorem c_min4_4 (l : Launch) {Z : State} {a0 : Array Value} (G : GH Z a0)   (h0 : Heap) (O0 : Old Z Z.heap.size h0)  : Con false [] l Z (⟨"java/lang/Math", "min", "(II)I"⟩ : MethodName) jdk_29_method_69_code 2 (some .int) [] (rm4 0 0 0 0) #[(.int 4), (.int 4)] h0 [] (rvl (Q_min4_4 Z h0)) := by
  refine con_of (a0 := a0) (Jvm.Free.JP.mathPlain rfl (by decide)) (fun q => rfl) EW.nil O0 (fun m => ef_min4_4 m ) ?_
  intro p_ e_ s_ m_ below_ meth_ c_ D hml hret hlk hnm
  refine go_iload_n 1 (D d16_0) rfl rfl ?_
  refine go_iload_n 2 (D d16_1) rfl rfl ?_
  refine go_icF 5 (D d16_2) rfl (by decide) ?_
  refine go_iload_n 6 (D d16_5) rfl rfl ?_
  refine go_goto 10 (D d16_6) (by decide) rfl ?_
  refine go_ireturn hret hlk rfl (by simp) (D d16_10) (by decide) (by decide) ⟨_, rfl, ⟨rfl, rfl⟩⟩ (Keep.refl h0 [])
theorem ef_idxc4 (m : MethodId) (t : Addr)  : entryFrame m #[(.ref t), (.int 46), (.int 0), (.int 4)] 6 = mkF m 0 #[.val (.ref t), .val (.int 46), .val (.int 0), .val (.int 4), .unset, .unset] [] := by first | (simp [entryFrame, mkF, argsToLocals, Value.category]; done) | rfl
def Q_idxc4 (Z : State) (t : Addr) (k : ClassId) (b0 : Int32) (b1 : Int32) (b2 : Int32) (b3 : Int32) (h0 : Heap) (xv : Value) (h : Heap) : Prop := ((.int 0) = xv ∧ h0 = h ∧ b0 = (46 : Int32)) ∨ ((.int 1) = xv ∧ h0 = h ∧ ¬ b0 = (46 : Int32) ∧ b1 = (46 : Int32)) ∨ ((.int 2) = xv ∧ h0 = h ∧ ¬ b0 = (46 : Int32) ∧ ¬ b1 = (46 : Int32) ∧ b2 = (46 : Int32)) ∨ ((.int 3) = xv ∧ h0 = h ∧ ¬ b0 = (46 : Int32) ∧ ¬ b1 = (46 : Int32) ∧ ¬ b2 = (46 : Int32) ∧ b3 = (46 : Int32)) ∨ ((.int (-1)) = xv ∧ h0 = h ∧ ¬ b0 = (46 : Int32) ∧ ¬ b1 = (46 : Int32) ∧ ¬ b2 = (46 : Int32) ∧ ¬ b3 = (46 : Int32))
theorem c_idxc4 (l : Launch) {Z : State} {a0 : Array Value} (G : GH Z a0) (t : Addr) (k : ClassId) (b0 : Int32) (b1 : Int32) (b2 : Int32) (b3 : Int32) (h0 : Heap) (O0 : Old Z Z.heap.size h0) (p1 : Arv Z h0 t k (.byte) (4 : Int32) [(.int b0), (.int b1), (.int b2), (.int b3)] (.int 0)) : Con false [] l Z (⟨"java/lang/StringLatin1", "indexOfChar", "([BIII)I"⟩ : MethodName) jdk_43_method_23_code 6 (some .int) [] (rm4 0 0 0 0) #[(.ref t), (.int 46), (.int 0), (.int 4)] h0 [] (rvl (Q_idxc4 Z t k b0 b1 b2 b3 h0)) := by
  refine con_of (a0 := a0) (plainFor_of_name pn2) (fun q => rfl) EW.nil O0 (fun m => ef_idxc4 m t) ?_
  intro p_ e_ s_ m_ below_ meth_ c_ D hml hret hlk hnm
  refine go_iload_n 1 (D d19_0) rfl rfl ?_
  refine go_i2b 2 (z := (46 : Int32)) (D d19_1) rfl (by decide) ?_
  refine go_istore 4 (ls' := #[vr t, vi 46, vi 0, vi 4, vi 46, un]) (D d19_2) rfl rfl ?_
  refine go_iload_n 5 (D d19_4) rfl rfl ?_
  refine go_istore 7 (ls' := #[vr t, vi 46, vi 0, vi 4, vi 46, vi 0]) (D d19_5) rfl rfl ?_
  refine go_iload 9 (D d19_7) rfl rfl ?_
  refine go_iload_n 10 (D d19_9) rfl rfl ?_
  refine go_icF 13 (D d19_10) rfl (by decide) ?_
  refine go_aload_n 14 (D d19_13) rfl rfl rfl ?_
  refine go_iload 16 (D d19_14) rfl rfl ?_
  refine go_baload 17 (i := 0) (v := (.int b0)) p1 (by decide) (by decide) rfl rfl (D d19_16) rfl ?_
  refine go_iload 19 (D d19_17) rfl rfl ?_
  by_cases cz1 : b0 = (46 : Int32)
  · refine go_icF 22 (D d19_19) rfl (XT.ii_ne_f cz1) ?_
    refine go_iload 24 (D d19_22) rfl rfl ?_
    refine go_ireturn hret hlk rfl (by simp) (D d19_24) (by decide) (by decide) ⟨_, rfl, (Or.inl ⟨rfl, rfl, cz1⟩)⟩ (Keep.refl h0 [])
  · refine go_icT 25 (D d19_19) (by decide) rfl (XT.ii_ne_t cz1) ?_
    refine go_iinc 28 (ls' := #[vr t, vi 46, vi 0, vi 4, vi 46, vi 1]) (y := (1 : Int32)) (D d19_25) rfl rfl rfl rfl ?_
    refine go_goto 7 (D d19_28) (by decide) rfl ?_
    refine go_iload 9 (D d19_7) rfl rfl ?_
    refine go_iload_n 10 (D d19_9) rfl rfl ?_
    refine go_icF 13 (D d19_10) rfl (by decide) ?_
    refine go_aload_n 14 (D d19_13) rfl rfl rfl ?_
    refine go_iload 16 (D d19_14) rfl rfl ?_
    refine go_baload 17 (i := 1) (v := (.int b1)) p1 (by decide) (by decide) rfl rfl (D d19_16) rfl ?_
    refine go_iload 19 (D d19_17) rfl rfl ?_
    by_cases cz2 : b1 = (46 : Int32)
    · refine go_icF 22 (D d19_19) rfl (XT.ii_ne_f cz2) ?_
      refine go_iload 24 (D d19_22) rfl rfl ?_
      refine go_ireturn hret hlk rfl (by simp) (D d19_24) (by decide) (by decide) ⟨_, rfl, (Or.inr (Or.inl ⟨rfl, rfl, cz1, cz2⟩))⟩ (Keep.refl h0 [])
    · refine go_icT 25 (D d19_19) (by decide) rfl (XT.ii_ne_t cz2) ?_
      refine go_iinc 28 (ls' := #[vr t, vi 46, vi 0, vi 4, vi 46, vi 2]) (y := (2 : Int32)) (D d19_25) rfl rfl rfl rfl ?_
      refine go_goto 7 (D d19_28) (by decide) rfl ?_
      refine go_iload 9 (D d19_7) rfl rfl ?_
      refine go_iload_n 10 (D d19_9) rfl rfl ?_
      refine go_icF 13 (D d19_10) rfl (by decide) ?_
      refine go_aload_n 14 (D d19_13) rfl rfl rfl ?_
      refine go_iload 16 (D d19_14) rfl rfl ?_
      refine go_baload 17 (i := 2) (v := (.int b2)) p1 (by decide) (by decide) rfl rfl (D d19_16) rfl ?_
      refine go_iload 19 (D d19_17) rfl rfl ?_
      by_cases cz3 : b2 = (46 : Int32)
      · refine go_icF 22 (D d19_19) rfl (XT.ii_ne_f cz3) ?_
        refine go_iload 24 (D d19_22) rfl rfl ?_
        refine go_ireturn hret hlk rfl (by simp) (D d19_24) (by decide) (by decide) ⟨_, rfl, (Or.inr (Or.inr (Or.inl ⟨rfl, rfl, cz1, cz2, cz3⟩)))⟩ (Keep.refl h0 [])
      · refine go_icT 25 (D d19_19) (by decide) rfl (XT.ii_ne_t cz3) ?_
        refine go_iinc 28 (ls' := #[vr t, vi 46, vi 0, vi 4, vi 46, vi 3]) (y := (3 : Int32)) (D d19_25) rfl rfl rfl rfl ?_
        refine go_goto 7 (D d19_28) (by decide) rfl ?_
        refine go_iload 9 (D d19_7) rfl rfl ?_
        refine go_iload_n 10 (D d19_9) rfl rfl ?_
        refine go_icF 13 (D d19_10) rfl (by decide) ?_
        refine go_aload_n 14 (D d19_13) rfl rfl rfl ?_
        refine go_iload 16 (D d19_14) rfl rfl ?_
        refine go_baload 17 (i := 3) (v := (.int b3)) p1 (by decide) (by decide) rfl rfl (D d19_16) rfl ?_
        refine go_iload 19 (D d19_17) rfl rfl ?_
        by_cases cz4 : b3 = (46 : Int32)
        · refine go_icF 22 (D d19_19) rfl (XT.ii_ne_f cz4) ?_
          refine go_iload 24 (D d19_22) rfl rfl ?_
          refine go_ireturn hret hlk rfl (by simp) (D d19_24) (by decide) (by decide) ⟨_, rfl, (Or.inr (Or.inr (Or.inr (Or.inl ⟨rfl, rfl, cz1, cz2, cz3, cz4⟩))))⟩ (Keep.refl h0 [])
        · refine go_icT 25 (D d19_19) (by decide) rfl (XT.ii_ne_t cz4) ?_
          refine go_iinc 28 (ls' := #[vr t, vi 46, vi 0, vi 4, vi 46, vi 4]) (y := (4 : Int32)) (D d19_25) rfl rfl rfl rfl ?_
          refine go_goto 7 (D d19_28) (by decide) rfl ?_
          refine go_iload 9 (D d19_7) rfl rfl ?_
          refine go_iload_n 10 (D d19_9) rfl rfl ?_
          refine go_icT 31 (D d19_10) (by decide) rfl (by decide) ?_
          refine go_iconst 32 (v := (-1)) (D d19_31) rfl rfl ?_
          refine go_ireturn hret hlk rfl (by simp) (D d19_32) (by decide) (by decide) ⟨_, rfl, (Or.inr (Or.inr (Or.inr (Or.inr (⟨rfl, rfl, cz1, cz2, cz3, cz4⟩)))))⟩ (Keep.refl h0 [])
theorem c_idxl4 (l : Launch) {Z : State} {a0 : Array Value} (G : GH Z a0) (t : Addr) (k : ClassId) (b0 : Int32) (b1 : Int32) (b2 : Int32) (b3 : Int32) (h0 : Heap) (O0 : Old Z Z.heap.size h0) (p1 : Arv Z h0 t k (.byte) (4 : Int32) [(.int b0), (.int b1), (.int b2), (.int b3)] (.int 0)) : Con false [] l Z (⟨"java/lang/StringLatin1", "indexOf", "([BIII)I"⟩ : MethodName) jdk_43_method_22_code 4 (some .int) [] (rm4 1 0 0 17) #[(.ref t), (.int 46), (.int 0), (.int 4)] h0 [] (rvl (Q_idxl4 Z t k b0 b1 b2 b3 h0)) := by
  refine con_of (a0 := a0) (plainFor_of_name pn2) (fun q => rfl) EW.nil O0 (fun m => ef_idxl4 m t) ?_
  intro p_ e_ s_ m_ below_ meth_ c_ D hml hret hlk hnm
  refine go_iload_n 1 (D d14_0) rfl rfl ?_
  refine callS0 (cells' := 0) (slots' := 0) (Wd := 0) (argsL := [(.int 46)]) (rest := []) (pay_of (a0 := a0) (c_canenc46 l G  h0 O0 ) (wk G 62 rfl) (wk G 58 rfl) (by decide) (by decide)) (wk G 60 rfl) (wk G 61 rfl) (wk G 58 rfl) (wk G 62 rfl) (by decide) pd7 rfl rfl (by rw [hml]; rfl) (nb rfl) rfl rfl (by decide) (by decide) all0 (fun _ _ => sf0) (D d14_1) (k_v 4 rfl ?_)
  rintro _ h1 ⟨rfl, rfl⟩ K2
  refine go_ifT 9 (D d14_4) (by decide) rfl (by decide) ?_
  refine go_iload_n 10 (D d14_9) rfl rfl ?_
  refine go_iconst 11 (v := 0) (D d14_10) rfl rfl ?_
  refine callS0 (cells' := 0) (slots' := 0) (Wd := 0) (argsL := [(.int 0), (.int 0)]) (rest := []) (pay_of (a0 := a0) (c_max0_0 l G  h0 O0 ) (wk G 66 rfl) (wk G 65 rfl) (by decide) (by decide)) (wk G 63 rfl) (wk G 64 rfl) (wk G 65 rfl) (wk G 66 rfl) (by decide) pd8 rfl rfl (by rw [hml]; rfl) (nb rfl) rfl rfl (by decide) (by decide) all0 (fun _ _ => sf0) (D d14_11) (k_v 14 rfl ?_)
  rintro _ h3 ⟨rfl, rfl⟩ K4
  refine go_istore_n 15 (ls' := #[vr t, vi 46, vi 0, vi 4]) (D d14_14) rfl rfl ?_
  refine go_iload_n 16 (D d14_15) rfl rfl ?_
  refine go_aload_n 17 (D d14_16) rfl rfl rfl ?_
  refine go_arraylength 18 p1 (D d14_17) rfl ?_
  refine callS0 (cells' := 0) (slots' := 0) (Wd := 0) (argsL := [(.int 4), (.int 4)]) (rest := []) (pay_of (a0 := a0) (c_min4_4 l G  h0 O0 ) (wk G 69 rfl) (wk G 65 rfl) (by decide) (by decide)) (wk G 67 rfl) (wk G 68 rfl) (wk G 65 rfl) (wk G 69 rfl) (by decide) pd8 rfl rfl (by rw [hml]; rfl) (nb rfl) rfl rfl (by decide) (by decide) all0 (fun _ _ => sf0) (D d14_18) (k_v 21 rfl ?_)
  rintro _ h5 ⟨rfl, rfl⟩ K6
  refine go_istore_n 22 (ls' := #[vr t, vi 46, vi 0, vi 4]) (D d14_21) rfl rfl ?_
  refine go_iload_n 23 (D d14_22) rfl rfl ?_
  refine go_iload_n 24 (D d14_23) rfl rfl ?_
  refine go_icT 29 (D d14_24) (by decide) rfl (by decide) ?_
  refine go_aload_n 30 (D d14_29) rfl rfl rfl ?_
  refine go_iload_n 31 (D d14_30) rfl rfl ?_
  refine go_iload_n 32 (D d14_31) rfl rfl ?_
  refine go_iload_n 33 (D d14_32) rfl rfl ?_
  refine callS0 (cells' := 0) (slots' := 0) (Wd := 0) (argsL := [(.ref t), (.int 46), (.int 0), (.int 4)]) (rest := []) (pay_of (a0 := a0) (c_idxc4 l G t k b0 b1 b2 b3 h0 O0 p1) (wk G 109 rfl) (wk G 58 rfl) (by decide) (by decide)) (wk G 107 rfl) (wk G 108 rfl) (wk G 58 rfl) (wk G 109 rfl) (by decide) pd9 rfl rfl (by rw [hml]; rfl) (nb rfl) rfl rfl (by decide) (by decide) all0 (fun _ _ => sf0) (D d14_33) (k_v 36 rfl ?_)
  rintro _ h7 (⟨rfl, rfl, f9⟩ | ⟨rfl, rfl, f10, f11⟩ | ⟨rfl, rfl, f12, f13, f14⟩ | ⟨rfl, rfl, f15, f16, f17, f18⟩ | ⟨rfl, rfl, f19, f20, f21, f22⟩) K8
  · refine go_ireturn hret hlk rfl (by simp) (D d14_36) (by decide) (by decide) ⟨_, rfl, (Or.inl ⟨rfl, rfl, f9⟩)⟩ (Keep.refl h0 [])
  · refine go_ireturn hret hlk rfl (by simp) (D d14_36) (by decide) (by decide) ⟨_, rfl, (Or.inr (Or.inl ⟨rfl, rfl, f10, f11⟩))⟩ (Keep.refl h0 [])
  · refine go_ireturn hret hlk rfl (by simp) (D d14_36) (by decide) (by decide) ⟨_, rfl, (Or.inr (Or.inr (Or.inl ⟨rfl, rfl, f12, f13, f14⟩)))⟩ (Keep.refl h0 [])
  · refine go_ireturn hret hlk rfl (by simp) (D d14_36) (by decide) (by decide) ⟨_, rfl, (Or.inr (Or.inr (Or.inr (Or.inl ⟨rfl, rfl, f15, f16, f17, f18⟩))))⟩ (Keep.refl h0 [])
  · refine go_ireturn hret hlk rfl (by simp) (D d14_36) (by decide) (by decide) ⟨_, rfl, (Or.inr (Or.inr (Or.inr (Or.inr (⟨rfl, rfl, f19, f20, f21, f22⟩)))))⟩ (Keep.refl h0 [])
theorem c_idxs4 (l : Launch) {Z : State} {a0 : Array Value} (G : GH Z a0) (a : Addr) (c0 : Int32) (c1 : Int32) (c2 : Int32) (c3 : Int32) (h0 : Heap) (O0 : Old Z Z.heap.size h0) (p1 : Str Z h0 a [c0, c1, c2, c3]) : Con false [] l Z (⟨"java/lang/String", "indexOf", "(II)I"⟩ : MethodName) jdk_42_method_80_code 3 (some .int) [] (rm4 2 0 0 32) #[(.ref a), (.int 46), (.int 0)] h0 [] (rvl (Q_idxs4 Z a c0 c1 c2 c3 h0)) := by
  refine con_of (a0 := a0) (plainFor_of_name pn1) (fun q => rfl) EW.nil O0 (fun m => ef_idxs4 m a) ?_
  intro p_ e_ s_ m_ below_ meth_ c_ D hml hret hlk hnm
  refine go_aload_n 1 (D d13_0) rfl rfl rfl ?_
  obtain ⟨t1, k2, E3, F4, F5, A6, B7, L8⟩ := id p1
  refine callV0 (cells' := 0) (slots' := 0) (Wd := 0) (argsL := []) (rest := []) (pay_of (a0 := a0) (c_islatin l G a h0 O0 F5) (wk G 44 rfl) (wk G 7 rfl) (by decide) (by decide)) E3 (wk G 40 rfl) (wk G 41 rfl) (wk G 43 rfl) (wk G 43 rfl) (wk G 42 rfl) (by decide) pd5 rfl rfl (by rw [hml]; rfl) (nb rfl) rfl rfl (by decide) (by decide) all0 (fun _ _ => sf0) (D d13_1) (k_v 4 rfl ?_)
  rintro _ h9 ⟨rfl, rfl⟩ K10
  refine go_ifF 7 (D d13_4) rfl (by decide) ?_
  refine go_aload_n 8 (D d13_7) rfl rfl rfl ?_
  refine go_getF 11 (wk G 24 rfl) Via.refl F4 (D d13_8) rfl ?_
  refine go_iload_n 12 (D d13_11) rfl rfl ?_
  refine go_iload_n 13 (D d13_12) rfl rfl ?_
  refine go_aload_n 14 (D d13_13) rfl rfl rfl ?_
  refine callV0 (cells' := 0) (slots' := 0) (Wd := 3) (argsL := []) (rest := [(.int 0), (.int 46), (.ref t1)]) (pay_len G O0 (n := (4 : Int32)) p1 rfl (by decide) (by decide)) E3 (wk G 46 rfl) (wk G 47 rfl) (wk G 49 rfl) (wk G 49 rfl) (wk G 48 rfl) (by decide) pd6 rfl rfl (by rw [hml]; rfl) (nb rfl) rfl rfl (by decide) (by decide) all0 (fun _ _ => sf0) (D d13_14) (k_v 17 rfl ?_)
  rintro _ _ ⟨rfl, rfl⟩ -
  refine callS0 (cells' := 0) (slots' := 0) (Wd := 0) (argsL := [(.ref t1), (.int 46), (.int 0), (.int 4)]) (rest := []) (pay_of (a0 := a0) (c_idxl4 l G t1 k2 ((c0).toInt8.toInt32) ((c1).toInt8.toInt32) ((c2).toInt8.toInt32) ((c3).toInt8.toInt32) h0 O0 A6) (wk G 59 rfl) (wk G 58 rfl) (by decide) (by decide)) (wk G 56 rfl) (wk G 57 rfl) (wk G 58 rfl) (wk G 59 rfl) (by decide) pd9 rfl rfl (by rw [hml]; rfl) (nb rfl) rfl rfl (by decide) (by decide) all0 (fun _ _ => sf0) (D d13_17) (k_v 20 rfl ?_)
  rintro _ h11 (⟨rfl, rfl, f13⟩ | ⟨rfl, rfl, f14, f15⟩ | ⟨rfl, rfl, f16, f17, f18⟩ | ⟨rfl, rfl, f19, f20, f21, f22⟩ | ⟨rfl, rfl, f23, f24, f25, f26⟩) K12
  · refine go_goto 36 (D d13_20) (by decide) rfl ?_
    refine go_ireturn hret hlk rfl (by simp) (D d13_36) (by decide) (by decide) ⟨_, rfl, (Or.inl ⟨rfl, rfl, ((b46 (by obtain ⟨_, _, _, _, _, _, q, _⟩ := id p1; exact q _ (by simp) : C8 c0)).mp f13)⟩)⟩ (Keep.refl h0 [])
  · refine go_goto 36 (D d13_20) (by decide) rfl ?_
    refine go_ireturn hret hlk rfl (by simp) (D d13_36) (by decide) (by decide) ⟨_, rfl, (Or.inr (Or.inl ⟨rfl, rfl, (fun z => f14 ((b46 (by obtain ⟨_, _, _, _, _, _, q, _⟩ := id p1; exact q _ (by simp) : C8 c0)).mpr z)), ((b46 (by obtain ⟨_, _, _, _, _, _, q, _⟩ := id p1; exact q _ (by simp) : C8 c1)).mp f15)⟩))⟩ (Keep.refl h0 [])
  · refine go_goto 36 (D d13_20) (by decide) rfl ?_
    refine go_ireturn hret hlk rfl (by simp) (D d13_36) (by decide) (by decide) ⟨_, rfl, (Or.inr (Or.inr (Or.inl ⟨rfl, rfl, (fun z => f16 ((b46 (by obtain ⟨_, _, _, _, _, _, q, _⟩ := id p1; exact q _ (by simp) : C8 c0)).mpr z)), (fun z => f17 ((b46 (by obtain ⟨_, _, _, _, _, _, q, _⟩ := id p1; exact q _ (by simp) : C8 c1)).mpr z)), ((b46 (by obtain ⟨_, _, _, _, _, _, q, _⟩ := id p1; exact q _ (by simp) : C8 c2)).mp f18)⟩)))⟩ (Keep.refl h0 [])
  · refine go_goto 36 (D d13_20) (by decide) rfl ?_
    refine go_ireturn hret hlk rfl (by simp) (D d13_36) (by decide) (by decide) ⟨_, rfl, (Or.inr (Or.inr (Or.inr (Or.inl ⟨rfl, rfl, (fun z => f19 ((b46 (by obtain ⟨_, _, _, _, _, _, q, _⟩ := id p1; exact q _ (by simp) : C8 c0)).mpr z)), (fun z => f20 ((b46 (by obtain ⟨_, _, _, _, _, _, q, _⟩ := id p1; exact q _ (by simp) : C8 c1)).mpr z)), (fun z => f21 ((b46 (by obtain ⟨_, _, _, _, _, _, q, _⟩ := id p1; exact q _ (by simp) : C8 c2)).mpr z)), ((b46 (by obtain ⟨_, _, _, _, _, _, q, _⟩ := id p1; exact q _ (by simp) : C8 c3)).mp f22)⟩))))⟩ (Keep.refl h0 [])
  · refine go_goto 36 (D d13_20) (by decide) rfl ?_
    refine go_ireturn hret hlk rfl (by simp) (D d13_36) (by decide) (by decide) ⟨_, rfl, (Or.inr (Or.inr (Or.inr (Or.inr (⟨rfl, rfl, (fun z => f23 ((b46 (by obtain ⟨_, _, _, _, _, _, q, _⟩ := id p1; exact q _ (by simp) : C8 c0)).mpr z)), (fun z => f24 ((b46 (by obtain ⟨_, _, _, _, _, _, q, _⟩ := id p1; exact q _ (by simp) : C8 c1)).mpr z)), (fun z => f25 ((b46 (by obtain ⟨_, _, _, _, _, _, q, _⟩ := id p1; exact q _ (by simp) : C8 c2)).mpr z)), (fun z => f26 ((b46 (by obtain ⟨_, _, _, _, _, _, q, _⟩ := id p1; exact q _ (by simp) : C8 c3)).mpr z))⟩)))))⟩ (Keep.refl h0 [])
theorem c_idx4 (l : Launch) {Z : State} {a0 : Array Value} (G : GH Z a0) (a : Addr) (c0 : Int32) (c1 : Int32) (c2 : Int32) (c3 : Int32) (h0 : Heap) (O0 : Old Z Z.heap.size h0) (p1 : Str Z h0 a [c0, c1, c2, c3]) : Con false [] l Z (⟨"java/lang/String", "indexOf", "(I)I"⟩ : MethodName) jdk_42_method_79_code 2 (some .int) [] (rm4 3 0 0 46) #[(.ref a), (.int 46)] h0 [] (rvl (Q_idx4 Z a c0 c1 c2 c3 h0)) := by
  refine con_of (a0 := a0) (plainFor_of_name pn1) (fun q => rfl) EW.nil O0 (fun m => ef_idx4 m a) ?_
  intro p_ e_ s_ m_ below_ meth_ c_ D hml hret hlk hnm
  refine go_aload_n 1 (D d12_0) rfl rfl rfl ?_
  refine go_iload_n 2 (D d12_1) rfl rfl ?_
  refine go_iconst 3 (v := 0) (D d12_2) rfl rfl ?_
  refine callV0 (cells' := 0) (slots' := 0) (Wd := 0) (argsL := [(.int 46), (.int 0)]) (rest := []) (pay_of (a0 := a0) (c_idxs4 l G a c0 c1 c2 c3 h0 O0 p1) (wk G 39 rfl) (wk G 7 rfl) (by decide) (by decide)) p1.exa (wk G 35 rfl) (wk G 36 rfl) (wk G 38 rfl) (wk G 38 rfl) (wk G 37 rfl) (by decide) pd8 rfl rfl (by rw [hml]; rfl) (nb rfl) rfl rfl (by decide) (by decide) all0 (fun _ _ => sf0) (D d12_3) (k_v 6 rfl ?_)
  rintro _ h1 (⟨rfl, rfl, f3⟩ | ⟨rfl, rfl, f4, f5⟩ | ⟨rfl, rfl, f6, f7, f8⟩ | ⟨rfl, rfl, f9, f10, f11, f12⟩ | ⟨rfl, rfl, f13, f14, f15, f16⟩) K2
  · refine go_ireturn hret hlk rfl (by simp) (D d12_6) (by decide) (by decide) ⟨_, rfl, (Or.inl ⟨rfl, rfl, f3⟩)⟩ (Keep.refl h0 [])
  · refine go_ireturn hret hlk rfl (by simp) (D d12_6) (by decide) (by decide) ⟨_, rfl, (Or.inr (Or.inl ⟨rfl, rfl, f4, f5⟩))⟩ (Keep.refl h0 [])
  · refine go_ireturn hret hlk rfl (by simp) (D d12_6) (by decide) (by decide) ⟨_, rfl, (Or.inr (Or.inr (Or.inl ⟨rfl, rfl, f6, f7, f8⟩)))⟩ (Keep.refl h0 [])
  · refine go_ireturn hret hlk rfl (by simp) (D d12_6) (by decide) (by decide) ⟨_, rfl, (Or.inr (Or.inr (Or.inr (Or.inl ⟨rfl, rfl, f9, f10, f11, f12⟩))))⟩ (Keep.refl h0 [])
  · refine go_ireturn hret hlk rfl (by simp) (D d12_6) (by decide) (by decide) ⟨_, rfl, (Or.inr (Or.inr (Or.inr (Or.inr (⟨rfl, rfl, f13, f14, f15, f16⟩)))))⟩ (Keep.refl h0 [])
theorem ef_subi1_4 (m : MethodId) (a : Addr)  : entryFrame m #[(.ref a), (.int 1)] 2 = mkF m 0 #[.val (.ref a), .val (.int 1)] [] := by first | (simp [entryFrame, mkF, argsToLocals, Value.category]; done) | rfl
def Q_subi1_4 (Z : State) (a : Addr) (c0 : Int32) (c1 : Int32) (c2 : Int32) (c3 : Int32) (h0 : Heap) (xv : Value) (h : Heap) : Prop := ∃ (r : Addr), (.ref r) = xv ∧ Str Z h r [c1, c2, c3]
theorem ef_sub1_4_4 (m : MethodId) (a : Addr)  : entryFrame m #[(.ref a), (.int 1), (.int 4)] 5 = mkF m 0 #[.val (.ref a), .val (.int 1), .val (.int 4), .unset, .unset] [] := by first | (simp [entryFrame, mkF, argsToLocals, Value.category]; done) | rfl
def Q_sub1_4_4 (Z : State) (a : Addr) (c0 : Int32) (c1 : Int32) (c2 : Int32) (c3 : Int32) (h0 : Heap) (xv : Value) (h : Heap) : Prop := ∃ (r : Addr), (.ref r) = xv ∧ Str Z h r [c1, c2, c3]
theorem ef_news1_3_4 (m : MethodId) (t : Addr)  : entryFrame m #[(.ref t), (.int 1), (.int 3)] 3 = mkF m 0 #[.val (.ref t), .val (.int 1), .val (.int 3)] [] := by first | (simp [entryFrame, mkF, argsToLocals, Value.category]; done) | rfl
def Q_news1_3_4 (Z : State) (t : Addr) (k : ClassId) (c0 : Int32) (c1 : Int32) (c2 : Int32) (c3 : Int32) (h0 : Heap) (xv : Value) (h : Heap) : Prop := ∃ (r : Addr), (.ref r) = xv ∧ Str Z h r [c1, c2, c3]
theorem ef_cor1_4_4 (m : MethodId) (t : Addr)  : entryFrame m #[(.ref t), (.int 1), (.int 4)] 3 = mkF m 0 #[.val (.ref t), .val (.int 1), .val (.int 4)] [] := by first | (simp [entryFrame, mkF, argsToLocals, Value.category]; done) | rfl
def Q_cor1_4_4 (Z : State) (t : Addr) (k : ClassId) (b0 : Int32) (b1 : Int32) (b2 : Int32) (b3 : Int32) (h0 : Heap) (xv : Value) (h : Heap) : Prop := ∃ (r : Addr) (k2 : ClassId), (.ref r) = xv ∧ h0.size ≤ r ∧ Arv Z h r k2 (.byte) (3 : Int32) [(.int b1), (.int b2), (.int b3)] (.int 0)
theorem ef_corb1_4_4 (m : MethodId) (t : Addr)  : entryFrame m #[(.ref t), (.int 1), (.int 4)] 5 = mkF m 0 #[.val (.ref t), .val (.int 1), .val (.int 4), .unset, .unset] [] := by first | (simp [entryFrame, mkF, argsToLocals, Value.category]; done) | rfl
def Q_corb1_4_4 (Z : State) (t : Addr) (k : ClassId) (b0 : Int32) (b1 : Int32) (b2 : Int32) (b3 : Int32) (h0 : Heap) (xv : Value) (h : Heap) : Prop := ∃ (r : Addr) (k2 : ClassId), (.ref r) = xv ∧ h0.size ≤ r ∧ Arv Z h r k2 (.byte) (3 : Int32) [(.int b1), (.int b2), (.int b3)] (.int 0)
theorem c_corb1_4_4 (l : Launch) {Z : State} {a0 : Array Value} (G : GH Z a0) (t : Addr) (k : ClassId) (b0 : Int32) (b1 : Int32) (b2 : Int32) (b3 : Int32) (h0 : Heap) (O0 : Old Z Z.heap.size h0) (p1 : Arv Z h0 t k (.byte) (4 : Int32) [(.int b0), (.int b1), (.int b2), (.int b3)] (.int 0)) : Con false [] l Z (⟨"java/util/Arrays", "copyOfRangeByte", "([BII)[B"⟩ : MethodName) jdk_65_method_133_code 5 (some (.array .byte)) [] (rm4 1 1 3 18) #[(.ref t), (.int 1), (.int 4)] h0 [] (rvl (Q_corb1_4_4 Z t k b0 b1 b2 b3 h0)) := by
  refine con_of (a0 := a0) (plainFor_of_name pn4) (fun q => rfl) EW.nil O0 (fun m => ef_corb1_4_4 m t) ?_
  intro p_ e_ s_ m_ below_ meth_ c_ D hml hret hlk hnm
  refine go_iload_n 1 (D d22_0) rfl rfl ?_
  refine go_iload_n 2 (D d22_1) rfl rfl ?_
  refine callS0 (cells' := 0) (slots' := 0) (Wd := 0) (argsL := [(.int 1), (.int 4)]) (rest := []) (pay_of (a0 := a0) (c_chkl l G (1 : Int32) (4 : Int32) h0 O0 (by decide)) (wk G 123 rfl) (wk G 116 rfl) (by decide) (by decide)) (wk G 121 rfl) (wk G 122 rfl) (wk G 116 rfl) (wk G 123 rfl) (by decide) pd17 rfl rfl (by rw [hml]; rfl) (nb rfl) rfl rfl (by decide) (by decide) all0 (fun _ _ => sf0) (D d22_2) (k_n 5 rfl ?_)
  rintro  h1 rfl K2
  refine go_iload_n 6 (D d22_5) rfl rfl ?_
  refine go_iload_n 7 (D d22_6) rfl rfl ?_
  refine go_isub 8 (z := (3 : Int32)) (D d22_7) rfl (by decide) ?_
  refine go_istore_n 9 (ls' := #[vr t, vi 1, vi 4, vi 3, un]) (D d22_8) rfl rfl ?_
  refine go_iload_n 10 (D d22_9) rfl rfl ?_
  refine go_newP 12 (cells' := 1) (slots' := 3) (cap := 3) (vs := [(.int 0), (.int 0), (.int 0)]) (ty := .byte) (dv := .int 0) (wk G 19 rfl) rfl rfl (D d22_10) rfl (by decide) rfl (by decide) rfl rfl rfl (by decide) (by decide) (fun h3 a4 k8 g5 X6 A7 => ?_)
  refine go_astore 14 (ls' := #[vr t, vi 1, vi 4, vi 3, vr a4]) (D d22_12) rfl rfl rfl ?_
  refine go_aload_n 15 (D d22_14) rfl rfl rfl ?_
  refine go_iload_n 16 (D d22_15) rfl rfl ?_
  refine go_aload 18 (D d22_16) rfl rfl rfl ?_
  refine go_iconst 19 (v := 0) (D d22_18) rfl rfl ?_
  refine go_aload_n 20 (D d22_19) rfl rfl rfl ?_
  have K9 : Keep h0 h3 [] := ((Keep.refl h0 []).ext X6)
  have A10 := (p1.keep K9 nin0)
  refine go_arraylength 21 A10 (D d22_20) rfl ?_
  refine go_iload_n 22 (D d22_21) rfl rfl ?_
  refine go_isub 23 (z := (3 : Int32)) (D d22_22) rfl (by decide) ?_
  refine go_iload_n 24 (D d22_23) rfl rfl ?_
  refine go_old (fun O11 => ?_)
  refine callS0 (cells' := 1) (slots' := 3) (Wd := 4) (argsL := [(.int 3), (.int 3)]) (rest := [(.int 0), (.ref a4), (.int 1), (.ref t)]) (pay_of (a0 := a0) (c_min3_3 l G  h3 O11 ) (wk G 69 rfl) (wk G 65 rfl) (by decide) (by decide)) (wk G 124 rfl) (wk G 68 rfl) (wk G 65 rfl) (wk G 69 rfl) (by decide) pd8 rfl rfl (by rw [hml]; rfl) (nb rfl) rfl rfl (by decide) (by decide) all0 (fun _ _ => sf0) (D d22_24) (k_v 27 rfl ?_)
  rintro _ h12 ⟨rfl, rfl⟩ K13
  refine go_acopy 30 (Wd := 0) (vd' := [(.int b1), (.int b2), (.int b3)]) (wk G 125 rfl) (wk G 128 rfl) (wk G 126 rfl) (wk G 127 rfl) rfl A10 A7 rfl (by decide) (by decide) (by decide) (nb rfl) (nb rfl) (nb rfl) (Nat.le_trans O0.2.1 (Nat.le_of_eq g5)) rfl (by rw [hml]; rfl) (by decide) (by decide) (by decide) (D d22_27) rfl (fun h14 K15 A16 => ?_)
  refine go_aload 32 (D d22_30) rfl rfl rfl ?_
  have K17 : Keep h0 h14 [] := (K9.trans K15 (allS (Or.inr (Nat.le_of_eq g5)) all0))
  refine go_areturn hret hlk rfl rfl (D d22_32) (by decide) (by decide) ⟨_, rfl, ⟨a4, k8, rfl, (Nat.le_of_eq g5), A16⟩⟩ K17
theorem c_cor1_4_4 (l : Launch) {Z : State} {a0 : Array Value} (G : GH Z a0) (t : Addr) (k : ClassId) (b0 : Int32) (b1 : Int32) (b2 : Int32) (b3 : Int32) (h0 : Heap) (O0 : Old Z Z.heap.size h0) (p1 : Arv Z h0 t k (.byte) (4 : Int32) [(.int b0), (.int b1), (.int b2), (.int b3)] (.int 0)) : Con false [] l Z (⟨"java/util/Arrays", "copyOfRange", "([BII)[B"⟩ : MethodName) jdk_65_method_132_code 3 (some (.array .byte)) [] (rm4 2 1 3 34) #[(.ref t), (.int 1), (.int 4)] h0 [] (rvl (Q_cor1_4_4 Z t k b0 b1 b2 b3 h0)) := by
  refine con_of (a0 := a0) (plainFor_of_name pn4) (fun q => rfl) EW.nil O0 (fun m => ef_cor1_4_4 m t) ?_
  intro p_ e_ s_ m_ below_ meth_ c_ D hml hret hlk hnm
  refine go_iload_n 1 (D d21_0) rfl rfl ?_
  refine go_ifT 10 (D d21_1) (by decide) rfl (by decide) ?_
  refine go_aload_n 11 (D d21_10) rfl rfl rfl ?_
  refine go_iload_n 12 (D d21_11) rfl rfl ?_
  refine go_iload_n 13 (D d21_12) rfl rfl ?_
  refine callS0 (cells' := 1) (slots' := 3) (Wd := 0) (argsL := [(.ref t), (.int 1), (.int 4)]) (rest := []) (pay_of (a0 := a0) (c_corb1_4_4 l G t k b0 b1 b2 b3 h0 O0 p1) (wk G 120 rfl) (wk G 116 rfl) (by decide) (by decide)) (wk G 118 rfl) (wk G 119 rfl) (wk G 116 rfl) (wk G 120 rfl) (by decide) pd18 rfl rfl (by rw [hml]; rfl) (nb rfl) rfl rfl (by decide) (by decide) all0 (fun _ _ => sf0) (D d21_13) (k_v 16 rfl ?_)
  rintro _ h1 ⟨r3, r4, rfl, f5, f6⟩ K2
  have K7 : Keep h0 h1 [] := ((Keep.refl h0 []).trans K2 all0)
  refine go_areturn hret hlk rfl rfl (D d21_16) (by decide) (by decide) ⟨_, rfl, ⟨r3, r4, rfl, f5, f6⟩⟩ K7
theorem c_news1_3_4 (l : Launch) {Z : State} {a0 : Array Value} (G : GH Z a0) (t : Addr) (k : ClassId) (c0 : Int32) (c1 : Int32) (c2 : Int32) (c3 : Int32) (h0 : Heap) (O0 : Old Z Z.heap.size h0) (p1 : Arv Z h0 t k (.byte) (4 : Int32) [(.int (c0).toInt8.toInt32), (.int (c1).toInt8.toInt32), (.int (c2).toInt8.toInt32), (.int (c3).toInt8.toInt32)] (.int 0)) (p2 : C8 c0) (p3 : C8 c1) (p4 : C8 c2) (p5 : C8 c3) : Con false [] l Z (⟨"java/lang/StringLatin1", "newString", "([BII)Ljava/lang/String;"⟩ : MethodName) jdk_43_method_47_code 3 (some (.object "java/lang/String")) [] (rm4 3 2 7 50) #[(.ref t), (.int 1), (.int 3)] h0 [] (rvl (Q_news1_3_4 Z t k c0 c1 c2 c3 h0)) := by
  refine con_of (a0 := a0) (plainFor_of_name pn2) (fun q => rfl) EW.nil O0 (fun m => ef_news1_3_4 m t) ?_
  intro p_ e_ s_ m_ below_ meth_ c_ D hml hret hlk hnm
  refine go_iload_n 1 (D d20_0) rfl rfl ?_
  refine go_ifT 7 (D d20_1) (by decide) rfl (by decide) ?_
  refine go_newO 10 (cells' := 1) (slots' := 4) (wk G 113 rfl) (wk G 6 rfl) (wk G 7 rfl) (D d20_7) rfl rfl rfl (by decide) (by decide) (fun h1 a2 g3 X4 E5 D6 U7 => ?_)
  refine go_dup 11 (D d20_10) rfl rfl ?_
  refine go_aload_n 12 (D d20_11) rfl rfl rfl ?_
  refine go_iload_n 13 (D d20_12) rfl rfl ?_
  refine go_iload_n 14 (D d20_13) rfl rfl ?_
  refine go_iload_n 15 (D d20_14) rfl rfl ?_
  refine go_iadd 16 (z := (4 : Int32)) (D d20_15) rfl (by decide) ?_
  have K8 : Keep h0 h1 [] := ((Keep.refl h0 []).ext X4)
  have A9 := (p1.keep K8 nin0)
  refine go_old (fun O10 => ?_)
  refine callS0 (cells' := 2) (slots' := 7) (Wd := 2) (argsL := [(.ref t), (.int 1), (.int 4)]) (rest := [(.ref a2), (.ref a2)]) (pay_of (a0 := a0) (c_cor1_4_4 l G t k ((c0).toInt8.toInt32) ((c1).toInt8.toInt32) ((c2).toInt8.toInt32) ((c3).toInt8.toInt32) h1 O10 A9) (wk G 117 rfl) (wk G 116 rfl) (by decide) (by decide)) (wk G 114 rfl) (wk G 115 rfl) (wk G 116 rfl) (wk G 117 rfl) (by decide) pd18 rfl rfl (by rw [hml]; rfl) (nb rfl) rfl rfl (by decide) (by decide) all0 (fun _ _ => sf0) (D d20_16) (k_v 19 rfl ?_)
  rintro _ h11 ⟨r13, r14, rfl, f15, f16⟩ K12
  refine go_iconst 20 (v := 0) (D d20_19) rfl rfl ?_
  have K17 : Keep h1 h11 [] := ((Keep.refl h1 []).trans K12 all0)
  have E18 := (E5.keep K17)
  have F19 := D6 (Or.inr (wk G 20 rfl)) (ty := (.array .byte)) (by decide)
  have F20 := (F19.keep K17 nin0)
  have F21 := D6 (Or.inr (wk G 21 rfl)) (ty := .byte) (by decide)
  have F22 := (F21.keep K17 nin0)
  refine go_old (fun O23 => ?_)
  refine callI0 (cells' := 2) (slots' := 7) (Wd := 1) (argsL := [(.ref r13), (.int 0)]) (rest := [(.ref a2)]) (pay_of (a0 := a0) (c_strbb l G a2 r13 h11 O23 E18 (Nat.le_trans O0.2.1 (Nat.le_of_eq g3)) F20 F22) (wk G 131 rfl) (wk G 7 rfl) (by decide) (by decide)) rfl (wk G 129 rfl) (wk G 130 rfl) (wk G 131 rfl) (by decide) pd19 rfl rfl (by rw [hml]; rfl) (nb rfl) rfl rfl (by decide) (by decide) (allS (Nat.le_trans O0.2.1 (Nat.le_of_eq g3)) all0) (fun _ hal => (sfS safe_nil sf0)) (D d20_20) (k_n 23 rfl ?_)
  rintro  h24 ⟨f26, f27⟩ K25
  have K28 : Keep h0 h11 [] := (K8.trans K12 all0)
  have K29 : Keep h0 h24 [] := (K28.trans K25 (allS (Or.inr (Nat.le_of_eq g3)) all0))
  have E30 := (E18.keep K25)
  have A31 := (f16.keep K25 (ninS (Nat.ne_of_gt (Nat.lt_of_lt_of_le E5.lt f15)) nin0))
  have S32 : Str Z h24 a2 [c1, c2, c3] := ⟨r13, r14, E30, f26, f27, A31, (c8c p3 (c8c p4 (c8c p5 c8n))), Nat.le_of_ble_eq_true rfl⟩
  refine go_areturn hret hlk rfl rfl (D d20_23) (by decide) (by decide) ⟨_, rfl, ⟨a2, rfl, S32⟩⟩ K29
theorem c_sub1_4_4 (l : Launch) {Z : State} {a0 : Array Value} (G : GH Z a0) (a : Addr) (c0 : Int32) (c1 : Int32) (c2 : Int32) (c3 : Int32) (h0 : Heap) (O0 : Old Z Z.heap.size h0) (p1 : Str Z h0 a [c0, c1, c2, c3]) : Con false [] l Z (⟨"java/lang/String", "substring", "(II)Ljava/lang/String;"⟩ : MethodName) jdk_42_method_92_code 5 (some (.object "java/lang/String")) [] (rm4 4 2 7 64) #[(.ref a), (.int 1), (.int 4)] h0 [] (rvl (Q_sub1_4_4 Z a c0 c1 c2 c3 h0)) := by
  refine con_of (a0 := a0) (plainFor_of_name pn1) (fun q => rfl) EW.nil O0 (fun m => ef_sub1_4_4 m a) ?_
  intro p_ e_ s_ m_ below_ meth_ c_ D hml hret hlk hnm
  have q1 : C8 c0 := by obtain ⟨_, _, _, _, _, _, q, _⟩ := id p1; exact q _ (by simp)
  have q2 : C8 c1 := by obtain ⟨_, _, _, _, _, _, q, _⟩ := id p1; exact q _ (by simp)
  have q3 : C8 c2 := by obtain ⟨_, _, _, _, _, _, q, _⟩ := id p1; exact q _ (by simp)
  have q4 : C8 c3 := by obtain ⟨_, _, _, _, _, _, q, _⟩ := id p1; exact q _ (by simp)
  refine go_aload_n 1 (D d18_0) rfl rfl rfl ?_
  refine callV0 (cells' := 0) (slots' := 0) (Wd := 0) (argsL := []) (rest := []) (pay_len G O0 (n := (4 : Int32)) p1 rfl (by decide) (by decide)) p1.exa (wk G 46 rfl) (wk G 47 rfl) (wk G 49 rfl) (wk G 49 rfl) (wk G 48 rfl) (by decide) pd6 rfl rfl (by rw [hml]; rfl) (nb rfl) rfl rfl (by decide) (by decide) all0 (fun _ _ => sf0) (D d18_1) (k_v 4 rfl ?_)
  rintro _ _ ⟨rfl, rfl⟩ -
  refine go_istore_n 5 (ls' := #[vr a, vi 1, vi 4, vi 4, un]) (D d18_4) rfl rfl ?_
  refine go_iload_n 6 (D d18_5) rfl rfl ?_
  refine go_iload_n 7 (D d18_6) rfl rfl ?_
  refine go_iload_n 8 (D d18_7) rfl rfl ?_
  refine callS0 (cells' := 0) (slots' := 0) (Wd := 0) (argsL := [(.int 1), (.int 4), (.int 4)]) (rest := []) (pay_of (a0 := a0) (c_cbbe l G (1 : Int32) (4 : Int32) (4 : Int32) h0 O0 (by decide) (by decide) (by decide)) (wk G 82 rfl) (wk G 7 rfl) (by decide) (by decide)) (wk G 80 rfl) (wk G 81 rfl) (wk G 7 rfl) (wk G 82 rfl) (by decide) pd11 rfl rfl (by rw [hml]; rfl) (nb rfl) rfl rfl (by decide) (by decide) all0 (fun _ _ => sf0) (D d18_8) (k_n 11 rfl ?_)
  rintro  h5 rfl K6
  refine go_iload_n 12 (D d18_11) rfl rfl ?_
  refine go_ifT 22 (D d18_12) (by decide) rfl (by decide) ?_
  refine go_iload_n 23 (D d18_22) rfl rfl ?_
  refine go_iload_n 24 (D d18_23) rfl rfl ?_
  refine go_isub 25 (z := (3 : Int32)) (D d18_24) rfl (by decide) ?_
  refine go_istore 27 (ls' := #[vr a, vi 1, vi 4, vi 4, vi 3]) (D d18_25) rfl rfl ?_
  refine go_aload_n 28 (D d18_27) rfl rfl rfl ?_
  obtain ⟨t7, k8, E9, F10, F11, A12, B13, L14⟩ := id p1
  refine callV0 (cells' := 0) (slots' := 0) (Wd := 0) (argsL := []) (rest := []) (pay_of (a0 := a0) (c_islatin l G a h0 O0 F11) (wk G 44 rfl) (wk G 7 rfl) (by decide) (by decide)) E9 (wk G 40 rfl) (wk G 41 rfl) (wk G 43 rfl) (wk G 43 rfl) (wk G 42 rfl) (by decide) pd5 rfl rfl (by rw [hml]; rfl) (nb rfl) rfl rfl (by decide) (by decide) all0 (fun _ _ => sf0) (D d18_28) (k_v 31 rfl ?_)
  rintro _ h15 ⟨rfl, rfl⟩ K16
  refine go_ifF 34 (D d18_31) rfl (by decide) ?_
  refine go_aload_n 35 (D d18_34) rfl rfl rfl ?_
  refine go_getF 38 (wk G 24 rfl) Via.refl F10 (D d18_35) rfl ?_
  refine go_iload_n 39 (D d18_38) rfl rfl ?_
  refine go_iload 41 (D d18_39) rfl rfl ?_
  refine callS0 (cells' := 2) (slots' := 7) (Wd := 0) (argsL := [(.ref t7), (.int 1), (.int 3)]) (rest := []) (pay_of (a0 := a0) (c_news1_3_4 l G t7 k8 c0 c1 c2 c3 h0 O0 A12 q1 q2 q3 q4) (wk G 112 rfl) (wk G 58 rfl) (by decide) (by decide)) (wk G 110 rfl) (wk G 111 rfl) (wk G 58 rfl) (wk G 112 rfl) (by decide) pd16 rfl rfl (by rw [hml]; rfl) (nb rfl) rfl rfl (by decide) (by decide) all0 (fun _ _ => sf0) (D d18_41) (k_v 44 rfl ?_)
  rintro _ h17 ⟨r19, rfl, f20⟩ K18
  refine go_goto 57 (D d18_44) (by decide) rfl ?_
  have K21 : Keep h0 h17 [] := ((Keep.refl h0 []).trans K18 all0)
  refine go_areturn hret hlk rfl rfl (D d18_57) (by decide) (by decide) ⟨_, rfl, ⟨r19, rfl, f20⟩⟩ K21
theorem c_subi1_4 (l : Launch) {Z : State} {a0 : Array Value} (G : GH Z a0) (a : Addr) (c0 : Int32) (c1 : Int32) (c2 : Int32) (c3 : Int32) (h0 : Heap) (O0 : Old Z Z.heap.size h0) (p1 : Str Z h0 a [c0, c1, c2, c3]) : Con false [] l Z (⟨"java/lang/String", "substring", "(I)Ljava/lang/String;"⟩ : MethodName) jdk_42_method_91_code 2 (some (.object "java/lang/String")) [] (rm4 5 2 7 80) #[(.ref a), (.int 1)] h0 [] (rvl (Q_subi1_4 Z a c0 c1 c2 c3 h0)) := by
  refine con_of (a0 := a0) (plainFor_of_name pn1) (fun q => rfl) EW.nil O0 (fun m => ef_subi1_4 m a) ?_
  intro p_ e_ s_ m_ below_ meth_ c_ D hml hret hlk hnm
  have q1 : C8 c0 := by obtain ⟨_, _, _, _, _, _, q, _⟩ := id p1; exact q _ (by simp)
  have q2 : C8 c1 := by obtain ⟨_, _, _, _, _, _, q, _⟩ := id p1; exact q _ (by simp)
  have q3 : C8 c2 := by obtain ⟨_, _, _, _, _, _, q, _⟩ := id p1; exact q _ (by simp)
  have q4 : C8 c3 := by obtain ⟨_, _, _, _, _, _, q, _⟩ := id p1; exact q _ (by simp)
  refine go_aload_n 1 (D d17_0) rfl rfl rfl ?_
  refine go_iload_n 2 (D d17_1) rfl rfl ?_
  refine go_aload_n 3 (D d17_2) rfl rfl rfl ?_
  refine callV0 (cells' := 0) (slots' := 0) (Wd := 2) (argsL := []) (rest := [(.int 1), (.ref a)]) (pay_len G O0 (n := (4 : Int32)) p1 rfl (by decide) (by decide)) p1.exa (wk G 46 rfl) (wk G 47 rfl) (wk G 49 rfl) (wk G 49 rfl) (wk G 48 rfl) (by decide) pd6 rfl rfl (by rw [hml]; rfl) (nb rfl) rfl rfl (by decide) (by decide) all0 (fun _ _ => sf0) (D d17_3) (k_v 6 rfl ?_)
  rintro _ _ ⟨rfl, rfl⟩ -
  refine callV0 (cells' := 2) (slots' := 7) (Wd := 0) (argsL := [(.int 1), (.int 4)]) (rest := []) (pay_of (a0 := a0) (c_sub1_4_4 l G a c0 c1 c2 c3 h0 O0 p1) (wk G 79 rfl) (wk G 7 rfl) (by decide) (by decide)) p1.exa (wk G 75 rfl) (wk G 76 rfl) (wk G 78 rfl) (wk G 78 rfl) (wk G 77 rfl) (by decide) pd12 rfl rfl (by rw [hml]; rfl) (nb rfl) rfl rfl (by decide) (by decide) all0 (fun _ _ => sf0) (D d17_6) (k_v 9 rfl ?_)
  rintro _ h5 ⟨r7, rfl, f8⟩ K6
  have K9 : Keep h0 h5 [] := ((Keep.refl h0 []).trans K6 all0)
  refine go_areturn hret hlk rfl rfl (D d17_9) (by decide) (by decide) ⟨_, rfl, ⟨r7, rfl, f8⟩⟩ K9
theorem ef_subi2_4 (m : MethodId) (a : Addr)  : entryFrame m #[(.ref a), (.int 2)] 2 = mkF m 0 #[.val (.ref a), .val (.int 2)] [] := by first | (simp [entryFrame, mkF, argsToLocals, Value.category]; done) | rfl
def Q_subi2_4 (Z : State) (a : Addr) (c0 : Int32) (c1 : Int32) (c2 : Int32) (c3 : Int32) (h0 : Heap) (xv : Value) (h : Heap) : Prop := ∃ (r : Addr), (.ref r) = xv ∧ Str Z h r [c2, c3]
theorem ef_sub2_4_4 (m : MethodId) (a : Addr)  : entryFrame m #[(.ref a), (.int 2), (.int 4)] 5 = mkF m 0 #[.val (.ref a), .val (.int 2), .val (.int 4), .unset, .unset] [] := by first | (simp [entryFrame, mkF, argsToLocals, Value.category]; done) | rfl
def Q_sub2_4_4 (Z : State) (a : Addr) (c0 : Int32) (c1 : Int32) (c2 : Int32) (c3 : Int32) (h0 : Heap) (xv : Value) (h : Heap) : Prop := ∃ (r : Addr), (.ref r) = xv ∧ Str Z h r [c2, c3]
theorem ef_news2_2_4 (m : MethodId) (t : Addr)  : entryFrame m #[(.ref t), (.int 2), (.int 2)] 3 = mkF m 0 #[.val (.ref t), .val (.int 2), .val (.int 2)] [] := by first | (simp [entryFrame, mkF, argsToLocals, Value.category]; done) | rfl
def Q_news2_2_4 (Z : State) (t : Addr) (k : ClassId) (c0 : Int32) (c1 : Int32) (c2 : Int32) (c3 : Int32) (h0 : Heap) (xv : Value) (h : Heap) : Prop := ∃ (r : Addr), (.ref r) = xv ∧ Str Z h r [c2, c3]
theorem ef_cor2_4_4 (m : MethodId) (t : Addr)  : entryFrame m #[(.ref t), (.int 2), (.int 4)] 3 = mkF m 0 #[.val (.ref t), .val (.int 2), .val (.int 4)] [] := by first | (simp [entryFrame, mkF, argsToLocals, Value.category]; done) | rfl
def Q_cor2_4_4 (Z : State) (t : Addr) (k : ClassId) (b0 : Int32) (b1 : Int32) (b2 : Int32) (b3 : Int32) (h0 : Heap) (xv : Value) (h : Heap) : Prop := ∃ (r : Addr) (k2 : ClassId), (.ref r) = xv ∧ h0.size ≤ r ∧ Arv Z h r k2 (.byte) (2 : Int32) [(.int b2), (.int b3)] (.int 0)
theorem ef_corb2_4_4 (m : MethodId) (t : Addr)  : entryFrame m #[(.ref t), (.int 2), (.int 4)] 5 = mkF m 0 #[.val (.ref t), .val (.int 2), .val (.int 4), .unset, .unset] [] := by first | (simp [entryFrame, mkF, argsToLocals, Value.category]; done) | rfl
def Q_corb2_4_4 (Z : State) (t : Addr) (k : ClassId) (b0 : Int32) (b1 : Int32) (b2 : Int32) (b3 : Int32) (h0 : Heap) (xv : Value) (h : Heap) : Prop := ∃ (r : Addr) (k2 : ClassId), (.ref r) = xv ∧ h0.size ≤ r ∧ Arv Z h r k2 (.byte) (2 : Int32) [(.int b2), (.int b3)] (.int 0)
theorem c_corb2_4_4 (l : Launch) {Z : State} {a0 : Array Value} (G : GH Z a0) (t : Addr) (k : ClassId) (b0 : Int32) (b1 : Int32) (b2 : Int32) (b3 : Int32) (h0 : Heap) (O0 : Old Z Z.heap.size h0) (p1 : Arv Z h0 t k (.byte) (4 : Int32) [(.int b0), (.int b1), (.int b2), (.int b3)] (.int 0)) : Con false [] l Z (⟨"java/util/Arrays", "copyOfRangeByte", "([BII)[B"⟩ : MethodName) jdk_65_method_133_code 5 (some (.array .byte)) [] (rm4 1 1 2 18) #[(.ref t), (.int 2), (.int 4)] h0 [] (rvl (Q_corb2_4_4 Z t k b0 b1 b2 b3 h0)) := by
  refine con_of (a0 := a0) (plainFor_of_name pn4) (fun q => rfl) EW.nil O0 (fun m => ef_corb2_4_4 m t) ?_
  intro p_ e_ s_ m_ below_ meth_ c_ D hml hret hlk hnm
  refine go_iload_n 1 (D d22_0) rfl rfl ?_
  refine go_iload_n 2 (D d22_1) rfl rfl ?_
  refine callS0 (cells' := 0) (slots' := 0) (Wd := 0) (argsL := [(.int 2), (.int 4)]) (rest := []) (pay_of (a0 := a0) (c_chkl l G (2 : Int32) (4 : Int32) h0 O0 (by decide)) (wk G 123 rfl) (wk G 116 rfl) (by decide) (by decide)) (wk G 121 rfl) (wk G 122 rfl) (wk G 116 rfl) (wk G 123 rfl) (by decide) pd17 rfl rfl (by rw [hml]; rfl) (nb rfl) rfl rfl (by decide) (by decide) all0 (fun _ _ => sf0) (D d22_2) (k_n 5 rfl ?_)
  rintro  h1 rfl K2
  refine go_iload_n 6 (D d22_5) rfl rfl ?_
  refine go_iload_n 7 (D d22_6) rfl rfl ?_
  refine go_isub 8 (z := (2 : Int32)) (D d22_7) rfl (by decide) ?_
  refine go_istore_n 9 (ls' := #[vr t, vi 2, vi 4, vi 2, un]) (D d22_8) rfl rfl ?_
  refine go_iload_n 10 (D d22_9) rfl rfl ?_
  refine go_newP 12 (cells' := 1) (slots' := 2) (cap := 2) (vs := [(.int 0), (.int 0)]) (ty := .byte) (dv := .int 0) (wk G 19 rfl) rfl rfl (D d22_10) rfl (by decide) rfl (by decide) rfl rfl rfl (by decide) (by decide) (fun h3 a4 k8 g5 X6 A7 => ?_)
  refine go_astore 14 (ls' := #[vr t, vi 2, vi 4, vi 2, vr a4]) (D d22_12) rfl rfl rfl ?_
  refine go_aload_n 15 (D d22_14) rfl rfl rfl ?_
  refine go_iload_n 16 (D d22_15) rfl rfl ?_
  refine go_aload 18 (D d22_16) rfl rfl rfl ?_
  refine go_iconst 19 (v := 0) (D d22_18) rfl rfl ?_
  refine go_aload_n 20 (D d22_19) rfl rfl rfl ?_
  have K9 : Keep h0 h3 [] := ((Keep.refl h0 []).ext X6)
  have A10 := (p1.keep K9 nin0)
  refine go_arraylength 21 A10 (D d22_20) rfl ?_
  refine go_iload_n 22 (D d22_21) rfl rfl ?_
  refine go_isub 23 (z := (2 : Int32)) (D d22_22) rfl (by decide) ?_
  refine go_iload_n 24 (D d22_23) rfl rfl ?_
  refine go_old (fun O11 => ?_)
  refine callS0 (cells' := 1) (slots' := 2) (Wd := 4) (argsL := [(.int 2), (.int 2)]) (rest := [(.int 0), (.ref a4), (.int 2), (.ref t)]) (pay_of (a0 := a0) (c_min2_2 l G  h3 O11 ) (wk G 69 rfl) (wk G 65 rfl) (by decide) (by decide)) (wk G 124 rfl) (wk G 68 rfl) (wk G 65 rfl) (wk G 69 rfl) (by decide) pd8 rfl rfl (by rw [hml]; rfl) (nb rfl) rfl rfl (by decide) (by decide) all0 (fun _ _ => sf0) (D d22_24) (k_v 27 rfl ?_)
  rintro _ h12 ⟨rfl, rfl⟩ K13
  refine go_acopy 30 (Wd := 0) (vd' := [(.int b2), (.int b3)]) (wk G 125 rfl) (wk G 128 rfl) (wk G 126 rfl) (wk G 127 rfl) rfl A10 A7 rfl (by decide) (by decide) (by decide) (nb rfl) (nb rfl) (nb rfl) (Nat.le_trans O0.2.1 (Nat.le_of_eq g5)) rfl (by rw [hml]; rfl) (by decide) (by decide) (by decide) (D d22_27) rfl (fun h14 K15 A16 => ?_)
  refine go_aload 32 (D d22_30) rfl rfl rfl ?_
  have K17 : Keep h0 h14 [] := (K9.trans K15 (allS (Or.inr (Nat.le_of_eq g5)) all0))
  refine go_areturn hret hlk rfl rfl (D d22_32) (by decide) (by decide) ⟨_, rfl, ⟨a4, k8, rfl, (Nat.le_of_eq g5), A16⟩⟩ K17
theorem c_cor2_4_4 (l : Launch) {Z : State} {a0 : Array Value} (G : GH Z a0) (t : Addr) (k : ClassId) (b0 : Int32) (b1 : Int32) (b2 : Int32) (b3 : Int32) (h0 : Heap) (O0 : Old Z Z.heap.size h0) (p1 : Arv Z h0 t k (.byte) (4 : Int32) [(.int b0), (.int b1), (.int b2), (.int b3)] (.int 0)) : Con false [] l Z (⟨"java/util/Arrays", "copyOfRange", "([BII)[B"⟩ : MethodName) jdk_65_method_132_code 3 (some (.array .byte)) [] (rm4 2 1 2 34) #[(.ref t), (.int 2), (.int 4)] h0 [] (rvl (Q_cor2_4_4 Z t k b0 b1 b2 b3 h0)) := by
  refine con_of (a0 := a0) (plainFor_of_name pn4) (fun q => rfl) EW.nil O0 (fun m => ef_cor2_4_4 m t) ?_
  intro p_ e_ s_ m_ below_ meth_ c_ D hml hret hlk hnm
  refine go_iload_n 1 (D d21_0) rfl rfl ?_
  refine go_ifT 10 (D d21_1) (by decide) rfl (by decide) ?_
  refine go_aload_n 11 (D d21_10) rfl rfl rfl ?_
  refine go_iload_n 12 (D d21_11) rfl rfl ?_
  refine go_iload_n 13 (D d21_12) rfl rfl ?_
  refine callS0 (cells' := 1) (slots' := 2) (Wd := 0) (argsL := [(.ref t), (.int 2), (.int 4)]) (rest := []) (pay_of (a0 := a0) (c_corb2_4_4 l G t k b0 b1 b2 b3 h0 O0 p1) (wk G 120 rfl) (wk G 116 rfl) (by decide) (by decide)) (wk G 118 rfl) (wk G 119 rfl) (wk G 116 rfl) (wk G 120 rfl) (by decide) pd18 rfl rfl (by rw [hml]; rfl) (nb rfl) rfl rfl (by decide) (by decide) all0 (fun _ _ => sf0) (D d21_13) (k_v 16 rfl ?_)
  rintro _ h1 ⟨r3, r4, rfl, f5, f6⟩ K2
  have K7 : Keep h0 h1 [] := ((Keep.refl h0 []).trans K2 all0)
  refine go_areturn hret hlk rfl rfl (D d21_16) (by decide) (by decide) ⟨_, rfl, ⟨r3, r4, rfl, f5, f6⟩⟩ K7
theorem c_news2_2_4 (l : Launch) {Z : State} {a0 : Array Value} (G : GH Z a0) (t : Addr) (k : ClassId) (c0 : Int32) (c1 : Int32) (c2 : Int32) (c3 : Int32) (h0 : Heap) (O0 : Old Z Z.heap.size h0) (p1 : Arv Z h0 t k (.byte) (4 : Int32) [(.int (c0).toInt8.toInt32), (.int (c1).toInt8.toInt32), (.int (c2).toInt8.toInt32), (.int (c3).toInt8.toInt32)] (.int 0)) (p2 : C8 c0) (p3 : C8 c1) (p4 : C8 c2) (p5 : C8 c3) : Con false [] l Z (⟨"java/lang/StringLatin1", "newString", "([BII)Ljava/lang/String;"⟩ : MethodName) jdk_43_method_47_code 3 (some (.object "java/lang/String")) [] (rm4 3 2 6 50) #[(.ref t), (.int 2), (.int 2)] h0 [] (rvl (Q_news2_2_4 Z t k c0 c1 c2 c3 h0)) := by
  refine con_of (a0 := a0) (plainFor_of_name pn2) (fun q => rfl) EW.nil O0 (fun m => ef_news2_2_4 m t) ?_
  intro p_ e_ s_ m_ below_ meth_ c_ D hml hret hlk hnm
  refine go_iload_n 1 (D d20_0) rfl rfl ?_
  refine go_ifT 7 (D d20_1) (by decide) rfl (by decide) ?_
  refine go_newO 10 (cells' := 1) (slots' := 4) (wk G 113 rfl) (wk G 6 rfl) (wk G 7 rfl) (D d20_7) rfl rfl rfl (by decide) (by decide) (fun h1 a2 g3 X4 E5 D6 U7 => ?_)
  refine go_dup 11 (D d20_10) rfl rfl ?_
  refine go_aload_n 12 (D d20_11) rfl rfl rfl ?_
  refine go_iload_n 13 (D d20_12) rfl rfl ?_
  refine go_iload_n 14 (D d20_13) rfl rfl ?_
  refine go_iload_n 15 (D d20_14) rfl rfl ?_
  refine go_iadd 16 (z := (4 : Int32)) (D d20_15) rfl (by decide) ?_
  have K8 : Keep h0 h1 [] := ((Keep.refl h0 []).ext X4)
  have A9 := (p1.keep K8 nin0)
  refine go_old (fun O10 => ?_)
  refine callS0 (cells' := 2) (slots' := 6) (Wd := 2) (argsL := [(.ref t), (.int 2), (.int 4)]) (rest := [(.ref a2), (.ref a2)]) (pay_of (a0 := a0) (c_cor2_4_4 l G t k ((c0).toInt8.toInt32) ((c1).toInt8.toInt32) ((c2).toInt8.toInt32) ((c3).toInt8.toInt32) h1 O10 A9) (wk G 117 rfl) (wk G 116 rfl) (by decide) (by decide)) (wk G 114 rfl) (wk G 115 rfl) (wk G 116 rfl) (wk G 117 rfl) (by decide) pd18 rfl rfl (by rw [hml]; rfl) (nb rfl) rfl rfl (by decide) (by decide) all0 (fun _ _ => sf0) (D d20_16) (k_v 19 rfl ?_)
  rintro _ h11 ⟨r13, r14, rfl, f15, f16⟩ K12
  refine go_iconst 20 (v := 0) (D d20_19) rfl rfl ?_
  have K17 : Keep h1 h11 [] := ((Keep.refl h1 []).trans K12 all0)
  have E18 := (E5.keep K17)
  have F19 := D6 (Or.inr (wk G 20 rfl)) (ty := (.array .byte)) (by decide)
  have F20 := (F19.keep K17 nin0)
  have F21 := D6 (Or.inr (wk G 21 rfl)) (ty := .byte) (by decide)
  have F22 := (F21.keep K17 nin0)
  refine go_old (fun O23 => ?_)
  refine callI0 (cells' := 2) (slots' := 6) (Wd := 1) (argsL := [(.ref r13), (.int 0)]) (rest := [(.ref a2)]) (pay_of (a0 := a0) (c_strbb l G a2 r13 h11 O23 E18 (Nat.le_trans O0.2.1 (Nat.le_of_eq g3)) F20 F22) (wk G 131 rfl) (wk G 7 rfl) (by decide) (by decide)) rfl (wk G 129 rfl) (wk G 130 rfl) (wk G 131 rfl) (by decide) pd19 rfl rfl (by rw [hml]; rfl) (nb rfl) rfl rfl (by decide) (by decide) (allS (Nat.le_trans O0.2.1 (Nat.le_of_eq g3)) all0) (fun _ hal => (sfS safe_nil sf0)) (D d20_20) (k_n 23 rfl ?_)
  rintro  h24 ⟨f26, f27⟩ K25
  have K28 : Keep h0 h11 [] := (K8.trans K12 all0)
  have K29 : Keep h0 h24 [] := (K28.trans K25 (allS (Or.inr (Nat.le_of_eq g3)) all0))
  have E30 := (E18.keep K25)
  have A31 := (f16.keep K25 (ninS (Nat.ne_of_gt (Nat.lt_of_lt_of_le E5.lt f15)) nin0))
  have S32 : Str Z h24 a2 [c2, c3] := ⟨r13, r14, E30, f26, f27, A31, (c8c p4 (c8c p5 c8n)), Nat.le_of_ble_eq_true rfl⟩
  refine go_areturn hret hlk rfl rfl (D d20_23) (by decide) (by decide) ⟨_, rfl, ⟨a2, rfl, S32⟩⟩ K29
theorem c_sub2_4_4 (l : Launch) {Z : State} {a0 : Array Value} (G : GH Z a0) (a : Addr) (c0 : Int32) (c1 : Int32) (c2 : Int32) (c3 : Int32) (h0 : Heap) (O0 : Old Z Z.heap.size h0) (p1 : Str Z h0 a [c0, c1, c2, c3]) : Con false [] l Z (⟨"java/lang/String", "substring", "(II)Ljava/lang/String;"⟩ : MethodName) jdk_42_method_92_code 5 (some (.object "java/lang/String")) [] (rm4 4 2 6 64) #[(.ref a), (.int 2), (.int 4)] h0 [] (rvl (Q_sub2_4_4 Z a c0 c1 c2 c3 h0)) := by
  refine con_of (a0 := a0) (plainFor_of_name pn1) (fun q => rfl) EW.nil O0 (fun m => ef_sub2_4_4 m a) ?_
  intro p_ e_ s_ m_ below_ meth_ c_ D hml hret hlk hnm
  have q1 : C8 c0 := by obtain ⟨_, _, _, _, _, _, q, _⟩ := id p1; exact q _ (by simp)
  have q2 : C8 c1 := by obtain ⟨_, _, _, _, _, _, q, _⟩ := id p1; exact q _ (by simp)
  have q3 : C8 c2 := by obtain ⟨_, _, _, _, _, _, q, _⟩ := id p1; exact q _ (by simp)
  have q4 : C8 c3 := by obtain ⟨_, _, _, _, _, _, q, _⟩ := id p1; exact q _ (by simp)
  refine go_aload_n 1 (D d18_0) rfl rfl rfl ?_
  refine callV0 (cells' := 0) (slots' := 0) (Wd := 0) (argsL := []) (rest := []) (pay_len G O0 (n := (4 : Int32)) p1 rfl (by decide) (by decide)) p1.exa (wk G 46 rfl) (wk G 47 rfl) (wk G 49 rfl) (wk G 49 rfl) (wk G 48 rfl) (by decide) pd6 rfl rfl (by rw [hml]; rfl) (nb rfl) rfl rfl (by decide) (by decide) all0 (fun _ _ => sf0) (D d18_1) (k_v 4 rfl ?_)
  rintro _ _ ⟨rfl, rfl⟩ -
  refine go_istore_n 5 (ls' := #[vr a, vi 2, vi 4, vi 4, un]) (D d18_4) rfl rfl ?_
  refine go_iload_n 6 (D d18_5) rfl rfl ?_
  refine go_iload_n 7 (D d18_6) rfl rfl ?_
  refine go_iload_n 8 (D d18_7) rfl rfl ?_
  refine callS0 (cells' := 0) (slots' := 0) (Wd := 0) (argsL := [(.int 2), (.int 4), (.int 4)]) (rest := []) (pay_of (a0 := a0) (c_cbbe l G (2 : Int32) (4 : Int32) (4 : Int32) h0 O0 (by decide) (by decide) (by decide)) (wk G 82 rfl) (wk G 7 rfl) (by decide) (by decide)) (wk G 80 rfl) (wk G 81 rfl) (wk G 7 rfl) (wk G 82 rfl) (by decide) pd11 rfl rfl (by rw [hml]; rfl) (nb rfl) rfl rfl (by decide) (by decide) all0 (fun _ _ => sf0) (D d18_8) (k_n 11 rfl ?_)
  rintro  h5 rfl K6
  refine go_iload_n 12 (D d18_11) rfl rfl ?_
  refine go_ifT 22 (D d18_12) (by decide) rfl (by decide) ?_
  refine go_iload_n 23 (D d18_22) rfl rfl ?_
  refine go_iload_n 24 (D d18_23) rfl rfl ?_
  refine go_isub 25 (z := (2 : Int32)) (D d18_24) rfl (by decide) ?_
  refine go_istore 27 (ls' := #[vr a, vi 2, vi 4, vi 4, vi 2]) (D d18_25) rfl rfl ?_
  refine go_aload_n 28 (D d18_27) rfl rfl rfl ?_
  obtain ⟨t7, k8, E9, F10, F11, A12, B13, L14⟩ := id p1
  refine callV0 (cells' := 0) (slots' := 0) (Wd := 0) (argsL := []) (rest := []) (pay_of (a0 := a0) (c_islatin l G a h0 O0 F11) (wk G 44 rfl) (wk G 7 rfl) (by decide) (by decide)) E9 (wk G 40 rfl) (wk G 41 rfl) (wk G 43 rfl) (wk G 43 rfl) (wk G 42 rfl) (by decide) pd5 rfl rfl (by rw [hml]; rfl) (nb rfl) rfl rfl (by decide) (by decide) all0 (fun _ _ => sf0) (D d18_28) (k_v 31 rfl ?_)
  rintro _ h15 ⟨rfl, rfl⟩ K16
  refine go_ifF 34 (D d18_31) rfl (by decide) ?_
  refine go_aload_n 35 (D d18_34) rfl rfl rfl ?_
  refine go_getF 38 (wk G 24 rfl) Via.refl F10 (D d18_35) rfl ?_
  refine go_iload_n 39 (D d18_38) rfl rfl ?_
  refine go_iload 41 (D d18_39) rfl rfl ?_
  refine callS0 (cells' := 2) (slots' := 6) (Wd := 0) (argsL := [(.ref t7), (.int 2), (.int 2)]) (rest := []) (pay_of (a0 := a0) (c_news2_2_4 l G t7 k8 c0 c1 c2 c3 h0 O0 A12 q1 q2 q3 q4) (wk G 112 rfl) (wk G 58 rfl) (by decide) (by decide)) (wk G 110 rfl) (wk G 111 rfl) (wk G 58 rfl) (wk G 112 rfl) (by decide) pd16 rfl rfl (by rw [hml]; rfl) (nb rfl) rfl rfl (by decide) (by decide) all0 (fun _ _ => sf0) (D d18_41) (k_v 44 rfl ?_)
  rintro _ h17 ⟨r19, rfl, f20⟩ K18
  refine go_goto 57 (D d18_44) (by decide) rfl ?_
  have K21 : Keep h0 h17 [] := ((Keep.refl h0 []).trans K18 all0)
  refine go_areturn hret hlk rfl rfl (D d18_57) (by decide) (by decide) ⟨_, rfl, ⟨r19, rfl, f20⟩⟩ K21
theorem c_subi2_4 (l : Launch) {Z : State} {a0 : Array Value} (G : GH Z a0) (a : Addr) (c0 : Int32) (c1 : Int32) (c2 : Int32) (c3 : Int32) (h0 : Heap) (O0 : Old Z Z.heap.size h0) (p1 : Str Z h0 a [c0, c1, c2, c3]) : Con false [] l Z (⟨"java/lang/String", "substring", "(I)Ljava/lang/String;"⟩ : MethodName) jdk_42_method_91_code 2 (some (.object "java/lang/String")) [] (rm4 5 2 6 80) #[(.ref a), (.int 2)] h0 [] (rvl (Q_subi2_4 Z a c0 c1 c2 c3 h0)) := by
  refine con_of (a0 := a0) (plainFor_of_name pn1) (fun q => rfl) EW.nil O0 (fun m => ef_subi2_4 m a) ?_
  intro p_ e_ s_ m_ below_ meth_ c_ D hml hret hlk hnm
  have q1 : C8 c0 := by obtain ⟨_, _, _, _, _, _, q, _⟩ := id p1; exact q _ (by simp)
  have q2 : C8 c1 := by obtain ⟨_, _, _, _, _, _, q, _⟩ := id p1; exact q _ (by simp)
  have q3 : C8 c2 := by obtain ⟨_, _, _, _, _, _, q, _⟩ := id p1; exact q _ (by simp)
  have q4 : C8 c3 := by obtain ⟨_, _, _, _, _, _, q, _⟩ := id p1; exact q _ (by simp)
  refine go_aload_n 1 (D d17_0) rfl rfl rfl ?_
  refine go_iload_n 2 (D d17_1) rfl rfl ?_
  refine go_aload_n 3 (D d17_2) rfl rfl rfl ?_
  refine callV0 (cells' := 0) (slots' := 0) (Wd := 2) (argsL := []) (rest := [(.int 2), (.ref a)]) (pay_len G O0 (n := (4 : Int32)) p1 rfl (by decide) (by decide)) p1.exa (wk G 46 rfl) (wk G 47 rfl) (wk G 49 rfl) (wk G 49 rfl) (wk G 48 rfl) (by decide) pd6 rfl rfl (by rw [hml]; rfl) (nb rfl) rfl rfl (by decide) (by decide) all0 (fun _ _ => sf0) (D d17_3) (k_v 6 rfl ?_)
  rintro _ _ ⟨rfl, rfl⟩ -
  refine callV0 (cells' := 2) (slots' := 6) (Wd := 0) (argsL := [(.int 2), (.int 4)]) (rest := []) (pay_of (a0 := a0) (c_sub2_4_4 l G a c0 c1 c2 c3 h0 O0 p1) (wk G 79 rfl) (wk G 7 rfl) (by decide) (by decide)) p1.exa (wk G 75 rfl) (wk G 76 rfl) (wk G 78 rfl) (wk G 78 rfl) (wk G 77 rfl) (by decide) pd12 rfl rfl (by rw [hml]; rfl) (nb rfl) rfl rfl (by decide) (by decide) all0 (fun _ _ => sf0) (D d17_6) (k_v 9 rfl ?_)
  rintro _ h5 ⟨r7, rfl, f8⟩ K6
  have K9 : Keep h0 h5 [] := ((Keep.refl h0 []).trans K6 all0)
  refine go_areturn hret hlk rfl rfl (D d17_9) (by decide) (by decide) ⟨_, rfl, ⟨r7, rfl, f8⟩⟩ K9
theorem ef_subi3_4 (m : MethodId) (a : Addr)  : entryFrame m #[(.ref a), (.int 3)] 2 = mkF m 0 #[.val (.ref a), .val (.int 3)] [] := by first | (simp [entryFrame, mkF, argsToLocals, Value.category]; done) | rfl
def Q_subi3_4 (Z : State) (a : Addr) (c0 : Int32) (c1 : Int32) (c2 : Int32) (c3 : Int32) (h0 : Heap) (xv : Value) (h : Heap) : Prop := ∃ (r : Addr), (.ref r) = xv ∧ Str Z h r [c3]
theorem ef_sub3_4_4 (m : MethodId) (a : Addr)  : entryFrame m #[(.ref a), (.int 3), (.int 4)] 5 = mkF m 0 #[.val (.ref a), .val (.int 3), .val (.int 4), .unset, .unset] [] := by first | (simp [entryFrame, mkF, argsToLocals, Value.category]; done) | rfl
def Q_sub3_4_4 (Z : State) (a : Addr) (c0 : Int32) (c1 : Int32) (c2 : Int32) (c3 : Int32) (h0 : Heap) (xv : Value) (h : Heap) : Prop := ∃ (r : Addr), (.ref r) = xv ∧ Str Z h r [c3]
theorem ef_news3_1_4 (m : MethodId) (t : Addr)  : entryFrame m #[(.ref t), (.int 3), (.int 1)] 3 = mkF m 0 #[.val (.ref t), .val (.int 3), .val (.int 1)] [] := by first | (simp [entryFrame, mkF, argsToLocals, Value.category]; done) | rfl
def Q_news3_1_4 (Z : State) (t : Addr) (k : ClassId) (c0 : Int32) (c1 : Int32) (c2 : Int32) (c3 : Int32) (h0 : Heap) (xv : Value) (h : Heap) : Prop := ∃ (r : Addr), (.ref r) = xv ∧ Str Z h r [c3]
theorem ef_cor3_4_4 (m : MethodId) (t : Addr)  : entryFrame m #[(.ref t), (.int 3), (.int 4)] 3 = mkF m 0 #[.val (.ref t), .val (.int 3), .val (.int 4)] [] := by first | (simp [entryFrame, mkF, argsToLocals, Value.category]; done) | rfl
def Q_cor3_4_4 (Z : State) (t : Addr) (k : ClassId) (b0 : Int32) (b1 : Int32) (b2 : Int32) (b3 : Int32) (h0 : Heap) (xv : Value) (h : Heap) : Prop := ∃ (r : Addr) (k2 : ClassId), (.ref r) = xv ∧ h0.size ≤ r ∧ Arv Z h r k2 (.byte) (1 : Int32) [(.int b3)] (.int 0)
theorem ef_corb3_4_4 (m : MethodId) (t : Addr)  : entryFrame m #[(.ref t), (.int 3), (.int 4)] 5 = mkF m 0 #[.val (.ref t), .val (.int 3), .val (.int 4), .unset, .unset] [] := by first | (simp [entryFrame, mkF, argsToLocals, Value.category]; done) | rfl
def Q_corb3_4_4 (Z : State) (t : Addr) (k : ClassId) (b0 : Int32) (b1 : Int32) (b2 : Int32) (b3 : Int32) (h0 : Heap) (xv : Value) (h : Heap) : Prop := ∃ (r : Addr) (k2 : ClassId), (.ref r) = xv ∧ h0.size ≤ r ∧ Arv Z h r k2 (.byte) (1 : Int32) [(.int b3)] (.int 0)
theorem c_corb3_4_4 (l : Launch) {Z : State} {a0 : Array Value} (G : GH Z a0) (t : Addr) (k : ClassId) (b0 : Int32) (b1 : Int32) (b2 : Int32) (b3 : Int32) (h0 : Heap) (O0 : Old Z Z.heap.size h0) (p1 : Arv Z h0 t k (.byte) (4 : Int32) [(.int b0), (.int b1), (.int b2), (.int b3)] (.int 0)) : Con false [] l Z (⟨"java/util/Arrays", "copyOfRangeByte", "([BII)[B"⟩ : MethodName) jdk_65_method_133_code 5 (some (.array .byte)) [] (rm4 1 1 1 18) #[(.ref t), (.int 3), (.int 4)] h0 [] (rvl (Q_corb3_4_4 Z t k b0 b1 b2 b3 h0)) := by
  refine con_of (a0 := a0) (plainFor_of_name pn4) (fun q => rfl) EW.nil O0 (fun m => ef_corb3_4_4 m t) ?_
  intro p_ e_ s_ m_ below_ meth_ c_ D hml hret hlk hnm
  refine go_iload_n 1 (D d22_0) rfl rfl ?_
  refine go_iload_n 2 (D d22_1) rfl rfl ?_
  refine callS0 (cells' := 0) (slots' := 0) (Wd := 0) (argsL := [(.int 3), (.int 4)]) (rest := []) (pay_of (a0 := a0) (c_chkl l G (3 : Int32) (4 : Int32) h0 O0 (by decide)) (wk G 123 rfl) (wk G 116 rfl) (by decide) (by decide)) (wk G 121 rfl) (wk G 122 rfl) (wk G 116 rfl) (wk G 123 rfl) (by decide) pd17 rfl rfl (by rw [hml]; rfl) (nb rfl) rfl rfl (by decide) (by decide) all0 (fun _ _ => sf0) (D d22_2) (k_n 5 rfl ?_)
  rintro  h1 rfl K2
  refine go_iload_n 6 (D d22_5) rfl rfl ?_
  refine go_iload_n 7 (D d22_6) rfl rfl ?_
  refine go_isub 8 (z := (1 : Int32)) (D d22_7) rfl (by decide) ?_
  refine go_istore_n 9 (ls' := #[vr t, vi 3, vi 4, vi 1, un]) (D d22_8) rfl rfl ?_
  refine go_iload_n 10 (D d22_9) rfl rfl ?_
  refine go_newP 12 (cells' := 1) (slots' := 1) (cap := 1) (vs := [(.int 0)]) (ty := .byte) (dv := .int 0) (wk G 19 rfl) rfl rfl (D d22_10) rfl (by decide) rfl (by decide) rfl rfl rfl (by decide) (by decide) (fun h3 a4 k8 g5 X6 A7 => ?_)
  refine go_astore 14 (ls' := #[vr t, vi 3, vi 4, vi 1, vr a4]) (D d22_12) rfl rfl rfl ?_
  refine go_aload_n 15 (D d22_14) rfl rfl rfl ?_
  refine go_iload_n 16 (D d22_15) rfl rfl ?_
  refine go_aload 18 (D d22_16) rfl rfl rfl ?_
  refine go_iconst 19 (v := 0) (D d22_18) rfl rfl ?_
  refine go_aload_n 20 (D d22_19) rfl rfl rfl ?_
  have K9 : Keep h0 h3 [] := ((Keep.refl h0 []).ext X6)
  have A10 := (p1.keep K9 nin0)
  refine go_arraylength 21 A10 (D d22_20) rfl ?_
  refine go_iload_n 22 (D d22_21) rfl rfl ?_
  refine go_isub 23 (z := (1 : Int32)) (D d22_22) rfl (by decide) ?_
  refine go_iload_n 24 (D d22_23) rfl rfl ?_
  refine go_old (fun O11 => ?_)
  refine callS0 (cells' := 1) (slots' := 1) (Wd := 4) (argsL := [(.int 1), (.int 1)]) (rest := [(.int 0), (.ref a4), (.int 3), (.ref t)]) (pay_of (a0 := a0) (c_min1_1 l G  h3 O11 ) (wk G 69 rfl) (wk G 65 rfl) (by decide) (by decide)) (wk G 124 rfl) (wk G 68 rfl) (wk G 65 rfl) (wk G 69 rfl) (by decide) pd8 rfl rfl (by rw [hml]; rfl) (nb rfl) rfl rfl (by decide) (by decide) all0 (fun _ _ => sf0) (D d22_24) (k_v 27 rfl ?_)
  rintro _ h12 ⟨rfl, rfl⟩ K13
  refine go_acopy 30 (Wd := 0) (vd' := [(.int b3)]) (wk G 125 rfl) (wk G 128 rfl) (wk G 126 rfl) (wk G 127 rfl) rfl A10 A7 rfl (by decide) (by decide) (by decide) (nb rfl) (nb rfl) (nb rfl) (Nat.le_trans O0.2.1 (Nat.le_of_eq g5)) rfl (by rw [hml]; rfl) (by decide) (by decide) (by decide) (D d22_27) rfl (fun h14 K15 A16 => ?_)
  refine go_aload 32 (D d22_30) rfl rfl rfl ?_
  have K17 : Keep h0 h14 [] := (K9.trans K15 (allS (Or.inr (Nat.le_of_eq g5)) all0))
  refine go_areturn hret hlk rfl rfl (D d22_32) (by decide) (by decide) ⟨_, rfl, ⟨a4, k8, rfl, (Nat.le_of_eq g5), A16⟩⟩ K17
theorem c_cor3_4_4 (l : Launch) {Z : State} {a0 : Array Value} (G : GH Z a0) (t : Addr) (k : ClassId) (b0 : Int32) (b1 : Int32) (b2 : Int32) (b3 : Int32) (h0 : Heap) (O0 : Old Z Z.heap.size h0) (p1 : Arv Z h0 t k (.byte) (4 : Int32) [(.int b0), (.int b1), (.int b2), (.int b3)] (.int 0)) : Con false [] l Z (⟨"java/util/Arrays", "copyOfRange", "([BII)[B"⟩ : MethodName) jdk_65_method_132_code 3 (some (.array .byte)) [] (rm4 2 1 1 34) #[(.ref t), (.int 3), (.int 4)] h0 [] (rvl (Q_cor3_4_4 Z t k b0 b1 b2 b3 h0)) := by
  refine con_of (a0 := a0) (plainFor_of_name pn4) (fun q => rfl) EW.nil O0 (fun m => ef_cor3_4_4 m t) ?_
  intro p_ e_ s_ m_ below_ meth_ c_ D hml hret hlk hnm
  refine go_iload_n 1 (D d21_0) rfl rfl ?_
  refine go_ifT 10 (D d21_1) (by decide) rfl (by decide) ?_
  refine go_aload_n 11 (D d21_10) rfl rfl rfl ?_
  refine go_iload_n 12 (D d21_11) rfl rfl ?_
  refine go_iload_n 13 (D d21_12) rfl rfl ?_
  refine callS0 (cells' := 1) (slots' := 1) (Wd := 0) (argsL := [(.ref t), (.int 3), (.int 4)]) (rest := []) (pay_of (a0 := a0) (c_corb3_4_4 l G t k b0 b1 b2 b3 h0 O0 p1) (wk G 120 rfl) (wk G 116 rfl) (by decide) (by decide)) (wk G 118 rfl) (wk G 119 rfl) (wk G 116 rfl) (wk G 120 rfl) (by decide) pd18 rfl rfl (by rw [hml]; rfl) (nb rfl) rfl rfl (by decide) (by decide) all0 (fun _ _ => sf0) (D d21_13) (k_v 16 rfl ?_)
  rintro _ h1 ⟨r3, r4, rfl, f5, f6⟩ K2
  have K7 : Keep h0 h1 [] := ((Keep.refl h0 []).trans K2 all0)
  refine go_areturn hret hlk rfl rfl (D d21_16) (by decide) (by decide) ⟨_, rfl, ⟨r3, r4, rfl, f5, f6⟩⟩ K7
theorem c_news3_1_4 (l : Launch) {Z : State} {a0 : Array Value} (G : GH Z a0) (t : Addr) (k : ClassId) (c0 : Int32) (c1 : Int32) (c2 : Int32) (c3 : Int32) (h0 : Heap) (O0 : Old Z Z.heap.size h0) (p1 : Arv Z h0 t k (.byte) (4 : Int32) [(.int (c0).toInt8.toInt32), (.int (c1).toInt8.toInt32), (.int (c2).toInt8.toInt32), (.int (c3).toInt8.toInt32)] (.int 0)) (p2 : C8 c0) (p3 : C8 c1) (p4 : C8 c2) (p5 : C8 c3) : Con false [] l Z (⟨"java/lang/StringLatin1", "newString", "([BII)Ljava/lang/String;"⟩ : MethodName) jdk_43_method_47_code 3 (some (.object "java/lang/String")) [] (rm4 3 2 5 50) #[(.ref t), (.int 3), (.int 1)] h0 [] (rvl (Q_news3_1_4 Z t k c0 c1 c2 c3 h0)) := by
  refine con_of (a0 := a0) (plainFor_of_name pn2) (fun q => rfl) EW.nil O0 (fun m => ef_news3_1_4 m t) ?_
  intro p_ e_ s_ m_ below_ meth_ c_ D hml hret hlk hnm
  refine go_iload_n 1 (D d20_0) rfl rfl ?_
  refine go_ifT 7 (D d20_1) (by decide) rfl (by decide) ?_
  refine go_newO 10 (cells' := 1) (slots' := 4) (wk G 113 rfl) (wk G 6 rfl) (wk G 7 rfl) (D d20_7) rfl rfl rfl (by decide) (by decide) (fun h1 a2 g3 X4 E5 D6 U7 => ?_)
  refine go_dup 11 (D d20_10) rfl rfl ?_
  refine go_aload_n 12 (D d20_11) rfl rfl rfl ?_
  refine go_iload_n 13 (D d20_12) rfl rfl ?_
  refine go_iload_n 14 (D d20_13) rfl rfl ?_
  refine go_iload_n 15 (D d20_14) rfl rfl ?_
  refine go_iadd 16 (z := (4 : Int32)) (D d20_15) rfl (by decide) ?_
  have K8 : Keep h0 h1 [] := ((Keep.refl h0 []).ext X4)
  have A9 := (p1.keep K8 nin0)
  refine go_old (fun O10 => ?_)
  refine callS0 (cells' := 2) (slots' := 5) (Wd := 2) (argsL := [(.ref t), (.int 3), (.int 4)]) (rest := [(.ref a2), (.ref a2)]) (pay_of (a0 := a0) (c_cor3_4_4 l G t k ((c0).toInt8.toInt32) ((c1).toInt8.toInt32) ((c2).toInt8.toInt32) ((c3).toInt8.toInt32) h1 O10 A9) (wk G 117 rfl) (wk G 116 rfl) (by decide) (by decide)) (wk G 114 rfl) (wk G 115 rfl) (wk G 116 rfl) (wk G 117 rfl) (by decide) pd18 rfl rfl (by rw [hml]; rfl) (nb rfl) rfl rfl (by decide) (by decide) all0 (fun _ _ => sf0) (D d20_16) (k_v 19 rfl ?_)
  rintro _ h11 ⟨r13, r14, rfl, f15, f16⟩ K12
  refine go_iconst 20 (v := 0) (D d20_19) rfl rfl ?_
  have K17 : Keep h1 h11 [] := ((Keep.refl h1 []).trans K12 all0)
  have E18 := (E5.keep K17)
  have F19 := D6 (Or.inr (wk G 20 rfl)) (ty := (.array .byte)) (by decide)
  have F20 := (F19.keep K17 nin0)
  have F21 := D6 (Or.inr (wk G 21 rfl)) (ty := .byte) (by decide)
  have F22 := (F21.keep K17 nin0)
  refine go_old (fun O23 => ?_)
  refine callI0 (cells' := 2) (slots' := 5) (Wd := 1) (argsL := [(.ref r13), (.int 0)]) (rest := [(.ref a2)]) (pay_of (a0 := a0) (c_strbb l G a2 r13 h11 O23 E18 (Nat.le_trans O0.2.1 (Nat.le_of_eq g3)) F20 F22) (wk G 131 rfl) (wk G 7 rfl) (by decide) (by decide)) rfl (wk G 129 rfl) (wk G 130 rfl) (wk G 131 rfl) (by decide) pd19 rfl rfl (by rw [hml]; rfl) (nb rfl) rfl rfl (by decide) (by decide) (allS (Nat.le_trans O0.2.1 (Nat.le_of_eq g3)) all0) (fun _ hal => (sfS safe_nil sf0)) (D d20_20) (k_n 23 rfl ?_)
  rintro  h24 ⟨f26, f27⟩ K25
  have K28 : Keep h0 h11 [] := (K8.trans K12 all0)
  have K29 : Keep h0 h24 [] := (K28.trans K25 (allS (Or.inr (Nat.le_of_eq g3)) all0))
  have E30 := (E18.keep K25)
  have A31 := (f16.keep K25 (ninS (Nat.ne_of_gt (Nat.lt_of_lt_of_le E5.lt f15)) nin0))
  have S32 : Str Z h24 a2 [c3] := ⟨r13, r14, E30, f26, f27, A31, (c8c p5 c8n), Nat.le_of_ble_eq_true rfl⟩
  refine go_areturn hret hlk rfl rfl (D d20_23) (by decide) (by decide) ⟨_, rfl, ⟨a2, rfl, S32⟩⟩ K29
theorem c_sub3_4_4 (l : Launch) {Z : State} {a0 : Array Value} (G : GH Z a0) (a : Addr) (c0 : Int32) (c1 : Int32) (c2 : Int32) (c3 : Int32) (h0 : Heap) (O0 : Old Z Z.heap.size h0) (p1 : Str Z h0 a [c0, c1, c2, c3]) : Con false [] l Z (⟨"java/lang/String", "substring", "(II)Ljava/lang/String;"⟩ : MethodName) jdk_42_method_92_code 5 (some (.object "java/lang/String")) [] (rm4 4 2 5 64) #[(.ref a), (.int 3), (.int 4)] h0 [] (rvl (Q_sub3_4_4 Z a c0 c1 c2 c3 h0)) := by
  refine con_of (a0 := a0) (plainFor_of_name pn1) (fun q => rfl) EW.nil O0 (fun m => ef_sub3_4_4 m a) ?_
  intro p_ e_ s_ m_ below_ meth_ c_ D hml hret hlk hnm
  have q1 : C8 c0 := by obtain ⟨_, _, _, _, _, _, q, _⟩ := id p1; exact q _ (by simp)
  have q2 : C8 c1 := by obtain ⟨_, _, _, _, _, _, q, _⟩ := id p1; exact q _ (by simp)
  have q3 : C8 c2 := by obtain ⟨_, _, _, _, _, _, q, _⟩ := id p1; exact q _ (by simp)
  have q4 : C8 c3 := by obtain ⟨_, _, _, _, _, _, q, _⟩ := id p1; exact q _ (by simp)
  refine go_aload_n 1 (D d18_0) rfl rfl rfl ?_
  refine callV0 (cells' := 0) (slots' := 0) (Wd := 0) (argsL := []) (rest := []) (pay_len G O0 (n := (4 : Int32)) p1 rfl (by decide) (by decide)) p1.exa (wk G 46 rfl) (wk G 47 rfl) (wk G 49 rfl) (wk G 49 rfl) (wk G 48 rfl) (by decide) pd6 rfl rfl (by rw [hml]; rfl) (nb rfl) rfl rfl (by decide) (by decide) all0 (fun _ _ => sf0) (D d18_1) (k_v 4 rfl ?_)
  rintro _ _ ⟨rfl, rfl⟩ -
  refine go_istore_n 5 (ls' := #[vr a, vi 3, vi 4, vi 4, un]) (D d18_4) rfl rfl ?_
  refine go_iload_n 6 (D d18_5) rfl rfl ?_
  refine go_iload_n 7 (D d18_6) rfl rfl ?_
  refine go_iload_n 8 (D d18_7) rfl rfl ?_
  refine callS0 (cells' := 0) (slots' := 0) (Wd := 0) (argsL := [(.int 3), (.int 4), (.int 4)]) (rest := []) (pay_of (a0 := a0) (c_cbbe l G (3 : Int32) (4 : Int32) (4 : Int32) h0 O0 (by decide) (by decide) (by decide)) (wk G 82 rfl) (wk G 7 rfl) (by decide) (by decide)) (wk G 80 rfl) (wk G 81 rfl) (wk G 7 rfl) (wk G 82 rfl) (by decide) pd11 rfl rfl (by rw [hml]; rfl) (nb rfl) rfl rfl (by decide) (by decide) all0 (fun _ _ => sf0) (D d18_8) (k_n 11 rfl ?_)
  rintro  h5 rfl K6
  refine go_iload_n 12 (D d18_11) rfl rfl ?_
  refine go_ifT 22 (D d18_12) (by decide) rfl (by decide) ?_
  refine go_iload_n 23 (D d18_22) rfl rfl ?_
  refine go_iload_n 24 (D d18_23) rfl rfl ?_
  refine go_isub 25 (z := (1 : Int32)) (D d18_24) rfl (by decide) ?_
  refine go_istore 27 (ls' := #[vr a, vi 3, vi 4, vi 4, vi 1]) (D d18_25) rfl rfl ?_
  refine go_aload_n 28 (D d18_27) rfl rfl rfl ?_
  obtain ⟨t7, k8, E9, F10, F11, A12, B13, L14⟩ := id p1
  refine callV0 (cells' := 0) (slots' := 0) (Wd := 0) (argsL := []) (rest := []) (pay_of (a0 := a0) (c_islatin l G a h0 O0 F11) (wk G 44 rfl) (wk G 7 rfl) (by decide) (by decide)) E9 (wk G 40 rfl) (wk G 41 rfl) (wk G 43 rfl) (wk G 43 rfl) (wk G 42 rfl) (by decide) pd5 rfl rfl (by rw [hml]; rfl) (nb rfl) rfl rfl (by decide) (by decide) all0 (fun _ _ => sf0) (D d18_28) (k_v 31 rfl ?_)
  rintro _ h15 ⟨rfl, rfl⟩ K16
  refine go_ifF 34 (D d18_31) rfl (by decide) ?_
  refine go_aload_n 35 (D d18_34) rfl rfl rfl ?_
  refine go_getF 38 (wk G 24 rfl) Via.refl F10 (D d18_35) rfl ?_
  refine go_iload_n 39 (D d18_38) rfl rfl ?_
  refine go_iload 41 (D d18_39) rfl rfl ?_
  refine callS0 (cells' := 2) (slots' := 5) (Wd := 0) (argsL := [(.ref t7), (.int 3), (.int 1)]) (rest := []) (pay_of (a0 := a0) (c_news3_1_4 l G t7 k8 c0 c1 c2 c3 h0 O0 A12 q1 q2 q3 q4) (wk G 112 rfl) (wk G 58 rfl) (by decide) (by decide)) (wk G 110 rfl) (wk G 111 rfl) (wk G 58 rfl) (wk G 112 rfl) (by decide) pd16 rfl rfl (by rw [hml]; rfl) (nb rfl) rfl rfl (by decide) (by decide) all0 (fun _ _ => sf0) (D d18_41) (k_v 44 rfl ?_)
  rintro _ h17 ⟨r19, rfl, f20⟩ K18
  refine go_goto 57 (D d18_44) (by decide) rfl ?_
  have K21 : Keep h0 h17 [] := ((Keep.refl h0 []).trans K18 all0)
  refine go_areturn hret hlk rfl rfl (D d18_57) (by decide) (by decide) ⟨_, rfl, ⟨r19, rfl, f20⟩⟩ K21
theorem c_subi3_4 (l : Launch) {Z : State} {a0 : Array Value} (G : GH Z a0) (a : Addr) (c0 : Int32) (c1 : Int32) (c2 : Int32) (c3 : Int32) (h0 : Heap) (O0 : Old Z Z.heap.size h0) (p1 : Str Z h0 a [c0, c1, c2, c3]) : Con false [] l Z (⟨"java/lang/String", "substring", "(I)Ljava/lang/String;"⟩ : MethodName) jdk_42_method_91_code 2 (some (.object "java/lang/String")) [] (rm4 5 2 5 80) #[(.ref a), (.int 3)] h0 [] (rvl (Q_subi3_4 Z a c0 c1 c2 c3 h0)) := by
  refine con_of (a0 := a0) (plainFor_of_name pn1) (fun q => rfl) EW.nil O0 (fun m => ef_subi3_4 m a) ?_
  intro p_ e_ s_ m_ below_ meth_ c_ D hml hret hlk hnm
  have q1 : C8 c0 := by obtain ⟨_, _, _, _, _, _, q, _⟩ := id p1; exact q _ (by simp)
  have q2 : C8 c1 := by obtain ⟨_, _, _, _, _, _, q, _⟩ := id p1; exact q _ (by simp)
  have q3 : C8 c2 := by obtain ⟨_, _, _, _, _, _, q, _⟩ := id p1; exact q _ (by simp)
  have q4 : C8 c3 := by obtain ⟨_, _, _, _, _, _, q, _⟩ := id p1; exact q _ (by simp)
  refine go_aload_n 1 (D d17_0) rfl rfl rfl ?_
  refine go_iload_n 2 (D d17_1) rfl rfl ?_
  refine go_aload_n 3 (D d17_2) rfl rfl rfl ?_
  refine callV0 (cells' := 0) (slots' := 0) (Wd := 2) (argsL := []) (rest := [(.int 3), (.ref a)]) (pay_len G O0 (n := (4 : Int32)) p1 rfl (by decide) (by decide)) p1.exa (wk G 46 rfl) (wk G 47 rfl) (wk G 49 rfl) (wk G 49 rfl) (wk G 48 rfl) (by decide) pd6 rfl rfl (by rw [hml]; rfl) (nb rfl) rfl rfl (by decide) (by decide) all0 (fun _ _ => sf0) (D d17_3) (k_v 6 rfl ?_)
  rintro _ _ ⟨rfl, rfl⟩ -
  refine callV0 (cells' := 2) (slots' := 5) (Wd := 0) (argsL := [(.int 3), (.int 4)]) (rest := []) (pay_of (a0 := a0) (c_sub3_4_4 l G a c0 c1 c2 c3 h0 O0 p1) (wk G 79 rfl) (wk G 7 rfl) (by decide) (by decide)) p1.exa (wk G 75 rfl) (wk G 76 rfl) (wk G 78 rfl) (wk G 78 rfl) (wk G 77 rfl) (by decide) pd12 rfl rfl (by rw [hml]; rfl) (nb rfl) rfl rfl (by decide) (by decide) all0 (fun _ _ => sf0) (D d17_6) (k_v 9 rfl ?_)
  rintro _ h5 ⟨r7, rfl, f8⟩ K6
  have K9 : Keep h0 h5 [] := ((Keep.refl h0 []).trans K6 all0)
  refine go_areturn hret hlk rfl rfl (D d17_9) (by decide) (by decide) ⟨_, rfl, ⟨r7, rfl, f8⟩⟩ K9
theorem ef_subi4_4 (m : MethodId) (a : Addr)  : entryFrame m #[(.ref a), (.int 4)] 2 = mkF m 0 #[.val (.ref a), .val (.int 4)] [] := by first | (simp [entryFrame, mkF, argsToLocals, Value.category]; done) | rfl
def Q_subi4_4 (Z : State) (a : Addr) (c0 : Int32) (c1 : Int32) (c2 : Int32) (c3 : Int32) (h0 : Heap) (xv : Value) (h : Heap) : Prop := ∃ (r : Addr), (.ref r) = xv ∧ Str Z h r []
theorem ef_sub4_4_4 (m : MethodId) (a : Addr)  : entryFrame m #[(.ref a), (.int 4), (.int 4)] 5 = mkF m 0 #[.val (.ref a), .val (.int 4), .val (.int 4), .unset, .unset] [] := by first | (simp [entryFrame, mkF, argsToLocals, Value.category]; done) | rfl
def Q_sub4_4_4 (Z : State) (a : Addr) (c0 : Int32) (c1 : Int32) (c2 : Int32) (c3 : Int32) (h0 : Heap) (xv : Value) (h : Heap) : Prop := ∃ (r : Addr), (.ref r) = xv ∧ Str Z h r []
theorem ef_news4_0_4 (m : MethodId) (t : Addr)  : entryFrame m #[(.ref t), (.int 4), (.int 0)] 3 = mkF m 0 #[.val (.ref t), .val (.int 4), .val (.int 0)] [] := by first | (simp [entryFrame, mkF, argsToLocals, Value.category]; done) | rfl
def Q_news4_0_4 (Z : State) (t : Addr) (k : ClassId) (c0 : Int32) (c1 : Int32) (c2 : Int32) (c3 : Int32) (h0 : Heap) (xv : Value) (h : Heap) : Prop := ∃ (r : Addr), (.ref r) = xv ∧ Str Z h r []
theorem c_news4_0_4 (l : Launch) {Z : State} {a0 : Array Value} (G : GH Z a0) (t : Addr) (k : ClassId) (c0 : Int32) (c1 : Int32) (c2 : Int32) (c3 : Int32) (h0 : Heap) (O0 : Old Z Z.heap.size h0) (p1 : Arv Z h0 t k (.byte) (4 : Int32) [(.int (c0).toInt8.toInt32), (.int (c1).toInt8.toInt32), (.int (c2).toInt8.toInt32), (.int (c3).toInt8.toInt32)] (.int 0)) (p2 : C8 c0) (p3 : C8 c1) (p4 : C8 c2) (p5 : C8 c3) : Con true EL1 l Z (⟨"java/lang/StringLatin1", "newString", "([BII)Ljava/lang/String;"⟩ : MethodName) jdk_43_method_47_code 3 (some (.object "java/lang/String")) [] (rm4 0 2 4 0) #[(.ref t), (.int 4), (.int 0)] h0 [] (rvl (Q_news4_0_4 Z t k c0 c1 c2 c3 h0)) := by
  refine con_of (a0 := a0) (plainFor_of_name pn2) (fun q => nomatch q) (ew1 G) O0 (fun m => ef_news4_0_4 m t) ?_
  intro p_ e_ s_ m_ below_ meth_ c_ D hml hret hlk hnm
  refine go_iload_n 1 (D d20_0) rfl rfl ?_
  refine go_ifF 4 (D d20_1) rfl (by decide) ?_
  refine go_ldcH 6 (cells' := 2) (slots' := 4) (n := 0) (vs := (([] : List Int32).map fun c => c.toInt8.toInt32).map Value.int) (z := (0 : Int32)) rfl (by decide) (wk G 132 rfl) (wS G) (by decide +kernel) (by decide) (by decide) (by decide) (by decide) (D d20_4) rfl rfl rfl (by decide) (by decide) (fun h1 a2 t4 k5 X3 E6 F7 F8 A9 => ?_)
  have S10 : Str Z h1 a2 [] := ⟨t4, k5, E6, F8, F7, A9, by decide, by decide⟩
  have K11 : Keep h0 h1 [] := ((Keep.refl h0 []).ext X3)
  refine go_areturn hret hlk rfl rfl (D d20_6) (by decide) (by decide) ⟨_, rfl, ⟨a2, rfl, S10⟩⟩ K11
theorem c_sub4_4_4 (l : Launch) {Z : State} {a0 : Array Value} (G : GH Z a0) (a : Addr) (c0 : Int32) (c1 : Int32) (c2 : Int32) (c3 : Int32) (h0 : Heap) (O0 : Old Z Z.heap.size h0) (p1 : Str Z h0 a [c0, c1, c2, c3]) : Con true EL1 l Z (⟨"java/lang/String", "substring", "(II)Ljava/lang/String;"⟩ : MethodName) jdk_42_method_92_code 5 (some (.object "java/lang/String")) [] (rm4 2 2 4 29) #[(.ref a), (.int 4), (.int 4)] h0 [] (rvl (Q_sub4_4_4 Z a c0 c1 c2 c3 h0)) := by
  refine con_of (a0 := a0) (plainFor_of_name pn1) (fun q => nomatch q) (ew1 G) O0 (fun m => ef_sub4_4_4 m a) ?_
  intro p_ e_ s_ m_ below_ meth_ c_ D hml hret hlk hnm
  have q1 : C8 c0 := by obtain ⟨_, _, _, _, _, _, q, _⟩ := id p1; exact q _ (by simp)
  have q2 : C8 c1 := by obtain ⟨_, _, _, _, _, _, q, _⟩ := id p1; exact q _ (by simp)
  have q3 : C8 c2 := by obtain ⟨_, _, _, _, _, _, q, _⟩ := id p1; exact q _ (by simp)
  have q4 : C8 c3 := by obtain ⟨_, _, _, _, _, _, q, _⟩ := id p1; exact q _ (by simp)
  refine go_aload_n 1 (D d18_0) rfl rfl rfl ?_
  refine callV0 (cells' := 0) (slots' := 0) (Wd := 0) (argsL := []) (rest := []) (pay_len G O0 (n := (4 : Int32)) p1 rfl (by decide) (by decide)) p1.exa (wk G 46 rfl) (wk G 47 rfl) (wk G 49 rfl) (wk G 49 rfl) (wk G 48 rfl) (by decide) pd6 rfl rfl (by rw [hml]; rfl) (nb rfl) rfl rfl (by decide) (by decide) all0 (fun _ _ => sf0) (D d18_1) (k_v 4 rfl ?_)
  rintro _ _ ⟨rfl, rfl⟩ -
  refine go_istore_n 5 (ls' := #[vr a, vi 4, vi 4, vi 4, un]) (D d18_4) rfl rfl ?_
  refine go_iload_n 6 (D d18_5) rfl rfl ?_
  refine go_iload_n 7 (D d18_6) rfl rfl ?_
  refine go_iload_n 8 (D d18_7) rfl rfl ?_
  refine callS0 (cells' := 0) (slots' := 0) (Wd := 0) (argsL := [(.int 4), (.int 4), (.int 4)]) (rest := []) (pay_of (a0 := a0) (c_cbbe l G (4 : Int32) (4 : Int32) (4 : Int32) h0 O0 (by decide) (by decide) (by decide)) (wk G 82 rfl) (wk G 7 rfl) (by decide) (by decide)) (wk G 80 rfl) (wk G 81 rfl) (wk G 7 rfl) (wk G 82 rfl) (by decide) pd11 rfl rfl (by rw [hml]; rfl) (nb rfl) rfl rfl (by decide) (by decide) all0 (fun _ _ => sf0) (D d18_8) (k_n 11 rfl ?_)
  rintro  h5 rfl K6
  refine go_iload_n 12 (D d18_11) rfl rfl ?_
  refine go_ifT 22 (D d18_12) (by decide) rfl (by decide) ?_
  refine go_iload_n 23 (D d18_22) rfl rfl ?_
  refine go_iload_n 24 (D d18_23) rfl rfl ?_
  refine go_isub 25 (z := (0 : Int32)) (D d18_24) rfl (by decide) ?_
  refine go_istore 27 (ls' := #[vr a, vi 4, vi 4, vi 4, vi 0]) (D d18_25) rfl rfl ?_
  refine go_aload_n 28 (D d18_27) rfl rfl rfl ?_
  obtain ⟨t7, k8, E9, F10, F11, A12, B13, L14⟩ := id p1
  refine callV0 (cells' := 0) (slots' := 0) (Wd := 0) (argsL := []) (rest := []) (pay_of (a0 := a0) (c_islatin l G a h0 O0 F11) (wk G 44 rfl) (wk G 7 rfl) (by decide) (by decide)) E9 (wk G 40 rfl) (wk G 41 rfl) (wk G 43 rfl) (wk G 43 rfl) (wk G 42 rfl) (by decide) pd5 rfl rfl (by rw [hml]; rfl) (nb rfl) rfl rfl (by decide) (by decide) all0 (fun _ _ => sf0) (D d18_28) (k_v 31 rfl ?_)
  rintro _ h15 ⟨rfl, rfl⟩ K16
  refine go_ifF 34 (D d18_31) rfl (by decide) ?_
  refine go_aload_n 35 (D d18_34) rfl rfl rfl ?_
  refine go_getF 38 (wk G 24 rfl) Via.refl F10 (D d18_35) rfl ?_
  refine go_iload_n 39 (D d18_38) rfl rfl ?_
  refine go_iload 41 (D d18_39) rfl rfl ?_
  refine callSW0 rfl (cells' := 2) (slots' := 4) (Wd := 0) (argsL := [(.ref t7), (.int 4), (.int 0)]) (rest := []) (payW_of (a0 := a0) (c_news4_0_4 l G t7 k8 c0 c1 c2 c3 h0 O0 A12 q1 q2 q3 q4) (wk G 112 rfl) (wk G 58 rfl) (by decide) (by decide) (ew1 G)) (wk G 110 rfl) (wk G 111 rfl) (wk G 58 rfl) (wk G 112 rfl) (by decide) pd16 rfl rfl (by rw [hml]; rfl) (nb rfl) rfl rfl (by decide) (by decide) all0 (D d18_41) (k_v 44 rfl ?_)
  rintro _ h17 ⟨r19, rfl, f20⟩ K18
  refine go_goto 57 (D d18_44) (by decide) rfl ?_
  have K21 : Keep h0 h17 [] := ((Keep.refl h0 []).trans K18 all0)
  refine go_areturn hret hlk rfl rfl (D d18_57) (by decide) (by decide) ⟨_, rfl, ⟨r19, rfl, f20⟩⟩ K21
theorem c_subi4_4 (l : Launch) {Z : State} {a0 : Array Value} (G : GH Z a0) (a : Addr) (c0 : Int32) (c1 : Int32) (c2 : Int32) (c3 : Int32) (h0 : Heap) (O0 : Old Z Z.heap.size h0) (p1 : Str Z h0 a [c0, c1, c2, c3]) : Con true EL1 l Z (⟨"java/lang/String", "substring", "(I)Ljava/lang/String;"⟩ : MethodName) jdk_42_method_91_code 2 (some (.object "java/lang/String")) [] (rm4 3 2 4 45) #[(.ref a), (.int 4)] h0 [] (rvl (Q_subi4_4 Z a c0 c1 c2 c3 h0)) := by
  refine con_of (a0 := a0) (plainFor_of_name pn1) (fun q => nomatch q) (ew1 G) O0 (fun m => ef_subi4_4 m a) ?_
  intro p_ e_ s_ m_ below_ meth_ c_ D hml hret hlk hnm
  have q1 : C8 c0 := by obtain ⟨_, _, _, _, _, _, q, _⟩ := id p1; exact q _ (by simp)
  have q2 : C8 c1 := by obtain ⟨_, _, _, _, _, _, q, _⟩ := id p1; exact q _ (by simp)
  have q3 : C8 c2 := by obtain ⟨_, _, _, _, _, _, q, _⟩ := id p1; exact q _ (by simp)
  have q4 : C8 c3 := by obtain ⟨_, _, _, _, _, _, q, _⟩ := id p1; exact q _ (by simp)
  refine go_aload_n 1 (D d17_0) rfl rfl rfl ?_
  refine go_iload_n 2 (D d17_1) rfl rfl ?_
  refine go_aload_n 3 (D d17_2) rfl rfl rfl ?_
  refine callV0 (cells' := 0) (slots' := 0) (Wd := 2) (argsL := []) (rest := [(.int 4), (.ref a)]) (pay_len G O0 (n := (4 : Int32)) p1 rfl (by decide) (by decide)) p1.exa (wk G 46 rfl) (wk G 47 rfl) (wk G 49 rfl) (wk G 49 rfl) (wk G 48 rfl) (by decide) pd6 rfl rfl (by rw [hml]; rfl) (nb rfl) rfl rfl (by decide) (by decide) all0 (fun _ _ => sf0) (D d17_3) (k_v 6 rfl ?_)
  rintro _ _ ⟨rfl, rfl⟩ -
  refine callVW0 rfl (cells' := 2) (slots' := 4) (Wd := 0) (argsL := [(.int 4), (.int 4)]) (rest := []) (payW_of (a0 := a0) (c_sub4_4_4 l G a c0 c1 c2 c3 h0 O0 p1) (wk G 79 rfl) (wk G 7 rfl) (by decide) (by decide) (ew1 G)) p1.exa (wk G 75 rfl) (wk G 76 rfl) (wk G 78 rfl) (wk G 78 rfl) (wk G 77 rfl) (by decide) pd12 rfl rfl (by rw [hml]; rfl) (nb rfl) rfl rfl (by decide) (by decide) all0 (D d17_6) (k_v 9 rfl ?_)
  rintro _ h5 ⟨r7, rfl, f8⟩ K6
  have K9 : Keep h0 h5 [] := ((Keep.refl h0 []).trans K6 all0)
  refine go_areturn hret hlk rfl rfl (D d17_9) (by decide) (by decide) ⟨_, rfl, ⟨r7, rfl, f8⟩⟩ K9
theorem ef_subi0_4 (m : MethodId) (a : Addr)  : entryFrame m #[(.ref a), (.int 0)] 2 = mkF m 0 #[.val (.ref a), .val (.int 0)] [] := by first | (simp [entryFrame, mkF, argsToLocals, Value.category]; done) | rfl
def Q_subi0_4 (Z : State) (a : Addr) (c0 : Int32) (c1 : Int32) (c2 : Int32) (c3 : Int32) (h0 : Heap) (xv : Value) (h : Heap) : Prop := (.ref a) = xv ∧ h0 = h
theorem ef_sub0_4_4 (m : MethodId) (a : Addr)  : entryFrame m #[(.ref a), (.int 0), (.int 4)] 5 = mkF m 0 #[.val (.ref a), .val (.int 0), .val (.int 4), .unset, .unset] [] := by first | (simp [entryFrame, mkF, argsToLocals, Value.category]; done) | rfl
def Q_sub0_4_4 (Z : State) (a : Addr) (c0 : Int32) (c1 : Int32) (c2 : Int32) (c3 : Int32) (h0 : Heap) (xv : Value) (h : Heap) : Prop := (.ref a) = xv ∧ h0 = h
theorem c_sub0_4_4 (l : Launch) {Z : State} {a0 : Array Value} (G : GH Z a0) (a : Addr) (c0 : Int32) (c1 : Int32) (c2 : Int32) (c3 : Int32) (h0 : Heap) (O0 : Old Z Z.heap.size h0) (p1 : Str Z h0 a [c0, c1, c2, c3]) : Con false [] l Z (⟨"java/lang/String", "substring", "(II)Ljava/lang/String;"⟩ : MethodName) jdk_42_method_92_code 5 (some (.object "java/lang/String")) [] (rm4 2 0 0 29) #[(.ref a), (.int 0), (.int 4)] h0 [] (rvl (Q_sub0_4_4 Z a c0 c1 c2 c3 h0)) := by
  refine con_of (a0 := a0) (plainFor_of_name pn1) (fun q => rfl) EW.nil O0 (fun m => ef_sub0_4_4 m a) ?_
  intro p_ e_ s_ m_ below_ meth_ c_ D hml hret hlk hnm
  have q1 : C8 c0 := by obtain ⟨_, _, _, _, _, _, q, _⟩ := id p1; exact q _ (by simp)
  have q2 : C8 c1 := by obtain ⟨_, _, _, _, _, _, q, _⟩ := id p1; exact q _ (by simp)
  have q3 : C8 c2 := by obtain ⟨_, _, _, _, _, _, q, _⟩ := id p1; exact q _ (by simp)
  have q4 : C8 c3 := by obtain ⟨_, _, _, _, _, _, q, _⟩ := id p1; exact q _ (by simp)
  refine go_aload_n 1 (D d18_0) rfl rfl rfl ?_
  refine callV0 (cells' := 0) (slots' := 0) (Wd := 0) (argsL := []) (rest := []) (pay_len G O0 (n := (4 : Int32)) p1 rfl (by decide) (by decide)) p1.exa (wk G 46 rfl) (wk G 47 rfl) (wk G 49 rfl) (wk G 49 rfl) (wk G 48 rfl) (by decide) pd6 rfl rfl (by rw [hml]; rfl) (nb rfl) rfl rfl (by decide) (by decide) all0 (fun _ _ => sf0) (D d18_1) (k_v 4 rfl ?_)
  rintro _ _ ⟨rfl, rfl⟩ -
  refine go_istore_n 5 (ls' := #[vr a, vi 0, vi 4, vi 4, un]) (D d18_4) rfl rfl ?_
  refine go_iload_n 6 (D d18_5) rfl rfl ?_
  refine go_iload_n 7 (D d18_6) rfl rfl ?_
  refine go_iload_n 8 (D d18_7) rfl rfl ?_
  refine callS0 (cells' := 0) (slots' := 0) (Wd := 0) (argsL := [(.int 0), (.int 4), (.int 4)]) (rest := []) (pay_of (a0 := a0) (c_cbbe l G (0 : Int32) (4 : Int32) (4 : Int32) h0 O0 (by decide) (by decide) (by decide)) (wk G 82 rfl) (wk G 7 rfl) (by decide) (by decide)) (wk G 80 rfl) (wk G 81 rfl) (wk G 7 rfl) (wk G 82 rfl) (by decide) pd11 rfl rfl (by rw [hml]; rfl) (nb rfl) rfl rfl (by decide) (by decide) all0 (fun _ _ => sf0) (D d18_8) (k_n 11 rfl ?_)
  rintro  h5 rfl K6
  refine go_iload_n 12 (D d18_11) rfl rfl ?_
  refine go_ifF 15 (D d18_12) rfl (by decide) ?_
  refine go_iload_n 16 (D d18_15) rfl rfl ?_
  refine go_iload_n 17 (D d18_16) rfl rfl ?_
  refine go_icF 20 (D d18_17) rfl (by decide) ?_
  refine go_aload_n 21 (D d18_20) rfl rfl rfl ?_
  refine go_areturn hret hlk rfl rfl (D d18_21) (by decide) (by decide) ⟨_, rfl, ⟨rfl, rfl⟩⟩ (Keep.refl h0 [])
theorem c_subi0_4 (l : Launch) {Z : State} {a0 : Array Value} (G : GH Z a0) (a : Addr) (c0 : Int32) (c1 : Int32) (c2 : Int32) (c3 : Int32) (h0 : Heap) (O0 : Old Z Z.heap.size h0) (p1 : Str Z h0 a [c0, c1, c2, c3]) : Con false [] l Z (⟨"java/lang/String", "substring", "(I)Ljava/lang/String;"⟩ : MethodName) jdk_42_method_91_code 2 (some (.object "java/lang/String")) [] (rm4 3 0 0 45) #[(.ref a), (.int 0)] h0 [] (rvl (Q_subi0_4 Z a c0 c1 c2 c3 h0)) := by
  refine con_of (a0 := a0) (plainFor_of_name pn1) (fun q => rfl) EW.nil O0 (fun m => ef_subi0_4 m a) ?_
  intro p_ e_ s_ m_ below_ meth_ c_ D hml hret hlk hnm
  have q1 : C8 c0 := by obtain ⟨_, _, _, _, _, _, q, _⟩ := id p1; exact q _ (by simp)
  have q2 : C8 c1 := by obtain ⟨_, _, _, _, _, _, q, _⟩ := id p1; exact q _ (by simp)
  have q3 : C8 c2 := by obtain ⟨_, _, _, _, _, _, q, _⟩ := id p1; exact q _ (by simp)
  have q4 : C8 c3 := by obtain ⟨_, _, _, _, _, _, q, _⟩ := id p1; exact q _ (by simp)
  refine go_aload_n 1 (D d17_0) rfl rfl rfl ?_
  refine go_iload_n 2 (D d17_1) rfl rfl ?_
  refine go_aload_n 3 (D d17_2) rfl rfl rfl ?_
  refine callV0 (cells' := 0) (slots' := 0) (Wd := 2) (argsL := []) (rest := [(.int 0), (.ref a)]) (pay_len G O0 (n := (4 : Int32)) p1 rfl (by decide) (by decide)) p1.exa (wk G 46 rfl) (wk G 47 rfl) (wk G 49 rfl) (wk G 49 rfl) (wk G 48 rfl) (by decide) pd6 rfl rfl (by rw [hml]; rfl) (nb rfl) rfl rfl (by decide) (by decide) all0 (fun _ _ => sf0) (D d17_3) (k_v 6 rfl ?_)
  rintro _ _ ⟨rfl, rfl⟩ -
  refine callV0 (cells' := 0) (slots' := 0) (Wd := 0) (argsL := [(.int 0), (.int 4)]) (rest := []) (pay_of (a0 := a0) (c_sub0_4_4 l G a c0 c1 c2 c3 h0 O0 p1) (wk G 79 rfl) (wk G 7 rfl) (by decide) (by decide)) p1.exa (wk G 75 rfl) (wk G 76 rfl) (wk G 78 rfl) (wk G 78 rfl) (wk G 77 rfl) (by decide) pd12 rfl rfl (by rw [hml]; rfl) (nb rfl) rfl rfl (by decide) (by decide) all0 (fun _ _ => sf0) (D d17_6) (k_v 9 rfl ?_)
  rintro _ h5 ⟨rfl, rfl⟩ K6
  refine go_areturn hret hlk rfl rfl (D d17_9) (by decide) (by decide) ⟨_, rfl, ⟨rfl, rfl⟩⟩ (Keep.refl h0 [])
theorem c_unq4 (l : Launch) {Z : State} {a0 : Array Value} (G : GH Z a0) (a : Addr) (c0 : Int32) (c1 : Int32) (c2 : Int32) (c3 : Int32) (h0 : Heap) (O0 : Old Z Z.heap.size h0) (p1 : Str Z h0 a [c0, c1, c2, c3]) : Con true EL1 l Z (⟨"com/example/commit_feed/commitfeed/config/SqlNames", "unqualified", "(Ljava/lang/String;)Ljava/lang/String;"⟩ : MethodName) prog_9_method_4_code 1 (some (.object "java/lang/String")) [] (rm4 6 2 7 93) #[(.ref a)] h0 [] (rvl (Q_unq4 Z a c0 c1 c2 c3 h0)) := by
  refine con_of (a0 := a0) (plainFor_of_name pn6) (fun q => nomatch q) (ew1 G) O0 (fun m => ef_unq4 m a) ?_
  intro p_ e_ s_ m_ below_ meth_ c_ D hml hret hlk hnm
  refine go_aload_n 1 (D d11_0) rfl rfl rfl ?_
  refine go_aload_n 2 (D d11_1) rfl rfl rfl ?_
  refine go_bipush 4 (v := 46) (D d11_2) rfl rfl ?_
  refine callV0 (cells' := 0) (slots' := 0) (Wd := 1) (argsL := [(.int 46)]) (rest := [(.ref a)]) (pay_of (a0 := a0) (c_idx4 l G a c0 c1 c2 c3 h0 O0 p1) (wk G 34 rfl) (wk G 7 rfl) (by decide) (by decide)) p1.exa (wk G 30 rfl) (wk G 31 rfl) (wk G 33 rfl) (wk G 33 rfl) (wk G 32 rfl) (by decide) pd10 rfl rfl (by rw [hml]; rfl) (nb rfl) rfl rfl (by decide) (by decide) all0 (fun _ _ => sf0) (D d11_4) (k_v 7 rfl ?_)
  rintro _ h1 (⟨rfl, rfl, f3⟩ | ⟨rfl, rfl, f4, f5⟩ | ⟨rfl, rfl, f6, f7, f8⟩ | ⟨rfl, rfl, f9, f10, f11, f12⟩ | ⟨rfl, rfl, f13, f14, f15, f16⟩) K2
  · refine go_iconst 8 (v := 1) (D d11_7) rfl rfl ?_
    refine go_iadd 9 (z := (1 : Int32)) (D d11_8) rfl (by decide) ?_
    refine callV0 (cells' := 2) (slots' := 7) (Wd := 0) (argsL := [(.int 1)]) (rest := []) (pay_of (a0 := a0) (c_subi1_4 l G a c0 c1 c2 c3 h0 O0 p1) (wk G 74 rfl) (wk G 7 rfl) (by decide) (by decide)) p1.exa (wk G 70 rfl) (wk G 71 rfl) (wk G 73 rfl) (wk G 73 rfl) (wk G 72 rfl) (by decide) pd13 rfl rfl (by rw [hml]; rfl) (nb rfl) rfl rfl (by decide) (by decide) all0 (fun _ _ => sf0) (D d11_9) (k_v 12 rfl ?_)
    rintro _ h17 ⟨r19, rfl, f20⟩ K18
    have K21 : Keep h0 h17 [] := ((Keep.refl h0 []).trans K18 all0)
    refine go_areturn hret hlk rfl rfl (D d11_12) (by decide) (by decide) ⟨_, rfl, (Or.inl ⟨r19, rfl, f3, f20⟩)⟩ K21
  · refine go_iconst 8 (v := 1) (D d11_7) rfl rfl ?_
    refine go_iadd 9 (z := (2 : Int32)) (D d11_8) rfl (by decide) ?_
    refine callV0 (cells' := 2) (slots' := 6) (Wd := 0) (argsL := [(.int 2)]) (rest := []) (pay_of (a0 := a0) (c_subi2_4 l G a c0 c1 c2 c3 h0 O0 p1) (wk G 74 rfl) (wk G 7 rfl) (by decide) (by decide)) p1.exa (wk G 70 rfl) (wk G 71 rfl) (wk G 73 rfl) (wk G 73 rfl) (wk G 72 rfl) (by decide) pd13 rfl rfl (by rw [hml]; rfl) (nb rfl) rfl rfl (by decide) (by decide) all0 (fun _ _ => sf0) (D d11_9) (k_v 12 rfl ?_)
    rintro _ h22 ⟨r24, rfl, f25⟩ K23
    have K26 : Keep h0 h22 [] := ((Keep.refl h0 []).trans K23 all0)
    refine go_areturn hret hlk rfl rfl (D d11_12) (by decide) (by decide) ⟨_, rfl, (Or.inr (Or.inl ⟨r24, rfl, f4, f5, f25⟩))⟩ K26
  · refine go_iconst 8 (v := 1) (D d11_7) rfl rfl ?_
    refine go_iadd 9 (z := (3 : Int32)) (D d11_8) rfl (by decide) ?_
    refine callV0 (cells' := 2) (slots' := 5) (Wd := 0) (argsL := [(.int 3)]) (rest := []) (pay_of (a0 := a0) (c_subi3_4 l G a c0 c1 c2 c3 h0 O0 p1) (wk G 74 rfl) (wk G 7 rfl) (by decide) (by decide)) p1.exa (wk G 70 rfl) (wk G 71 rfl) (wk G 73 rfl) (wk G 73 rfl) (wk G 72 rfl) (by decide) pd13 rfl rfl (by rw [hml]; rfl) (nb rfl) rfl rfl (by decide) (by decide) all0 (fun _ _ => sf0) (D d11_9) (k_v 12 rfl ?_)
    rintro _ h27 ⟨r29, rfl, f30⟩ K28
    have K31 : Keep h0 h27 [] := ((Keep.refl h0 []).trans K28 all0)
    refine go_areturn hret hlk rfl rfl (D d11_12) (by decide) (by decide) ⟨_, rfl, (Or.inr (Or.inr (Or.inl ⟨r29, rfl, f6, f7, f8, f30⟩)))⟩ K31
  · refine go_iconst 8 (v := 1) (D d11_7) rfl rfl ?_
    refine go_iadd 9 (z := (4 : Int32)) (D d11_8) rfl (by decide) ?_
    refine callVW0 rfl (cells' := 2) (slots' := 4) (Wd := 0) (argsL := [(.int 4)]) (rest := []) (payW_of (a0 := a0) (c_subi4_4 l G a c0 c1 c2 c3 h0 O0 p1) (wk G 74 rfl) (wk G 7 rfl) (by decide) (by decide) (ew1 G)) p1.exa (wk G 70 rfl) (wk G 71 rfl) (wk G 73 rfl) (wk G 73 rfl) (wk G 72 rfl) (by decide) pd13 rfl rfl (by rw [hml]; rfl) (nb rfl) rfl rfl (by decide) (by decide) all0 (D d11_9) (k_v 12 rfl ?_)
    rintro _ h32 ⟨r34, rfl, f35⟩ K33
    have K36 : Keep h0 h32 [] := ((Keep.refl h0 []).trans K33 all0)
    refine go_areturn hret hlk rfl rfl (D d11_12) (by decide) (by decide) ⟨_, rfl, (Or.inr (Or.inr (Or.inr (Or.inl ⟨r34, rfl, f9, f10, f11, f12, f35⟩))))⟩ K36
  · refine go_iconst 8 (v := 1) (D d11_7) rfl rfl ?_
    refine go_iadd 9 (z := (0 : Int32)) (D d11_8) rfl (by decide) ?_
    refine callV0 (cells' := 0) (slots' := 0) (Wd := 0) (argsL := [(.int 0)]) (rest := []) (pay_of (a0 := a0) (c_subi0_4 l G a c0 c1 c2 c3 h0 O0 p1) (wk G 74 rfl) (wk G 7 rfl) (by decide) (by decide)) p1.exa (wk G 70 rfl) (wk G 71 rfl) (wk G 73 rfl) (wk G 73 rfl) (wk G 72 rfl) (by decide) pd13 rfl rfl (by rw [hml]; rfl) (nb rfl) rfl rfl (by decide) (by decide) all0 (fun _ _ => sf0) (D d11_9) (k_v 12 rfl ?_)
    rintro _ h37 ⟨rfl, rfl⟩ K38
    refine go_areturn hret hlk rfl rfl (D d11_12) (by decide) (by decide) ⟨_, rfl, (Or.inr (Or.inr (Or.inr (Or.inr (⟨rfl, f13, f14, f15, f16⟩)))))⟩ (Keep.refl h0 [])
theorem ef_unq5 (m : MethodId) (a : Addr)  : entryFrame m #[(.ref a)] 1 = mkF m 0 #[.val (.ref a)] [] := by first | (simp [entryFrame, mkF, argsToLocals, Value.category]; done) | rfl
def Q_unq5 (Z : State) (a : Addr) (c0 : Int32) (c1 : Int32) (c2 : Int32) (c3 : Int32) (c4 : Int32) (h0 : Heap) (xv : Value) (h : Heap) : Prop := (∃ (r : Addr), (.ref r) = xv ∧ c0 = (46 : Int32) ∧ Str Z h r [c1, c2, c3, c4]) ∨ (∃ (r : Addr), (.ref r) = xv ∧ ¬ c0 = (46 : Int32) ∧ c1 = (46 : Int32) ∧ Str Z h r [c2, c3, c4]) ∨ (∃ (r : Addr), (.ref r) = xv ∧ ¬ c0 = (46 : Int32) ∧ ¬ c1 = (46 : Int32) ∧ c2 = (46 : Int32) ∧ Str Z h r [c3, c4]) ∨ (∃ (r : Addr), (.ref r) = xv ∧ ¬ c0 = (46 : Int32) ∧ ¬ c1 = (46 : Int32) ∧ ¬ c2 = (46 : Int32) ∧ c3 = (46 : Int32) ∧ Str Z h r [c4]) ∨ (∃ (r : Addr), (.ref r) = xv ∧ ¬ c0 = (46 : Int32) ∧ ¬ c1 = (46 : Int32) ∧ ¬ c2 = (46 : Int32) ∧ ¬ c3 = (46 : Int32) ∧ c4 = (46 : Int32) ∧ Str Z h r []) ∨ ((.ref a) = xv ∧ ¬ c0 = (46 : Int32) ∧ ¬ c1 = (46 : Int32) ∧ ¬ c2 = (46 : Int32) ∧ ¬ c3 = (46 : Int32) ∧ ¬ c4 = (46 : Int32))
theorem ef_idx5 (m : MethodId) (a : Addr)  : entryFrame m #[(.ref a), (.int 46)] 2 = mkF m 0 #[.val (.ref a), .val (.int 46)] [] := by first | (simp [entryFrame, mkF, argsToLocals, Value.category]; done) | rfl
def Q_idx5 (Z : State) (a : Addr) (c0 : Int32) (c1 : Int32) (c2 : Int32) (c3 : Int32) (c4 : Int32) (h0 : Heap) (xv : Value) (h : Heap) : Prop := ((.int 0) = xv ∧ h0 = h ∧ c0 = (46 : Int32)) ∨ ((.int 1) = xv ∧ h0 = h ∧ ¬ c0 = (46 : Int32) ∧ c1 = (46 : Int32)) ∨ ((.int 2) = xv ∧ h0 = h ∧ ¬ c0 = (46 : Int32) ∧ ¬ c1 = (46 : Int32) ∧ c2 = (46 : Int32)) ∨ ((.int 3) = xv ∧ h0 = h ∧ ¬ c0 = (46 : Int32) ∧ ¬ c1 = (46 : Int32) ∧ ¬ c2 = (46 : Int32) ∧ c3 = (46 : Int32)) ∨ ((.int 4) = xv ∧ h0 = h ∧ ¬ c0 = (46 : Int32) ∧ ¬ c1 = (46 : Int32) ∧ ¬ c2 = (46 : Int32) ∧ ¬ c3 = (46 : Int32) ∧ c4 = (46 : Int32)) ∨ ((.int (-1)) = xv ∧ h0 = h ∧ ¬ c0 = (46 : Int32) ∧ ¬ c1 = (46 : Int32) ∧ ¬ c2 = (46 : Int32) ∧ ¬ c3 = (46 : Int32) ∧ ¬ c4 = (46 : Int32))
theorem ef_idxs5 (m : MethodId) (a : Addr)  : entryFrame m #[(.ref a), (.int 46), (.int 0)] 3 = mkF m 0 #[.val (.ref a), .val (.int 46), .val (.int 0)] [] := by first | (simp [entryFrame, mkF, argsToLocals, Value.category]; done) | rfl
def Q_idxs5 (Z : State) (a : Addr) (c0 : Int32) (c1 : Int32) (c2 : Int32) (c3 : Int32) (c4 : Int32) (h0 : Heap) (xv : Value) (h : Heap) : Prop := ((.int 0) = xv ∧ h0 = h ∧ c0 = (46 : Int32)) ∨ ((.int 1) = xv ∧ h0 = h ∧ ¬ c0 = (46 : Int32) ∧ c1 = (46 : Int32)) ∨ ((.int 2) = xv ∧ h0 = h ∧ ¬ c0 = (46 : Int32) ∧ ¬ c1 = (46 : Int32) ∧ c2 = (46 : Int32)) ∨ ((.int 3) = xv ∧ h0 = h ∧ ¬ c0 = (46 : Int32) ∧ ¬ c1 = (46 : Int32) ∧ ¬ c2 = (46 : Int32) ∧ c3 = (46 : Int32)) ∨ ((.int 4) = xv ∧ h0 = h ∧ ¬ c0 = (46 : Int32) ∧ ¬ c1 = (46 : Int32) ∧ ¬ c2 = (46 : Int32) ∧ ¬ c3 = (46 : Int32) ∧ c4 = (46 : Int32)) ∨ ((.int (-1)) = xv ∧ h0 = h ∧ ¬ c0 = (46 : Int32) ∧ ¬ c1 = (46 : Int32) ∧ ¬ c2 = (46 : Int32) ∧ ¬ c3 = (46 : Int32) ∧ ¬ c4 = (46 : Int32))
theorem ef_idxl5 (m : MethodId) (t : Addr)  : entryFrame m #[(.ref t), (.int 46), (.int 0), (.int 5)] 4 = mkF m 0 #[.val (.ref t), .val (.int 46), .val (.int 0), .val (.int 5)] [] := by first | (simp [entryFrame, mkF, argsToLocals, Value.category]; done) | rfl
def Q_idxl5 (Z : State) (t : Addr) (k : ClassId) (b0 : Int32) (b1 : Int32) (b2 : Int32) (b3 : Int32) (b4 : Int32) (h0 : Heap) (xv : Value) (h : Heap) : Prop := ((.int 0) = xv ∧ h0 = h ∧ b0 = (46 : Int32)) ∨ ((.int 1) = xv ∧ h0 = h ∧ ¬ b0 = (46 : Int32) ∧ b1 = (46 : Int32)) ∨ ((.int 2) = xv ∧ h0 = h ∧ ¬ b0 = (46 : Int32) ∧ ¬ b1 = (46 : Int32) ∧ b2 = (46 : Int32)) ∨ ((.int 3) = xv ∧ h0 = h ∧ ¬ b0 = (46 : Int32) ∧ ¬ b1 = (46 : Int32) ∧ ¬ b2 = (46 : Int32) ∧ b3 = (46 : Int32)) ∨ ((.int 4) = xv ∧ h0 = h ∧ ¬ b0 = (46 : Int32) ∧ ¬ b1 = (46 : Int32) ∧ ¬ b2 = (46 : Int32) ∧ ¬ b3 = (46 : Int32) ∧ b4 = (46 : Int32)) ∨ ((.int (-1)) = xv ∧ h0 = h ∧ ¬ b0 = (46 : Int32) ∧ ¬ b1 = (46 : Int32) ∧ ¬ b2 = (46 : Int32) ∧ ¬ b3 = (46 : Int32) ∧ ¬ b4 = (46 : Int32))
theorem ef_min5_5 (m : MethodId)   : entryFrame m #[(.int 5), (.int 5)] 2 = mkF m 0 #[.val (.int 5), .val (.int 5)] [] := by first | (simp [entryFrame, mkF, argsToLocals, Value.category]; done) | rfl
def Q_min5_5 (Z : State)   (h0 : Heap) (xv : Value) (h : Heap) : Prop := (.int 5) = xv ∧ h0 = h
theorem c_min5_5 (l : Launch) {Z : State} {a0 : Array Value} (G : GH Z a0)   (h0 : Heap) (O0 : Old Z Z.heap.size h0)  : Con false [] l Z (⟨"java/lang/Math", "min", "(II)I"⟩ : MethodName) jdk_29_method_69_code 2 (some .int) [] (rm4 0 0 0 0) #[(.int 5), (.int 5)] h0 [] (rvl (Q_min5_5 Z h0)) := by
  refine con_of (a0 := a0) (Jvm.Free.JP.mathPlain rfl (by decide)) (fun q => rfl) EW.nil O0 (fun m => ef_min5_5 m ) ?_
  intro p_ e_ s_ m_ below_ meth_ c_ D hml hret hlk hnm
  refine go_iload_n 1 (D d16_0) rfl rfl ?_
  refine go_iload_n 2 (D d16_1) rfl rfl ?_
  refine go_icF 5 (D d16_2) rfl (by decide) ?_
  refine go_iload_n 6 (D d16_5) rfl rfl ?_
  refine go_goto 10 (D d16_6) (by decide) rfl ?_
  refine go_ireturn hret hlk rfl (by simp) (D d16_10) (by decide) (by decide) ⟨_, rfl, ⟨rfl, rfl⟩⟩ (Keep.refl h0 [])
theorem ef_idxc5 (m : MethodId) (t : Addr)  : entryFrame m #[(.ref t), (.int 46), (.int 0), (.int 5)] 6 = mkF m 0 #[.val (.ref t), .val (.int 46), .val (.int 0), .val (.int 5), .unset, .unset] [] := by first | (simp [entryFrame, mkF, argsToLocals, Value.category]; done) | rfl
def Q_idxc5 (Z : State) (t : Addr) (k : ClassId) (b0 : Int32) (b1 : Int32) (b2 : Int32) (b3 : Int32) (b4 : Int32) (h0 : Heap) (xv : Value) (h : Heap) : Prop := ((.int 0) = xv ∧ h0 = h ∧ b0 = (46 : Int32)) ∨ ((.int 1) = xv ∧ h0 = h ∧ ¬ b0 = (46 : Int32) ∧ b1 = (46 : Int32)) ∨ ((.int 2) = xv ∧ h0 = h ∧ ¬ b0 = (46 : Int32) ∧ ¬ b1 = (46 : Int32) ∧ b2 = (46 : Int32)) ∨ ((.int 3) = xv ∧ h0 = h ∧ ¬ b0 = (46 : Int32) ∧ ¬ b1 = (46 : Int32) ∧ ¬ b2 = (46 : Int32) ∧ b3 = (46 : Int32)) ∨ ((.int 4) = xv ∧ h0 = h ∧ ¬ b0 = (46 : Int32) ∧ ¬ b1 = (46 : Int32) ∧ ¬ b2 = (46 : Int32) ∧ ¬ b3 = (46 : Int32) ∧ b4 = (46 : Int32)) ∨ ((.int (-1)) = xv ∧ h0 = h ∧ ¬ b0 = (46 : Int32) ∧ ¬ b1 = (46 : Int32) ∧ ¬ b2 = (46 : Int32) ∧ ¬ b3 = (46 : Int32) ∧ ¬ b4 = (46 : Int32))
theorem c_idxc5 (l : Launch) {Z : State} {a0 : Array Value} (G : GH Z a0) (t : Addr) (k : ClassId) (b0 : Int32) (b1 : Int32) (b2 : Int32) (b3 : Int32) (b4 : Int32) (h0 : Heap) (O0 : Old Z Z.heap.size h0) (p1 : Arv Z h0 t k (.byte) (5 : Int32) [(.int b0), (.int b1), (.int b2), (.int b3), (.int b4)] (.int 0)) : Con false [] l Z (⟨"java/lang/StringLatin1", "indexOfChar", "([BIII)I"⟩ : MethodName) jdk_43_method_23_code 6 (some .int) [] (rm4 0 0 0 0) #[(.ref t), (.int 46), (.int 0), (.int 5)] h0 [] (rvl (Q_idxc5 Z t k b0 b1 b2 b3 b4 h0)) := by
  refine con_of (a0 := a0) (plainFor_of_name pn2) (fun q => rfl) EW.nil O0 (fun m => ef_idxc5 m t) ?_
  intro p_ e_ s_ m_ below_ meth_ c_ D hml hret hlk hnm
  refine go_iload_n 1 (D d19_0) rfl rfl ?_
  refine go_i2b 2 (z := (46 : Int32)) (D d19_1) rfl (by decide) ?_
  refine go_istore 4 (ls' := #[vr t, vi 46, vi 0, vi 5, vi 46, un]) (D d19_2) rfl rfl ?_
  refine go_iload_n 5 (D d19_4) rfl rfl ?_
  refine go_istore 7 (ls' := #[vr t, vi 46, vi 0, vi 5, vi 46, vi 0]) (D d19_5) rfl rfl ?_
  refine go_iload 9 (D d19_7) rfl rfl ?_
  refine go_iload_n 10 (D d19_9) rfl rfl ?_
  refine go_icF 13 (D d19_10) rfl (by decide) ?_
  refine go_aload_n 14 (D d19_13) rfl rfl rfl ?_
  refine go_iload 16 (D d19_14) rfl rfl ?_
  refine go_baload 17 (i := 0) (v := (.int b0)) p1 (by decide) (by decide) rfl rfl (D d19_16) rfl ?_
  refine go_iload 19 (D d19_17) rfl rfl ?_
  by_cases cz1 : b0 = (46 : Int32)
  · refine go_icF 22 (D d19_19) rfl (XT.ii_ne_f cz1) ?_
    refine go_iload 24 (D d19_22) rfl rfl ?_
    refine go_ireturn hret hlk rfl (by simp) (D d19_24) (by decide) (by decide) ⟨_, rfl, (Or.inl ⟨rfl, rfl, cz1⟩)⟩ (Keep.refl h0 [])
  · refine go_icT 25 (D d19_19) (by decide) rfl (XT.ii_ne_t cz1) ?_
    refine go_iinc 28 (ls' := #[vr t, vi 46, vi 0, vi 5, vi 46, vi 1]) (y := (1 : Int32)) (D d19_25) rfl rfl rfl rfl ?_
    refine go_goto 7 (D d19_28) (by decide) rfl ?_
    refine go_iload 9 (D d19_7) rfl rfl ?_
    refine go_iload_n 10 (D d19_9) rfl rfl ?_
    refine go_icF 13 (D d19_10) rfl (by decide) ?_
    refine go_aload_n 14 (D d19_13) rfl rfl rfl ?_
    refine go_iload 16 (D d19_14) rfl rfl ?_
    refine go_baload 17 (i := 1) (v := (.int b1)) p1 (by decide) (by decide) rfl rfl (D d19_16) rfl ?_
    refine go_iload 19 (D d19_17) rfl rfl ?_
    by_cases cz2 : b1 = (46 : Int32)
    · refine go_icF 22 (D d19_19) rfl (XT.ii_ne_f cz2) ?_
      refine go_iload 24 (D d19_22) rfl rfl ?_
      refine go_ireturn hret hlk rfl (by simp) (D d19_24) (by decide) (by decide) ⟨_, rfl, (Or.inr (Or.inl ⟨rfl, rfl, cz1, cz2⟩))⟩ (Keep.refl h0 [])
    · refine go_icT 25 (D d19_19) (by decide) rfl (XT.ii_ne_t cz2) ?_
      refine go_iinc 28 (ls' := #[vr t, vi 46, vi 0, vi 5, vi 46, vi 2]) (y := (2 : Int32)) (D d19_25) rfl rfl rfl rfl ?_
      refine go_goto 7 (D d19_28) (by decide) rfl ?_
      refine go_iload 9 (D d19_7) rfl rfl ?_
      refine go_iload_n 10 (D d19_9) rfl rfl ?_
      refine go_icF 13 (D d19_10) rfl (by decide) ?_
      refine go_aload_n 14 (D d19_13) rfl rfl rfl ?_
      refine go_iload 16 (D d19_14) rfl rfl ?_
      refine go_baload 17 (i := 2) (v := (.int b2)) p1 (by decide) (by decide) rfl rfl (D d19_16) rfl ?_
      refine go_iload 19 (D d19_17) rfl rfl ?_
      by_cases cz3 : b2 = (46 : Int32)
      · refine go_icF 22 (D d19_19) rfl (XT.ii_ne_f cz3) ?_
        refine go_iload 24 (D d19_22) rfl rfl ?_
        refine go_ireturn hret hlk rfl (by simp) (D d19_24) (by decide) (by decide) ⟨_, rfl, (Or.inr (Or.inr (Or.inl ⟨rfl, rfl, cz1, cz2, cz3⟩)))⟩ (Keep.refl h0 [])
      · refine go_icT 25 (D d19_19) (by decide) rfl (XT.ii_ne_t cz3) ?_
        refine go_iinc 28 (ls' := #[vr t, vi 46, vi 0, vi 5, vi 46, vi 3]) (y := (3 : Int32)) (D d19_25) rfl rfl rfl rfl ?_
        refine go_goto 7 (D d19_28) (by decide) rfl ?_
        refine go_iload 9 (D d19_7) rfl rfl ?_
        refine go_iload_n 10 (D d19_9) rfl rfl ?_
        refine go_icF 13 (D d19_10) rfl (by decide) ?_
        refine go_aload_n 14 (D d19_13) rfl rfl rfl ?_
        refine go_iload 16 (D d19_14) rfl rfl ?_
        refine go_baload 17 (i := 3) (v := (.int b3)) p1 (by decide) (by decide) rfl rfl (D d19_16) rfl ?_
        refine go_iload 19 (D d19_17) rfl rfl ?_
        by_cases cz4 : b3 = (46 : Int32)
        · refine go_icF 22 (D d19_19) rfl (XT.ii_ne_f cz4) ?_
          refine go_iload 24 (D d19_22) rfl rfl ?_
          refine go_ireturn hret hlk rfl (by simp) (D d19_24) (by decide) (by decide) ⟨_, rfl, (Or.inr (Or.inr (Or.inr (Or.inl ⟨rfl, rfl, cz1, cz2, cz3, cz4⟩))))⟩ (Keep.refl h0 [])
        · refine go_icT 25 (D d19_19) (by decide) rfl (XT.ii_ne_t cz4) ?_
          refine go_iinc 28 (ls' := #[vr t, vi 46, vi 0, vi 5, vi 46, vi 4]) (y := (4 : Int32)) (D d19_25) rfl rfl rfl rfl ?_
          refine go_goto 7 (D d19_28) (by decide) rfl ?_
          refine go_iload 9 (D d19_7) rfl rfl ?_
          refine go_iload_n 10 (D d19_9) rfl rfl ?_
          refine go_icF 13 (D d19_10) rfl (by decide) ?_
          refine go_aload_n 14 (D d19_13) rfl rfl rfl ?_
          refine go_iload 16 (D d19_14) rfl rfl ?_
          refine go_baload 17 (i := 4) (v := (.int b4)) p1 (by decide) (by decide) rfl rfl (D d19_16) rfl ?_
          refine go_iload 19 (D d19_17) rfl rfl ?_
          by_cases cz5 : b4 = (46 : Int32)
          · refine go_icF 22 (D d19_19) rfl (XT.ii_ne_f cz5) ?_
            refine go_iload 24 (D d19_22) rfl rfl ?_
            refine go_ireturn hret hlk rfl (by simp) (D d19_24) (by decide) (by decide) ⟨_, rfl, (Or.inr (Or.inr (Or.inr (Or.inr (Or.inl ⟨rfl, rfl, cz1, cz2, cz3, cz4, cz5⟩)))))⟩ (Keep.refl h0 [])
          · refine go_icT 25 (D d19_19) (by decide) rfl (XT.ii_ne_t cz5) ?_
            refine go_iinc 28 (ls' := #[vr t, vi 46, vi 0, vi 5, vi 46, vi 5]) (y := (5 : Int32)) (D d19_25) rfl rfl rfl rfl ?_
            refine go_goto 7 (D d19_28) (by decide) rfl ?_
            refine go_iload 9 (D d19_7) rfl rfl ?_
            refine go_iload_n 10 (D d19_9) rfl rfl ?_
            refine go_icT 31 (D d19_10) (by decide) rfl (by decide) ?_
            refine go_iconst 32 (v := (-1)) (D d19_31) rfl rfl ?_
            refine go_ireturn hret hlk rfl (by simp) (D d19_32) (by decide) (by decide) ⟨_, rfl, (Or.inr (Or.inr (Or.inr (Or.inr (Or.inr (⟨rfl, rfl, cz1, cz2, cz3, cz4, cz5⟩))))))⟩ (Keep.refl h0 [])
theorem c_idxl5 (l : Launch) {Z : State} {a0 : Array Value} (G : GH Z a0) (t : Addr) (k : ClassId) (b0 : Int32) (b1 : Int32) (b2 : Int32) (b3 : Int32) (b4 : Int32) (h0 : Heap) (O0 : Old Z Z.heap.size h0) (p1 : Arv Z h0 t k (.byte) (5 : Int32) [(.int b0), (.int b1), (.int b2), (.int b3), (.int b4)] (.int 0)) : Con false [] l Z (⟨"java/lang/StringLatin1", "indexOf", "([BIII)I"⟩ : MethodName) jdk_43_method_22_code 4 (some .int) [] (rm4 1 0 0 17) #[(.ref t), (.int 46), (.int 0), (.int 5)] h0 [] (rvl (Q_idxl5 Z t k b0 b1 b2 b3 b4 h0)) := by
  refine con_of (a0 := a0) (plainFor_of_name pn2) (fun q => rfl) EW.nil O0 (fun m => ef_idxl5 m t) ?_
  intro p_ e_ s_ m_ below_ meth_ c_ D hml hret hlk hnm
  refine go_iload_n 1 (D d14_0) rfl rfl ?_
  refine callS0 (cells' := 0) (slots' := 0) (Wd := 0) (argsL := [(.int 46)]) (rest := []) (pay_of (a0 := a0) (c_canenc46 l G  h0 O0 ) (wk G 62 rfl) (wk G 58 rfl) (by decide) (by decide)) (wk G 60 rfl) (wk G 61 rfl) (wk G 58 rfl) (wk G 62 rfl) (by decide) pd7 rfl rfl (by rw [hml]; rfl) (nb rfl) rfl rfl (by decide) (by decide) all0 (fun _ _ => sf0) (D d14_1) (k_v 4 rfl ?_)
  rintro _ h1 ⟨rfl, rfl⟩ K2
  refine go_ifT 9 (D d14_4) (by decide) rfl (by decide) ?_
  refine go_iload_n 10 (D d14_9) rfl rfl ?_
  refine go_iconst 11 (v := 0) (D d14_10) rfl rfl ?_
  refine callS0 (cells' := 0) (slots' := 0) (Wd := 0) (argsL := [(.int 0), (.int 0)]) (rest := []) (pay_of (a0 := a0) (c_max0_0 l G  h0 O0 ) (wk G 66 rfl) (wk G 65 rfl) (by decide) (by decide)) (wk G 63 rfl) (wk G 64 rfl) (wk G 65 rfl) (wk G 66 rfl) (by decide) pd8 rfl rfl (by rw [hml]; rfl) (nb rfl) rfl rfl (by decide) (by decide) all0 (fun _ _ => sf0) (D d14_11) (k_v 14 rfl ?_)
  rintro _ h3 ⟨rfl, rfl⟩ K4
  refine go_istore_n 15 (ls' := #[vr t, vi 46, vi 0, vi 5]) (D d14_14) rfl rfl ?_
  refine go_iload_n 16 (D d14_15) rfl rfl ?_
  refine go_aload_n 17 (D d14_16) rfl rfl rfl ?_
  refine go_arraylength 18 p1 (D d14_17) rfl ?_
  refine callS0 (cells' := 0) (slots' := 0) (Wd := 0) (argsL := [(.int 5), (.int 5)]) (rest := []) (pay_of (a0 := a0) (c_min5_5 l G  h0 O0 ) (wk G 69 rfl) (wk G 65 rfl) (by decide) (by decide)) (wk G 67 rfl) (wk G 68 rfl) (wk G 65 rfl) (wk G 69 rfl) (by decide) pd8 rfl rfl (by rw [hml]; rfl) (nb rfl) rfl rfl (by decide) (by decide) all0 (fun _ _ => sf0) (D d14_18) (k_v 21 rfl ?_)
  rintro _ h5 ⟨rfl, rfl⟩ K6
  refine go_istore_n 22 (ls' := #[vr t, vi 46, vi 0, vi 5]) (D d14_21) rfl rfl ?_
  refine go_iload_n 23 (D d14_22) rfl rfl ?_
  refine go_iload_n 24 (D d14_23) rfl rfl ?_
  refine go_icT 29 (D d14_24) (by decide) rfl (by decide) ?_
  refine go_aload_n 30 (D d14_29) rfl rfl rfl ?_
  refine go_iload_n 31 (D d14_30) rfl rfl ?_
  refine go_iload_n 32 (D d14_31) rfl rfl ?_
  refine go_iload_n 33 (D d14_32) rfl rfl ?_
  refine callS0 (cells' := 0) (slots' := 0) (Wd := 0) (argsL := [(.ref t), (.int 46), (.int 0), (.int 5)]) (rest := []) (pay_of (a0 := a0) (c_idxc5 l G t k b0 b1 b2 b3 b4 h0 O0 p1) (wk G 109 rfl) (wk G 58 rfl) (by decide) (by decide)) (wk G 107 rfl) (wk G 108 rfl) (wk G 58 rfl) (wk G 109 rfl) (by decide) pd9 rfl rfl (by rw [hml]; rfl) (nb rfl) rfl rfl (by decide) (by decide) all0 (fun _ _ => sf0) (D d14_33) (k_v 36 rfl ?_)
  rintro _ h7 (⟨rfl, rfl, f9⟩ | ⟨rfl, rfl, f10, f11⟩ | ⟨rfl, rfl, f12, f13, f14⟩ | ⟨rfl, rfl, f15, f16, f17, f18⟩ | ⟨rfl, rfl, f19, f20, f21, f22, f23⟩ | ⟨rfl, rfl, f24, f25, f26, f27, f28⟩) K8
  · refine go_ireturn hret hlk rfl (by simp) (D d14_36) (by decide) (by decide) ⟨_, rfl, (Or.inl ⟨rfl, rfl, f9⟩)⟩ (Keep.refl h0 [])
  · refine go_ireturn hret hlk rfl (by simp) (D d14_36) (by decide) (by decide) ⟨_, rfl, (Or.inr (Or.inl ⟨rfl, rfl, f10, f11⟩))⟩ (Keep.refl h0 [])
  · refine go_ireturn hret hlk rfl (by simp) (D d14_36) (by decide) (by decide) ⟨_, rfl, (Or.inr (Or.inr (Or.inl ⟨rfl, rfl, f12, f13, f14⟩)))⟩ (Keep.refl h0 [])
  · refine go_ireturn hret hlk rfl (by simp) (D d14_36) (by decide) (by decide) ⟨_, rfl, (Or.inr (Or.inr (Or.inr (Or.inl ⟨rfl, rfl, f15, f16, f17, f18⟩))))⟩ (Keep.refl h0 [])
  · refine go_ireturn hret hlk rfl (by simp) (D d14_36) (by decide) (by decide) ⟨_, rfl, (Or.inr (Or.inr (Or.inr (Or.inr (Or.inl ⟨rfl, rfl, f19, f20, f21, f22, f23⟩)))))⟩ (Keep.refl h0 [])
  · refine go_ireturn hret hlk rfl (by simp) (D d14_36) (by decide) (by decide) ⟨_, rfl, (Or.inr (Or.inr (Or.inr (Or.inr (Or.inr (⟨rfl, rfl, f24, f25, f26, f27, f28⟩))))))⟩ (Keep.refl h0 [])
theorem c_idxs5 (l : Launch) {Z : State} {a0 : Array Value} (G : GH Z a0) (a : Addr) (c0 : Int32) (c1 : Int32) (c2 : Int32) (c3 : Int32) (c4 : Int32) (h0 : Heap) (O0 : Old Z Z.heap.size h0) (p1 : Str Z h0 a [c0, c1, c2, c3, c4]) : Con false [] l Z (⟨"java/lang/String", "indexOf", "(II)I"⟩ : MethodName) jdk_42_method_80_code 3 (some .int) [] (rm4 2 0 0 32) #[(.ref a), (.int 46), (.int 0)] h0 [] (rvl (Q_idxs5 Z a c0 c1 c2 c3 c4 h0)) := by
  refine con_of (a0 := a0) (plainFor_of_name pn1) (fun q => rfl) EW.nil O0 (fun m => ef_idxs5 m a) ?_
  intro p_ e_ s_ m_ below_ meth_ c_ D hml hret hlk hnm
  refine go_aload_n 1 (D d13_0) rfl rfl rfl ?_
  obtain ⟨t1, k2, E3, F4, F5, A6, B7, L8⟩ := id p1
  refine callV0 (cells' := 0) (slots' := 0) (Wd := 0) (argsL := []) (rest := []) (pay_of (a0 := a0) (c_islatin l G a h0 O0 F5) (wk G 44 rfl) (wk G 7 rfl) (by decide) (by decide)) E3 (wk G 40 rfl) (wk G 41 rfl) (wk G 43 rfl) (wk G 43 rfl) (wk G 42 rfl) (by decide) pd5 rfl rfl (by rw [hml]; rfl) (nb rfl) rfl rfl (by decide) (by decide) all0 (fun _ _ => sf0) (D d13_1) (k_v 4 rfl ?_)
  rintro _ h9 ⟨rfl, rfl⟩ K10
  refine go_ifF 7 (D d13_4) rfl (by decide) ?_
  refine go_aload_n 8 (D d13_7) rfl rfl rfl ?_
  refine go_getF 11 (wk G 24 rfl) Via.refl F4 (D d13_8) rfl ?_
  refine go_iload_n 12 (D d13_11) rfl rfl ?_
  refine go_iload_n 13 (D d13_12) rfl rfl ?_
  refine go_aload_n 14 (D d13_13) rfl rfl rfl ?_
  refine callV0 (cells' := 0) (slots' := 0) (Wd := 3) (argsL := []) (rest := [(.int 0), (.int 46), (.ref t1)]) (pay_len G O0 (n := (5 : Int32)) p1 rfl (by decide) (by decide)) E3 (wk G 46 rfl) (wk G 47 rfl) (wk G 49 rfl) (wk G 49 rfl) (wk G 48 rfl) (by decide) pd6 rfl rfl (by rw [hml]; rfl) (nb rfl) rfl rfl (by decide) (by decide) all0 (fun _ _ => sf0) (D d13_14) (k_v 17 rfl ?_)
  rintro _ _ ⟨rfl, rfl⟩ -
  refine callS0 (cells' := 0) (slots' := 0) (Wd := 0) (argsL := [(.ref t1), (.int 46), (.int 0), (.int 5)]) (rest := []) (pay_of (a0 := a0) (c_idxl5 l G t1 k2 ((c0).toInt8.toInt32) ((c1).toInt8.toInt32) ((c2).toInt8.toInt32) ((c3).toInt8.toInt32) ((c4).toInt8.toInt32) h0 O0 A6) (wk G 59 rfl) (wk G 58 rfl) (by decide) (by decide)) (wk G 56 rfl) (wk G 57 rfl) (wk G 58 rfl) (wk G 59 rfl) (by decide) pd9 rfl rfl (by rw [hml]; rfl) (nb rfl) rfl rfl (by decide) (by decide) all0 (fun _ _ => sf0) (D d13_17) (k_v 20 rfl ?_)
  rintro _ h11 (⟨rfl, rfl, f13⟩ | ⟨rfl, rfl, f14, f15⟩ | ⟨rfl, rfl, f16, f17, f18⟩ | ⟨rfl, rfl, f19, f20, f21, f22⟩ | ⟨rfl, rfl, f23, f24, f25, f26, f27⟩ | ⟨rfl, rfl, f28, f29, f30, f31, f32⟩) K12
  · refine go_goto 36 (D d13_20) (by decide) rfl ?_
    refine go_ireturn hret hlk rfl (by simp) (D d13_36) (by decide) (by decide) ⟨_, rfl, (Or.inl ⟨rfl, rfl, ((b46 (by obtain ⟨_, _, _, _, _, _, q, _⟩ := id p1; exact q _ (by simp) : C8 c0)).mp f13)⟩)⟩ (Keep.refl h0 [])
  · refine go_goto 36 (D d13_20) (by decide) rfl ?_
    refine go_ireturn hret hlk rfl (by simp) (D d13_36) (by decide) (by decide) ⟨_, rfl, (Or.inr (Or.inl ⟨rfl, rfl, (fun z => f14 ((b46 (by obtain ⟨_, _, _, _, _, _, q, _⟩ := id p1; exact q _ (by simp) : C8 c0)).mpr z)), ((b46 (by obtain ⟨_, _, _, _, _, _, q, _⟩ := id p1; exact q _ (by simp) : C8 c1)).mp f15)⟩))⟩ (Keep.refl h0 [])
  · refine go_goto 36 (D d13_20) (by decide) rfl ?_
    refine go_ireturn hret hlk rfl (by simp) (D d13_36) (by decide) (by decide) ⟨_, rfl, (Or.inr (Or.inr (Or.inl ⟨rfl, rfl, (fun z => f16 ((b46 (by obtain ⟨_, _, _, _, _, _, q, _⟩ := id p1; exact q _ (by simp) : C8 c0)).mpr z)), (fun z => f17 ((b46 (by obtain ⟨_, _, _, _, _, _, q, _⟩ := id p1; exact q _ (by simp) : C8 c1)).mpr z)), ((b46 (by obtain ⟨_, _, _, _, _, _, q, _⟩ := id p1; exact q _ (by simp) : C8 c2)).mp f18)⟩)))⟩ (Keep.refl h0 [])
  · refine go_goto 36 (D d13_20) (by decide) rfl ?_
    refine go_ireturn hret hlk rfl (by simp) (D d13_36) (by decide) (by decide) ⟨_, rfl, (Or.inr (Or.inr (Or.inr (Or.inl ⟨rfl, rfl, (fun z => f19 ((b46 (by obtain ⟨_, _, _, _, _, _, q, _⟩ := id p1; exact q _ (by simp) : C8 c0)).mpr z)), (fun z => f20 ((b46 (by obtain ⟨_, _, _, _, _, _, q, _⟩ := id p1; exact q _ (by simp) : C8 c1)).mpr z)), (fun z => f21 ((b46 (by obtain ⟨_, _, _, _, _, _, q, _⟩ := id p1; exact q _ (by simp) : C8 c2)).mpr z)), ((b46 (by obtain ⟨_, _, _, _, _, _, q, _⟩ := id p1; exact q _ (by simp) : C8 c3)).mp f22)⟩))))⟩ (Keep.refl h0 [])
  · refine go_goto 36 (D d13_20) (by decide) rfl ?_
    refine go_ireturn hret hlk rfl (by simp) (D d13_36) (by decide) (by decide) ⟨_, rfl, (Or.inr (Or.inr (Or.inr (Or.inr (Or.inl ⟨rfl, rfl, (fun z => f23 ((b46 (by obtain ⟨_, _, _, _, _, _, q, _⟩ := id p1; exact q _ (by simp) : C8 c0)).mpr z)), (fun z => f24 ((b46 (by obtain ⟨_, _, _, _, _, _, q, _⟩ := id p1; exact q _ (by simp) : C8 c1)).mpr z)), (fun z => f25 ((b46 (by obtain ⟨_, _, _, _, _, _, q, _⟩ := id p1; exact q _ (by simp) : C8 c2)).mpr z)), (fun z => f26 ((b46 (by obtain ⟨_, _, _, _, _, _, q, _⟩ := id p1; exact q _ (by simp) : C8 c3)).mpr z)), ((b46 (by obtain ⟨_, _, _, _, _, _, q, _⟩ := id p1; exact q _ (by simp) : C8 c4)).mp f27)⟩)))))⟩ (Keep.refl h0 [])
  · refine go_goto 36 (D d13_20) (by decide) rfl ?_
    refine go_ireturn hret hlk rfl (by simp) (D d13_36) (by decide) (by decide) ⟨_, rfl, (Or.inr (Or.inr (Or.inr (Or.inr (Or.inr (⟨rfl, rfl, (fun z => f28 ((b46 (by obtain ⟨_, _, _, _, _, _, q, _⟩ := id p1; exact q _ (by simp) : C8 c0)).mpr z)), (fun z => f29 ((b46 (by obtain ⟨_, _, _, _, _, _, q, _⟩ := id p1; exact q _ (by simp) : C8 c1)).mpr z)), (fun z => f30 ((b46 (by obtain ⟨_, _, _, _, _, _, q, _⟩ := id p1; exact q _ (by simp) : C8 c2)).mpr z)), (fun z => f31 ((b46 (by obtain ⟨_, _, _, _, _, _, q, _⟩ := id p1; exact q _ (by simp) : C8 c3)).mpr z)), (fun z => f32 ((b46 (by obtain ⟨_, _, _, _, _, _, q, _⟩ := id p1; exact q _ (by simp) : C8 c4)).mpr z))⟩))))))⟩ (Keep.refl h0 [])
theorem c_idx5 (l : Launch) {Z : State} {a0 : Array Value} (G : GH Z a0) (a : Addr) (c0 : Int32) (c1 : Int32) (c2 : Int32) (c3 : Int32) (c4 : Int32) (h0 : Heap) (O0 : Old Z Z.heap.size h0) (p1 : Str Z h0 a [c0, c1, c2, c3, c4]) : Con false [] l Z (⟨"java/lang/String", "indexOf", "(I)I"⟩ : MethodName) jdk_42_method_79_code 2 (some .int) [] (rm4 3 0 0 46) #[(.ref a), (.int 46)] h0 [] (rvl (Q_idx5 Z a c0 c1 c2 c3 c4 h0)) := by
  refine con_of (a0 := a0) (plainFor_of_name pn1) (fun q => rfl) EW.nil O0 (fun m => ef_idx5 m a) ?_
  intro p_ e_ s_ m_ below_ meth_ c_ D hml hret hlk hnm
  refine go_aload_n 1 (D d12_0) rfl rfl rfl ?_
  refine go_iload_n 2 (D d12_1) rfl rfl ?_
  refine go_iconst 3 (v := 0) (D d12_2) rfl rfl ?_
  refine callV0 (cells' := 0) (slots' := 0) (Wd := 0) (argsL := [(.int 46), (.int 0)]) (rest := []) (pay_of (a0 := a0) (c_idxs5 l G a c0 c1 c2 c3 c4 h0 O0 p1) (wk G 39 rfl) (wk G 7 rfl) (by decide) (by decide)) p1.exa (wk G 35 rfl) (wk G 36 rfl) (wk G 38 rfl) (wk G 38 rfl) (wk G 37 rfl) (by decide) pd8 rfl rfl (by rw [hml]; rfl) (nb rfl) rfl rfl (by decide) (by decide) all0 (fun _ _ => sf0) (D d12_3) (k_v 6 rfl ?_)
  rintro _ h1 (⟨rfl, rfl, f3⟩ | ⟨rfl, rfl, f4, f5⟩ | ⟨rfl, rfl, f6, f7, f8⟩ | ⟨rfl, rfl, f9, f10, f11, f12⟩ | ⟨rfl, rfl, f13, f14, f15, f16, f17⟩ | ⟨rfl, rfl, f18, f19, f20, f21, f22⟩) K2
  · refine go_ireturn hret hlk rfl (by simp) (D d12_6) (by decide) (by decide) ⟨_, rfl, (Or.inl ⟨rfl, rfl, f3⟩)⟩ (Keep.refl h0 [])
  · refine go_ireturn hret hlk rfl (by simp) (D d12_6) (by decide) (by decide) ⟨_, rfl, (Or.inr (Or.inl ⟨rfl, rfl, f4, f5⟩))⟩ (Keep.refl h0 [])
  · refine go_ireturn hret hlk rfl (by simp) (D d12_6) (by decide) (by decide) ⟨_, rfl, (Or.inr (Or.inr (Or.inl ⟨rfl, rfl, f6, f7, f8⟩)))⟩ (Keep.refl h0 [])
  · refine go_ireturn hret hlk rfl (by simp) (D d12_6) (by decide) (by decide) ⟨_, rfl, (Or.inr (Or.inr (Or.inr (Or.inl ⟨rfl, rfl, f9, f10, f11, f12⟩))))⟩ (Keep.refl h0 [])
  · refine go_ireturn hret hlk rfl (by simp) (D d12_6) (by decide) (by decide) ⟨_, rfl, (Or.inr (Or.inr (Or.inr (Or.inr (Or.inl ⟨rfl, rfl, f13, f14, f15, f16, f17⟩)))))⟩ (Keep.refl h0 [])
  · refine go_ireturn hret hlk rfl (by simp) (D d12_6) (by decide) (by decide) ⟨_, rfl, (Or.inr (Or.inr (Or.inr (Or.inr (Or.inr (⟨rfl, rfl, f18, f19, f20, f21, f22⟩))))))⟩ (Keep.refl h0 [])
theorem ef_subi1_5 (m : MethodId) (a : Addr)  : entryFrame m #[(.ref a), (.int 1)] 2 = mkF m 0 #[.val (.ref a), .val (.int 1)] [] := by first | (simp [entryFrame, mkF, argsToLocals, Value.category]; done) | rfl
def Q_subi1_5 (Z : State) (a : Addr) (c0 : Int32) (c1 : Int32) (c2 : Int32) (c3 : Int32) (c4 : Int32) (h0 : Heap) (xv : Value) (h : Heap) : Prop := ∃ (r : Addr), (.ref r) = xv ∧ Str Z h r [c1, c2, c3, c4]
theorem ef_sub1_5_5 (m : MethodId) (a : Addr)  : entryFrame m #[(.ref a), (.int 1), (.int 5)] 5 = mkF m 0 #[.val (.ref a), .val (.int 1), .val (.int 5), .unset, .unset] [] := by first | (simp [entryFrame, mkF, argsToLocals, Value.category]; done) | rfl
def Q_sub1_5_5 (Z : State) (a : Addr) (c0 : Int32) (c1 : Int32) (c2 : Int32) (c3 : Int32) (c4 : Int32) (h0 : Heap) (xv : Value) (h : Heap) : Prop := ∃ (r : Addr), (.ref r) = xv ∧ Str Z h r [c1, c2, c3, c4]
theorem ef_news1_4_5 (m : MethodId) (t : Addr)  : entryFrame m #[(.ref t), (.int 1), (.int 4)] 3 = mkF m 0 #[.val (.ref t), .val (.int 1), .val (.int 4)] [] := by first | (simp [entryFrame, mkF, argsToLocals, Value.category]; done) | rfl
def Q_news1_4_5 (Z : State) (t : Addr) (k : ClassId) (c0 : Int32) (c1 : Int32) (c2 : Int32) (c3 : Int32) (c4 : Int32) (h0 : Heap) (xv : Value) (h : Heap) : Prop := ∃ (r : Addr), (.ref r) = xv ∧ Str Z h r [c1, c2, c3, c4]
theorem ef_cor1_5_5 (m : MethodId) (t : Addr)  : entryFrame m #[(.ref t), (.int 1), (.int 5)] 3 = mkF m 0 #[.val (.ref t), .val (.int 1), .val (.int 5)] [] := by first | (simp [entryFrame, mkF, argsToLocals, Value.category]; done) | rfl
def Q_cor1_5_5 (Z : State) (t : Addr) (k : ClassId) (b0 : Int32) (b1 : Int32) (b2 : Int32) (b3 : Int32) (b4 : Int32) (h0 : Heap) (xv : Value) (h : Heap) : Prop := ∃ (r : Addr) (k2 : ClassId), (.ref r) = xv ∧ h0.size ≤ r ∧ Arv Z h r k2 (.byte) (4 : Int32) [(.int b1), (.int b2), (.int b3), (.int b4)] (.int 0)
theorem ef_corb1_5_5 (m : MethodId) (t : Addr)  : entryFrame m #[(.ref t), (.int 1), (.int 5)] 5 = mkF m 0 #[.val (.ref t), .val (.int 1), .val (.int 5), .unset, .unset] [] := by first | (simp [entryFrame, mkF, argsToLocals, Value.category]; done) | rfl
def Q_corb1_5_5 (Z : State) (t : Addr) (k : ClassId) (b0 : Int32) (b1 : Int32) (b2 : Int32) (b3 : Int32) (b4 : Int32) (h0 : Heap) (xv : Value) (h : Heap) : Prop := ∃ (r : Addr) (k2 : ClassId), (.ref r) = xv ∧ h0.size ≤ r ∧ Arv Z h r k2 (.byte) (4 : Int32) [(.int b1), (.int b2), (.int b3), (.int b4)] (.int 0)
theorem c_corb1_5_5 (l : Launch) {Z : State} {a0 : Array Value} (G : GH Z a0) (t : Addr) (k : ClassId) (b0 : Int32) (b1 : Int32) (b2 : Int32) (b3 : Int32) (b4 : Int32) (h0 : Heap) (O0 : Old Z Z.heap.size h0) (p1 : Arv Z h0 t k (.byte) (5 : Int32) [(.int b0), (.int b1), (.int b2), (.int b3), (.int b4)] (.int 0)) : Con false [] l Z (⟨"java/util/Arrays", "copyOfRangeByte", "([BII)[B"⟩ : MethodName) jdk_65_method_133_code 5 (some (.array .byte)) [] (rm4 1 1 4 18) #[(.ref t), (.int 1), (.int 5)] h0 [] (rvl (Q_corb1_5_5 Z t k b0 b1 b2 b3 b4 h0)) := by
  refine con_of (a0 := a0) (plainFor_of_name pn4) (fun q => rfl) EW.nil O0 (fun m => ef_corb1_5_5 m t) ?_
  intro p_ e_ s_ m_ below_ meth_ c_ D hml hret hlk hnm
  refine go_iload_n 1 (D d22_0) rfl rfl ?_
  refine go_iload_n 2 (D d22_1) rfl rfl ?_
  refine callS0 (cells' := 0) (slots' := 0) (Wd := 0) (argsL := [(.int 1), (.int 5)]) (rest := []) (pay_of (a0 := a0) (c_chkl l G (1 : Int32) (5 : Int32) h0 O0 (by decide)) (wk G 123 rfl) (wk G 116 rfl) (by decide) (by decide)) (wk G 121 rfl) (wk G 122 rfl) (wk G 116 rfl) (wk G 123 rfl) (by decide) pd17 rfl rfl (by rw [hml]; rfl) (nb rfl) rfl rfl (by decide) (by decide) all0 (fun _ _ => sf0) (D d22_2) (k_n 5 rfl ?_)
  rintro  h1 rfl K2
  refine go_iload_n 6 (D d22_5) rfl rfl ?_
  refine go_iload_n 7 (D d22_6) rfl rfl ?_
  refine go_isub 8 (z := (4 : Int32)) (D d22_7) rfl (by decide) ?_
  refine go_istore_n 9 (ls' := #[vr t, vi 1, vi 5, vi 4, un]) (D d22_8) rfl rfl ?_
  refine go_iload_n 10 (D d22_9) rfl rfl ?_
  refine go_newP 12 (cells' := 1) (slots' := 4) (cap := 4) (vs := [(.int 0), (.int 0), (.int 0), (.int 0)]) (ty := .byte) (dv := .int 0) (wk G 19 rfl) rfl rfl (D d22_10) rfl (by decide) rfl (by decide) rfl rfl rfl (by decide) (by decide) (fun h3 a4 k8 g5 X6 A7 => ?_)
  refine go_astore 14 (ls' := #[vr t, vi 1, vi 5, vi 4, vr a4]) (D d22_12) rfl rfl rfl ?_
  refine go_aload_n 15 (D d22_14) rfl rfl rfl ?_
  refine go_iload_n 16 (D d22_15) rfl rfl ?_
  refine go_aload 18 (D d22_16) rfl rfl rfl ?_
  refine go_iconst 19 (v := 0) (D d22_18) rfl rfl ?_
  refine go_aload_n 20 (D d22_19) rfl rfl rfl ?_
  have K9 : Keep h0 h3 [] := ((Keep.refl h0 []).ext X6)
  have A10 := (p1.keep K9 nin0)
  refine go_arraylength 21 A10 (D d22_20) rfl ?_
  refine go_iload_n 22 (D d22_21) rfl rfl ?_
  refine go_isub 23 (z := (4 : Int32)) (D d22_22) rfl (by decide) ?_
  refine go_iload_n 24 (D d22_23) rfl rfl ?_
  refine go_old (fun O11 => ?_)
  refine callS0 (cells' := 1) (slots' := 4) (Wd := 4) (argsL := [(.int 4), (.int 4)]) (rest := [(.int 0), (.ref a4), (.int 1), (.ref t)]) (pay_of (a0 := a0) (c_min4_4 l G  h3 O11 ) (wk G 69 rfl) (wk G 65 rfl) (by decide) (by decide)) (wk G 124 rfl) (wk G 68 rfl) (wk G 65 rfl) (wk G 69 rfl) (by decide) pd8 rfl rfl (by rw [hml]; rfl) (nb rfl) rfl rfl (by decide) (by decide) all0 (fun _ _ => sf0) (D d22_24) (k_v 27 rfl ?_)
  rintro _ h12 ⟨rfl, rfl⟩ K13
  refine go_acopy 30 (Wd := 0) (vd' := [(.int b1), (.int b2), (.int b3), (.int b4)]) (wk G 125 rfl) (wk G 128 rfl) (wk G 126 rfl) (wk G 127 rfl) rfl A10 A7 rfl (by decide) (by decide) (by decide) (nb rfl) (nb rfl) (nb rfl) (Nat.le_trans O0.2.1 (Nat.le_of_eq g5)) rfl (by rw [hml]; rfl) (by decide) (by decide) (by decide) (D d22_27) rfl (fun h14 K15 A16 => ?_)
  refine go_aload 32 (D d22_30) rfl rfl rfl ?_
  have K17 : Keep h0 h14 [] := (K9.trans K15 (allS (Or.inr (Nat.le_of_eq g5)) all0))
  refine go_areturn hret hlk rfl rfl (D d22_32) (by decide) (by decide) ⟨_, rfl, ⟨a4, k8, rfl, (Nat.le_of_eq g5), A16⟩⟩ K17
theorem c_cor1_5_5 (l : Launch) {Z : State} {a0 : Array Value} (G : GH Z a0) (t : Addr) (k : ClassId) (b0 : Int32) (b1 : Int32) (b2 : Int32) (b3 : Int32) (b4 : Int32) (h0 : Heap) (O0 : Old Z Z.heap.size h0) (p1 : Arv Z h0 t k (.byte) (5 : Int32) [(.int b0), (.int b1), (.int b2), (.int b3), (.int b4)] (.int 0)) : Con false [] l Z (⟨"java/util/Arrays", "copyOfRange", "([BII)[B"⟩ : MethodName) jdk_65_method_132_code 3 (some (.array .byte)) [] (rm4 2 1 4 34) #[(.ref t), (.int 1), (.int 5)] h0 [] (rvl (Q_cor1_5_5 Z t k b0 b1 b2 b3 b4 h0)) := by
  refine con_of (a0 := a0) (plainFor_of_name pn4) (fun q => rfl) EW.nil O0 (fun m => ef_cor1_5_5 m t) ?_
  intro p_ e_ s_ m_ below_ meth_ c_ D hml hret hlk hnm
  refine go_iload_n 1 (D d21_0) rfl rfl ?_
  refine go_ifT 10 (D d21_1) (by decide) rfl (by decide) ?_
  refine go_aload_n 11 (D d21_10) rfl rfl rfl ?_
  refine go_iload_n 12 (D d21_11) rfl rfl ?_
  refine go_iload_n 13 (D d21_12) rfl rfl ?_
  refine callS0 (cells' := 1) (slots' := 4) (Wd := 0) (argsL := [(.ref t), (.int 1), (.int 5)]) (rest := []) (pay_of (a0 := a0) (c_corb1_5_5 l G t k b0 b1 b2 b3 b4 h0 O0 p1) (wk G 120 rfl) (wk G 116 rfl) (by decide) (by decide)) (wk G 118 rfl) (wk G 119 rfl) (wk G 116 rfl) (wk G 120 rfl) (by decide) pd18 rfl rfl (by rw [hml]; rfl) (nb rfl) rfl rfl (by decide) (by decide) all0 (fun _ _ => sf0) (D d21_13) (k_v 16 rfl ?_)
  rintro _ h1 ⟨r3, r4, rfl, f5, f6⟩ K2
  have K7 : Keep h0 h1 [] := ((Keep.refl h0 []).trans K2 all0)
  refine go_areturn hret hlk rfl rfl (D d21_16) (by decide) (by decide) ⟨_, rfl, ⟨r3, r4, rfl, f5, f6⟩⟩ K7
theorem c_news1_4_5 (l : Launch) {Z : State} {a0 : Array Value} (G : GH Z a0) (t : Addr) (k : ClassId) (c0 : Int32) (c1 : Int32) (c2 : Int32) (c3 : Int32) (c4 : Int32) (h0 : Heap) (O0 : Old Z Z.heap.size h0) (p1 : Arv Z h0 t k (.byte) (5 : Int32) [(.int (c0).toInt8.toInt32), (.int (c1).toInt8.toInt32), (.int (c2).toInt8.toInt32), (.int (c3).toInt8.toInt32), (.int (c4).toInt8.toInt32)] (.int 0)) (p2 : C8 c0) (p3 : C8 c1) (p4 : C8 c2) (p5 : C8 c3) (p6 : C8 c4) : Con false [] l Z (⟨"java/lang/StringLatin1", "newString", "([BII)Ljava/lang/String;"⟩ : MethodName) jdk_43_method_47_code 3 (some (.object "java/lang/String")) [] (rm4 3 2 8 50) #[(.ref t), (.int 1), (.int 4)] h0 [] (rvl (Q_news1_4_5 Z t k c0 c1 c2 c3 c4 h0)) := by
  refine con_of (a0 := a0) (plainFor_of_name pn2) (fun q => rfl) EW.nil O0 (fun m => ef_news1_4_5 m t) ?_
  intro p_ e_ s_ m_ below_ meth_ c_ D hml hret hlk hnm
  refine go_iload_n 1 (D d20_0) rfl rfl ?_
  refine go_ifT 7 (D d20_1) (by decide) rfl (by decide) ?_
  refine go_newO 10 (cells' := 1) (slots' := 4) (wk G 113 rfl) (wk G 6 rfl) (wk G 7 rfl) (D d20_7) rfl rfl rfl (by decide) (by decide) (fun h1 a2 g3 X4 E5 D6 U7 => ?_)
  refine go_dup 11 (D d20_10) rfl rfl ?_
  refine go_aload_n 12 (D d20_11) rfl rfl rfl ?_
  refine go_iload_n 13 (D d20_12) rfl rfl ?_
  refine go_iload_n 14 (D d20_13) rfl rfl ?_
  refine go_iload_n 15 (D d20_14) rfl rfl ?_
  refine go_iadd 16 (z := (5 : Int32)) (D d20_15) rfl (by decide) ?_
  have K8 : Keep h0 h1 [] := ((Keep.refl h0 []).ext X4)
  have A9 := (p1.keep K8 nin0)
  refine go_old (fun O10 => ?_)
  refine callS0 (cells' := 2) (slots' := 8) (Wd := 2) (argsL := [(.ref t), (.int 1), (.int 5)]) (rest := [(.ref a2), (.ref a2)]) (pay_of (a0 := a0) (c_cor1_5_5 l G t k ((c0).toInt8.toInt32) ((c1).toInt8.toInt32) ((c2).toInt8.toInt32) ((c3).toInt8.toInt32) ((c4).toInt8.toInt32) h1 O10 A9) (wk G 117 rfl) (wk G 116 rfl) (by decide) (by decide)) (wk G 114 rfl) (wk G 115 rfl) (wk G 116 rfl) (wk G 117 rfl) (by decide) pd18 rfl rfl (by rw [hml]; rfl) (nb rfl) rfl rfl (by decide) (by decide) all0 (fun _ _ => sf0) (D d20_16) (k_v 19 rfl ?_)
  rintro _ h11 ⟨r13, r14, rfl, f15, f16⟩ K12
  refine go_iconst 20 (v := 0) (D d20_19) rfl rfl ?_
  have K17 : Keep h1 h11 [] := ((Keep.refl h1 []).trans K12 all0)
  have E18 := (E5.keep K17)
  have F19 := D6 (Or.inr (wk G 20 rfl)) (ty := (.array .byte)) (by decide)
  have F20 := (F19.keep K17 nin0)
  have F21 := D6 (Or.inr (wk G 21 rfl)) (ty := .byte) (by decide)
  have F22 := (F21.keep K17 nin0)
  refine go_old (fun O23 => ?_)
  refine callI0 (cells' := 2) (slots' := 8) (Wd := 1) (argsL := [(.ref r13), (.int 0)]) (rest := [(.ref a2)]) (pay_of (a0 := a0) (c_strbb l G a2 r13 h11 O23 E18 (Nat.le_trans O0.2.1 (Nat.le_of_eq g3)) F20 F22) (wk G 131 rfl) (wk G 7 rfl) (by decide) (by decide)) rfl (wk G 129 rfl) (wk G 130 rfl) (wk G 131 rfl) (by decide) pd19 rfl rfl (by rw [hml]; rfl) (nb rfl) rfl rfl (by decide) (by decide) (allS (Nat.le_trans O0.2.1 (Nat.le_of_eq g3)) all0) (fun _ hal => (sfS safe_nil sf0)) (D d20_20) (k_n 23 rfl ?_)
  rintro  h24 ⟨f26, f27⟩ K25
  have K28 : Keep h0 h11 [] := (K8.trans K12 all0)
  have K29 : Keep h0 h24 [] := (K28.trans K25 (allS (Or.inr (Nat.le_of_eq g3)) all0))
  have E30 := (E18.keep K25)
  have A31 := (f16.keep K25 (ninS (Nat.ne_of_gt (Nat.lt_of_lt_of_le E5.lt f15)) nin0))
  have S32 : Str Z h24 a2 [c1, c2, c3, c4] := ⟨r13, r14, E30, f26, f27, A31, (c8c p3 (c8c p4 (c8c p5 (c8c p6 c8n)))), Nat.le_of_ble_eq_true rfl⟩
  refine go_areturn hret hlk rfl rfl (D d20_23) (by decide) (by decide) ⟨_, rfl, ⟨a2, rfl, S32⟩⟩ K29
theorem c_sub1_5_5 (l : Launch) {Z : State} {a0 : Array Value} (G : GH Z a0) (a : Addr) (c0 : Int32) (c1 : Int32) (c2 : Int32) (c3 : Int32) (c4 : Int32) (h0 : Heap) (O0 : Old Z Z.heap.size h0) (p1 : Str Z h0 a [c0, c1, c2, c3, c4]) : Con false [] l Z (⟨"java/lang/String", "substring", "(II)Ljava/lang/String;"⟩ : MethodName) jdk_42_method_92_code 5 (some (.object "java/lang/String")) [] (rm4 4 2 8 64) #[(.ref a), (.int 1), (.int 5)] h0 [] (rvl (Q_sub1_5_5 Z a c0 c1 c2 c3 c4 h0)) := by
  refine con_of (a0 := a0) (plainFor_of_name pn1) (fun q => rfl) EW.nil O0 (fun m => ef_sub1_5_5 m a) ?_
  intro p_ e_ s_ m_ below_ meth_ c_ D hml hret hlk hnm
  have q1 : C8 c0 := by obtain ⟨_, _, _, _, _, _, q, _⟩ := id p1; exact q _ (by simp)
  have q2 : C8 c1 := by obtain ⟨_, _, _, _, _, _, q, _⟩ := id p1; exact q _ (by simp)
  have q3 : C8 c2 := by obtain ⟨_, _, _, _, _, _, q, _⟩ := id p1; exact q _ (by simp)
  have q4 : C8 c3 := by obtain ⟨_, _, _, _, _, _, q, _⟩ := id p1; exact q _ (by simp)
  have q5 : C8 c4 := by obtain ⟨_, _, _, _, _, _, q, _⟩ := id p1; exact q _ (by simp)
  refine go_aload_n 1 (D d18_0) rfl rfl rfl ?_
  refine callV0 (cells' := 0) (slots' := 0) (Wd := 0) (argsL := []) (rest := []) (pay_len G O0 (n := (5 : Int32)) p1 rfl (by decide) (by decide)) p1.exa (wk G 46 rfl) (wk G 47 rfl) (wk G 49 rfl) (wk G 49 rfl) (wk G 48 rfl) (by decide) pd6 rfl rfl (by rw [hml]; rfl) (nb rfl) rfl rfl (by decide) (by decide) all0 (fun _ _ => sf0) (D d18_1) (k_v 4 rfl ?_)
  rintro _ _ ⟨rfl, rfl⟩ -
  refine go_istore_n 5 (ls' := #[vr a, vi 1, vi 5, vi 5, un]) (D d18_4) rfl rfl ?_
  refine go_iload_n 6 (D d18_5) rfl rfl ?_
  refine go_iload_n 7 (D d18_6) rfl rfl ?_
  refine go_iload_n 8 (D d18_7) rfl rfl ?_
  refine callS0 (cells' := 0) (slots' := 0) (Wd := 0) (argsL := [(.int 1), (.int 5), (.int 5)]) (rest := []) (pay_of (a0 := a0) (c_cbbe l G (1 : Int32) (5 : Int32) (5 : Int32) h0 O0 (by decide) (by decide) (by decide)) (wk G 82 rfl) (wk G 7 rfl) (by decide) (by decide)) (wk G 80 rfl) (wk G 81 rfl) (wk G 7 rfl) (wk G 82 rfl) (by decide) pd11 rfl rfl (by rw [hml]; rfl) (nb rfl) rfl rfl (by decide) (by decide) all0 (fun _ _ => sf0) (D d18_8) (k_n 11 rfl ?_)
  rintro  h6 rfl K7
  refine go_iload_n 12 (D d18_11) rfl rfl ?_
  refine go_ifT 22 (D d18_12) (by decide) rfl (by decide) ?_
  refine go_iload_n 23 (D d18_22) rfl rfl ?_
  refine go_iload_n 24 (D d18_23) rfl rfl ?_
  refine go_isub 25 (z := (4 : Int32)) (D d18_24) rfl (by decide) ?_
  refine go_istore 27 (ls' := #[vr a, vi 1, vi 5, vi 5, vi 4]) (D d18_25) rfl rfl ?_
  refine go_aload_n 28 (D d18_27) rfl rfl rfl ?_
  obtain ⟨t8, k9, E10, F11, F12, A13, B14, L15⟩ := id p1
  refine callV0 (cells' := 0) (slots' := 0) (Wd := 0) (argsL := []) (rest := []) (pay_of (a0 := a0) (c_islatin l G a h0 O0 F12) (wk G 44 rfl) (wk G 7 rfl) (by decide) (by decide)) E10 (wk G 40 rfl) (wk G 41 rfl) (wk G 43 rfl) (wk G 43 rfl) (wk G 42 rfl) (by decide) pd5 rfl rfl (by rw [hml]; rfl) (nb rfl) rfl rfl (by decide) (by decide) all0 (fun _ _ => sf0) (D d18_28) (k_v 31 rfl ?_)
  rintro _ h16 ⟨rfl, rfl⟩ K17
  refine go_ifF 34 (D d18_31) rfl (by decide) ?_
  refine go_aload_n 35 (D d18_34) rfl rfl rfl ?_
  refine go_getF 38 (wk G 24 rfl) Via.refl F11 (D d18_35) rfl ?_
  refine go_iload_n 39 (D d18_38) rfl rfl ?_
  refine go_iload 41 (D d18_39) rfl rfl ?_
  refine callS0 (cells' := 2) (slots' := 8) (Wd := 0) (argsL := [(.ref t8), (.int 1), (.int 4)]) (rest := []) (pay_of (a0 := a0) (c_news1_4_5 l G t8 k9 c0 c1 c2 c3 c4 h0 O0 A13 q1 q2 q3 q4 q5) (wk G 112 rfl) (wk G 58 rfl) (by decide) (by decide)) (wk G 110 rfl) (wk G 111 rfl) (wk G 58 rfl) (wk G 112 rfl) (by decide) pd16 rfl rfl (by rw [hml]; rfl) (nb rfl) rfl rfl (by decide) (by decide) all0 (fun _ _ => sf0) (D d18_41) (k_v 44 rfl ?_)
  rintro _ h18 ⟨r20, rfl, f21⟩ K19
  refine go_goto 57 (D d18_44) (by decide) rfl ?_
  have K22 : Keep h0 h18 [] := ((Keep.refl h0 []).trans K19 all0)
  refine go_areturn hret hlk rfl rfl (D d18_57) (by decide) (by decide) ⟨_, rfl, ⟨r20, rfl, f21⟩⟩ K22
theorem c_subi1_5 (l : Launch) {Z : State} {a0 : Array Value} (G : GH Z a0) (a : Addr) (c0 : Int32) (c1 : Int32) (c2 : Int32) (c3 : Int32) (c4 : Int32) (h0 : Heap) (O0 : Old Z Z.heap.size h0) (p1 : Str Z h0 a [c0, c1, c2, c3, c4]) : Con false [] l Z (⟨"java/lang/String", "substring", "(I)Ljava/lang/String;"⟩ : MethodName) jdk_42_method_91_code 2 (some (.object "java/lang/String")) [] (rm4 5 2 8 80) #[(.ref a), (.int 1)] h0 [] (rvl (Q_subi1_5 Z a c0 c1 c2 c3 c4 h0)) := by
  refine con_of (a0 := a0) (plainFor_of_name pn1) (fun q => rfl) EW.nil O0 (fun m => ef_subi1_5 m a) ?_
  intro p_ e_ s_ m_ below_ meth_ c_ D hml hret hlk hnm
  have q1 : C8 c0 := by obtain ⟨_, _, _, _, _, _, q, _⟩ := id p1; exact q _ (by simp)
  have q2 : C8 c1 := by obtain ⟨_, _, _, _, _, _, q, _⟩ := id p1; exact q _ (by simp)
  have q3 : C8 c2 := by obtain ⟨_, _, _, _, _, _, q, _⟩ := id p1; exact q _ (by simp)
  have q4 : C8 c3 := by obtain ⟨_, _, _, _, _, _, q, _⟩ := id p1; exact q _ (by simp)
  have q5 : C8 c4 := by obtain ⟨_, _, _, _, _, _, q, _⟩ := id p1; exact q _ (by simp)
  refine go_aload_n 1 (D d17_0) rfl rfl rfl ?_
  refine go_iload_n 2 (D d17_1) rfl rfl ?_
  refine go_aload_n 3 (D d17_2) rfl rfl rfl ?_
  refine callV0 (cells' := 0) (slots' := 0) (Wd := 2) (argsL := []) (rest := [(.int 1), (.ref a)]) (pay_len G O0 (n := (5 : Int32)) p1 rfl (by decide) (by decide)) p1.exa (wk G 46 rfl) (wk G 47 rfl) (wk G 49 rfl) (wk G 49 rfl) (wk G 48 rfl) (by decide) pd6 rfl rfl (by rw [hml]; rfl) (nb rfl) rfl rfl (by decide) (by decide) all0 (fun _ _ => sf0) (D d17_3) (k_v 6 rfl ?_)
  rintro _ _ ⟨rfl, rfl⟩ -
  refine callV0 (cells' := 2) (slots' := 8) (Wd := 0) (argsL := [(.int 1), (.int 5)]) (rest := []) (pay_of (a0 := a0) (c_sub1_5_5 l G a c0 c1 c2 c3 c4 h0 O0 p1) (wk G 79 rfl) (wk G 7 rfl) (by decide) (by decide)) p1.exa (wk G 75 rfl) (wk G 76 rfl) (wk G 78 rfl) (wk G 78 rfl) (wk G 77 rfl) (by decide) pd12 rfl rfl (by rw [hml]; rfl) (nb rfl) rfl rfl (by decide) (by decide) all0 (fun _ _ => sf0) (D d17_6) (k_v 9 rfl ?_)
  rintro _ h6 ⟨r8, rfl, f9⟩ K7
  have K10 : Keep h0 h6 [] := ((Keep.refl h0 []).trans K7 all0)
  refine go_areturn hret hlk rfl rfl (D d17_9) (by decide) (by decide) ⟨_, rfl, ⟨r8, rfl, f9⟩⟩ K10
theorem ef_subi2_5 (m : MethodId) (a : Addr)  : entryFrame m #[(.ref a), (.int 2)] 2 = mkF m 0 #[.val (.ref a), .val (.int 2)] [] := by first | (simp [entryFrame, mkF, argsToLocals, Value.category]; done) | rfl
def Q_subi2_5 (Z : State) (a : Addr) (c0 : Int32) (c1 : Int32) (c2 : Int32) (c3 : Int32) (c4 : Int32) (h0 : Heap) (xv : Value) (h : Heap) : Prop := ∃ (r : Addr), (.ref r) = xv ∧ Str Z h r [c2, c3, c4]
theorem ef_sub2_5_5 (m : MethodId) (a : Addr)  : entryFrame m #[(.ref a), (.int 2), (.int 5)] 5 = mkF m 0 #[.val (.ref a), .val (.int 2), .val (.int 5), .unset, .unset] [] := by first | (simp [entryFrame, mkF, argsToLocals, Value.category]; done) | rfl
def Q_sub2_5_5 (Z : State) (a : Addr) (c0 : Int32) (c1 : Int32) (c2 : Int32) (c3 : Int32) (c4 : Int32) (h0 : Heap) (xv : Value) (h : Heap) : Prop := ∃ (r : Addr), (.ref r) = xv ∧ Str Z h r [c2, c3, c4]
theorem ef_news2_3_5 (m : MethodId) (t : Addr)  : entryFrame m #[(.ref t), (.int 2), (.int 3)] 3 = mkF m 0 #[.val (.ref t), .val (.int 2), .val (.int 3)] [] := by first | (simp [entryFrame, mkF, argsToLocals, Value.category]; done) | rfl
def Q_news2_3_5 (Z : State) (t : Addr) (k : ClassId) (c0 : Int32) (c1 : Int32) (c2 : Int32) (c3 : Int32) (c4 : Int32) (h0 : Heap) (xv : Value) (h : Heap) : Prop := ∃ (r : Addr), (.ref r) = xv ∧ Str Z h r [c2, c3, c4]
theorem ef_cor2_5_5 (m : MethodId) (t : Addr)  : entryFrame m #[(.ref t), (.int 2), (.int 5)] 3 = mkF m 0 #[.val (.ref t), .val (.int 2), .val (.int 5)] [] := by first | (simp [entryFrame, mkF, argsToLocals, Value.category]; done) | rfl
def Q_cor2_5_5 (Z : State) (t : Addr) (k : ClassId) (b0 : Int32) (b1 : Int32) (b2 : Int32) (b3 : Int32) (b4 : Int32) (h0 : Heap) (xv : Value) (h : Heap) : Prop := ∃ (r : Addr) (k2 : ClassId), (.ref r) = xv ∧ h0.size ≤ r ∧ Arv Z h r k2 (.byte) (3 : Int32) [(.int b2), (.int b3), (.int b4)] (.int 0)
theorem ef_corb2_5_5 (m : MethodId) (t : Addr)  : entryFrame m #[(.ref t), (.int 2), (.int 5)] 5 = mkF m 0 #[.val (.ref t), .val (.int 2), .val (.int 5), .unset, .unset] [] := by first | (simp [entryFrame, mkF, argsToLocals, Value.category]; done) | rfl
def Q_corb2_5_5 (Z : State) (t : Addr) (k : ClassId) (b0 : Int32) (b1 : Int32) (b2 : Int32) (b3 : Int32) (b4 : Int32) (h0 : Heap) (xv : Value) (h : Heap) : Prop := ∃ (r : Addr) (k2 : ClassId), (.ref r) = xv ∧ h0.size ≤ r ∧ Arv Z h r k2 (.byte) (3 : Int32) [(.int b2), (.int b3), (.int b4)] (.int 0)
theorem c_corb2_5_5 (l : Launch) {Z : State} {a0 : Array Value} (G : GH Z a0) (t : Addr) (k : ClassId) (b0 : Int32) (b1 : Int32) (b2 : Int32) (b3 : Int32) (b4 : Int32) (h0 : Heap) (O0 : Old Z Z.heap.size h0) (p1 : Arv Z h0 t k (.byte) (5 : Int32) [(.int b0), (.int b1), (.int b2), (.int b3), (.int b4)] (.int 0)) : Con false [] l Z (⟨"java/util/Arrays", "copyOfRangeByte", "([BII)[B"⟩ : MethodName) jdk_65_method_133_code 5 (some (.array .byte)) [] (rm4 1 1 3 18) #[(.ref t), (.int 2), (.int 5)] h0 [] (rvl (Q_corb2_5_5 Z t k b0 b1 b2 b3 b4 h0)) := by
  refine con_of (a0 := a0) (plainFor_of_name pn4) (fun q => rfl) EW.nil O0 (fun m => ef_corb2_5_5 m t) ?_
  intro p_ e_ s_ m_ below_ meth_ c_ D hml hret hlk hnm
  refine go_iload_n 1 (D d22_0) rfl rfl ?_
  refine go_iload_n 2 (D d22_1) rfl rfl ?_
  refine callS0 (cells' := 0) (slots' := 0) (Wd := 0) (argsL := [(.int 2), (.int 5)]) (rest := []) (pay_of (a0 := a0) (c_chkl l G (2 : Int32) (5 : Int32) h0 O0 (by decide)) (wk G 123 rfl) (wk G 116 rfl) (by decide) (by decide)) (wk G 121 rfl) (wk G 122 rfl) (wk G 116 rfl) (wk G 123 rfl) (by decide) pd17 rfl rfl (by rw [hml]; rfl) (nb rfl) rfl rfl (by decide) (by decide) all0 (fun _ _ => sf0) (D d22_2) (k_n 5 rfl ?_)
  rintro  h1 rfl K2
  refine go_iload_n 6 (D d22_5) rfl rfl ?_
  refine go_iload_n 7 (D d22_6) rfl rfl ?_
  refine go_isub 8 (z := (3 : Int32)) (D d22_7) rfl (by decide) ?_
  refine go_istore_n 9 (ls' := #[vr t, vi 2, vi 5, vi 3, un]) (D d22_8) rfl rfl ?_
  refine go_iload_n 10 (D d22_9) rfl rfl ?_
  refine go_newP 12 (cells' := 1) (slots' := 3) (cap := 3) (vs := [(.int 0), (.int 0), (.int 0)]) (ty := .byte) (dv := .int 0) (wk G 19 rfl) rfl rfl (D d22_10) rfl (by decide) rfl (by decide) rfl rfl rfl (by decide) (by decide) (fun h3 a4 k8 g5 X6 A7 => ?_)
  refine go_astore 14 (ls' := #[vr t, vi 2, vi 5, vi 3, vr a4]) (D d22_12) rfl rfl rfl ?_
  refine go_aload_n 15 (D d22_14) rfl rfl rfl ?_
  refine go_iload_n 16 (D d22_15) rfl rfl ?_
  refine go_aload 18 (D d22_16) rfl rfl rfl ?_
  refine go_iconst 19 (v := 0) (D d22_18) rfl rfl ?_
  refine go_aload_n 20 (D d22_19) rfl rfl rfl ?_
  have K9 : Keep h0 h3 [] := ((Keep.refl h0 []).ext X6)
  have A10 := (p1.keep K9 nin0)
  refine go_arraylength 21 A10 (D d22_20) rfl ?_
  refine go_iload_n 22 (D d22_21) rfl rfl ?_
  refine go_isub 23 (z := (3 : Int32)) (D d22_22) rfl (by decide) ?_
  refine go_iload_n 24 (D d22_23) rfl rfl ?_
  refine go_old (fun O11 => ?_)
  refine callS0 (cells' := 1) (slots' := 3) (Wd := 4) (argsL := [(.int 3), (.int 3)]) (rest := [(.int 0), (.ref a4), (.int 2), (.ref t)]) (pay_of (a0 := a0) (c_min3_3 l G  h3 O11 ) (wk G 69 rfl) (wk G 65 rfl) (by decide) (by decide)) (wk G 124 rfl) (wk G 68 rfl) (wk G 65 rfl) (wk G 69 rfl) (by decide) pd8 rfl rfl (by rw [hml]; rfl) (nb rfl) rfl rfl (by decide) (by decide) all0 (fun _ _ => sf0) (D d22_24) (k_v 27 rfl ?_)
  rintro _ h12 ⟨rfl, rfl⟩ K13
  refine go_acopy 30 (Wd := 0) (vd' := [(.int b2), (.int b3), (.int b4)]) (wk G 125 rfl) (wk G 128 rfl) (wk G 126 rfl) (wk G 127 rfl) rfl A10 A7 rfl (by decide) (by decide) (by decide) (nb rfl) (nb rfl) (nb rfl) (Nat.le_trans O0.2.1 (Nat.le_of_eq g5)) rfl (by rw [hml]; rfl) (by decide) (by decide) (by decide) (D d22_27) rfl (fun h14 K15 A16 => ?_)
  refine go_aload 32 (D d22_30) rfl rfl rfl ?_
  have K17 : Keep h0 h14 [] := (K9.trans K15 (allS (Or.inr (Nat.le_of_eq g5)) all0))
  refine go_areturn hret hlk rfl rfl (D d22_32) (by decide) (by decide) ⟨_, rfl, ⟨a4, k8, rfl, (Nat.le_of_eq g5), A16⟩⟩ K17
theorem c_cor2_5_5 (l : Launch) {Z : State} {a0 : Array Value} (G : GH Z a0) (t : Addr) (k : ClassId) (b0 : Int32) (b1 : Int32) (b2 : Int32) (b3 : Int32) (b4 : Int32) (h0 : Heap) (O0 : Old Z Z.heap.size h0) (p1 : Arv Z h0 t k (.byte) (5 : Int32) [(.int b0), (.int b1), (.int b2), (.int b3), (.int b4)] (.int 0)) : Con false [] l Z (⟨"java/util/Arrays", "copyOfRange", "([BII)[B"⟩ : MethodName) jdk_65_method_132_code 3 (some (.array .byte)) [] (rm4 2 1 3 34) #[(.ref t), (.int 2), (.int 5)] h0 [] (rvl (Q_cor2_5_5 Z t k b0 b1 b2 b3 b4 h0)) := by
  refine con_of (a0 := a0) (plainFor_of_name pn4) (fun q => rfl) EW.nil O0 (fun m => ef_cor2_5_5 m t) ?_
  intro p_ e_ s_ m_ below_ meth_ c_ D hml hret hlk hnm
  refine go_iload_n 1 (D d21_0) rfl rfl ?_
  refine go_ifT 10 (D d21_1) (by decide) rfl (by decide) ?_
  refine go_aload_n 11 (D d21_10) rfl rfl rfl ?_
  refine go_iload_n 12 (D d21_11) rfl rfl ?_
  refine go_iload_n 13 (D d21_12) rfl rfl ?_
  refine callS0 (cells' := 1) (slots' := 3) (Wd := 0) (argsL := [(.ref t), (.int 2), (.int 5)]) (rest := []) (pay_of (a0 := a0) (c_corb2_5_5 l G t k b0 b1 b2 b3 b4 h0 O0 p1) (wk G 120 rfl) (wk G 116 rfl) (by decide) (by decide)) (wk G 118 rfl) (wk G 119 rfl) (wk G 116 rfl) (wk G 120 rfl) (by decide) pd18 rfl rfl (by rw [hml]; rfl) (nb rfl) rfl rfl (by decide) (by decide) all0 (fun _ _ => sf0) (D d21_13) (k_v 16 rfl ?_)
  rintro _ h1 ⟨r3, r4, rfl, f5, f6⟩ K2
  have K7 : Keep h0 h1 [] := ((Keep.refl h0 []).trans K2 all0)
  refine go_areturn hret hlk rfl rfl (D d21_16) (by decide) (by decide) ⟨_, rfl, ⟨r3, r4, rfl, f5, f6⟩⟩ K7
theorem c_news2_3_5 (l : Launch) {Z : State} {a0 : Array Value} (G : GH Z a0) (t : Addr) (k : ClassId) (c0 : Int32) (c1 : Int32) (c2 : Int32) (c3 : Int32) (c4 : Int32) (h0 : Heap) (O0 : Old Z Z.heap.size h0) (p1 : Arv Z h0 t k (.byte) (5 : Int32) [(.int (c0).toInt8.toInt32), (.int (c1).toInt8.toInt32), (.int (c2).toInt8.toInt32), (.int (c3).toInt8.toInt32), (.int (c4).toInt8.toInt32)] (.int 0)) (p2 : C8 c0) (p3 : C8 c1) (p4 : C8 c2) (p5 : C8 c3) (p6 : C8 c4) : Con false [] l Z (⟨"java/lang/StringLatin1", "newString", "([BII)Ljava/lang/String;"⟩ : MethodName) jdk_43_method_47_code 3 (some (.object "java/lang/String")) [] (rm4 3 2 7 50) #[(.ref t), (.int 2), (.int 3)] h0 [] (rvl (Q_news2_3_5 Z t k c0 c1 c2 c3 c4 h0)) := by
  refine con_of (a0 := a0) (plainFor_of_name pn2) (fun q => rfl) EW.nil O0 (fun m => ef_news2_3_5 m t) ?_
  intro p_ e_ s_ m_ below_ meth_ c_ D hml hret hlk hnm
  refine go_iload_n 1 (D d20_0) rfl rfl ?_
  refine go_ifT 7 (D d20_1) (by decide) rfl (by decide) ?_
  refine go_newO 10 (cells' := 1) (slots' := 4) (wk G 113 rfl) (wk G 6 rfl) (wk G 7 rfl) (D d20_7) rfl rfl rfl (by decide) (by decide) (fun h1 a2 g3 X4 E5 D6 U7 => ?_)
  refine go_dup 11 (D d20_10) rfl rfl ?_
  refine go_aload_n 12 (D d20_11) rfl rfl rfl ?_
  refine go_iload_n 13 (D d20_12) rfl rfl ?_
  refine go_iload_n 14 (D d20_13) rfl rfl ?_
  refine go_iload_n 15 (D d20_14) rfl rfl ?_
  refine go_iadd 16 (z := (5 : Int32)) (D d20_15) rfl (by decide) ?_
  have K8 : Keep h0 h1 [] := ((Keep.refl h0 []).ext X4)
  have A9 := (p1.keep K8 nin0)
  refine go_old (fun O10 => ?_)
  refine callS0 (cells' := 2) (slots' := 7) (Wd := 2) (argsL := [(.ref t), (.int 2), (.int 5)]) (rest := [(.ref a2), (.ref a2)]) (pay_of (a0 := a0) (c_cor2_5_5 l G t k ((c0).toInt8.toInt32) ((c1).toInt8.toInt32) ((c2).toInt8.toInt32) ((c3).toInt8.toInt32) ((c4).toInt8.toInt32) h1 O10 A9) (wk G 117 rfl) (wk G 116 rfl) (by decide) (by decide)) (wk G 114 rfl) (wk G 115 rfl) (wk G 116 rfl) (wk G 117 rfl) (by decide) pd18 rfl rfl (by rw [hml]; rfl) (nb rfl) rfl rfl (by decide) (by decide) all0 (fun _ _ => sf0) (D d20_16) (k_v 19 rfl ?_)
  rintro _ h11 ⟨r13, r14, rfl, f15, f16⟩ K12
  refine go_iconst 20 (v := 0) (D d20_19) rfl rfl ?_
  have K17 : Keep h1 h11 [] := ((Keep.refl h1 []).trans K12 all0)
  have E18 := (E5.keep K17)
  have F19 := D6 (Or.inr (wk G 20 rfl)) (ty := (.array .byte)) (by decide)
  have F20 := (F19.keep K17 nin0)
  have F21 := D6 (Or.inr (wk G 21 rfl)) (ty := .byte) (by decide)
  have F22 := (F21.keep K17 nin0)
  refine go_old (fun O23 => ?_)
  refine callI0 (cells' := 2) (slots' := 7) (Wd := 1) (argsL := [(.ref r13), (.int 0)]) (rest := [(.ref a2)]) (pay_of (a0 := a0) (c_strbb l G a2 r13 h11 O23 E18 (Nat.le_trans O0.2.1 (Nat.le_of_eq g3)) F20 F22) (wk G 131 rfl) (wk G 7 rfl) (by decide) (by decide)) rfl (wk G 129 rfl) (wk G 130 rfl) (wk G 131 rfl) (by decide) pd19 rfl rfl (by rw [hml]; rfl) (nb rfl) rfl rfl (by decide) (by decide) (allS (Nat.le_trans O0.2.1 (Nat.le_of_eq g3)) all0) (fun _ hal => (sfS safe_nil sf0)) (D d20_20) (k_n 23 rfl ?_)
  rintro  h24 ⟨f26, f27⟩ K25
  have K28 : Keep h0 h11 [] := (K8.trans K12 all0)
  have K29 : Keep h0 h24 [] := (K28.trans K25 (allS (Or.inr (Nat.le_of_eq g3)) all0))
  have E30 := (E18.keep K25)
  have A31 := (f16.keep K25 (ninS (Nat.ne_of_gt (Nat.lt_of_lt_of_le E5.lt f15)) nin0))
  have S32 : Str Z h24 a2 [c2, c3, c4] := ⟨r13, r14, E30, f26, f27, A31, (c8c p4 (c8c p5 (c8c p6 c8n))), Nat.le_of_ble_eq_true rfl⟩
  refine go_areturn hret hlk rfl rfl (D d20_23) (by decide) (by decide) ⟨_, rfl, ⟨a2, rfl, S32⟩⟩ K29
theorem c_sub2_5_5 (l : Launch) {Z : State} {a0 : Array Value} (G : GH Z a0) (a : Addr) (c0 : Int32) (c1 : Int32) (c2 : Int32) (c3 : Int32) (c4 : Int32) (h0 : Heap) (O0 : Old Z Z.heap.size h0) (p1 : Str Z h0 a [c0, c1, c2, c3, c4]) : Con false [] l Z (⟨"java/lang/String", "substring", "(II)Ljava/lang/String;"⟩ : MethodName) jdk_42_method_92_code 5 (some (.object "java/lang/String")) [] (rm4 4 2 7 64) #[(.ref a), (.int 2), (.int 5)] h0 [] (rvl (Q_sub2_5_5 Z a c0 c1 c2 c3 c4 h0)) := by
  refine con_of (a0 := a0) (plainFor_of_name pn1) (fun q => rfl) EW.nil O0 (fun m => ef_sub2_5_5 m a) ?_
  intro p_ e_ s_ m_ below_ meth_ c_ D hml hret hlk hnm
  have q1 : C8 c0 := by obtain ⟨_, _, _, _, _, _, q, _⟩ := id p1; exact q _ (by simp)
  have q2 : C8 c1 := by obtain ⟨_, _, _, _, _, _, q, _⟩ := id p1; exact q _ (by simp)
  have q3 : C8 c2 := by obtain ⟨_, _, _, _, _, _, q, _⟩ := id p1; exact q _ (by simp)
  have q4 : C8 c3 := by obtain ⟨_, _, _, _, _, _, q, _⟩ := id p1; exact q _ (by simp)
  have q5 : C8 c4 := by obtain ⟨_, _, _, _, _, _, q, _⟩ := id p1; exact q _ (by simp)
  refine go_aload_n 1 (D d18_0) rfl rfl rfl ?_
  refine callV0 (cells' := 0) (slots' := 0) (Wd := 0) (argsL := []) (rest := []) (pay_len G O0 (n := (5 : Int32)) p1 rfl (by decide) (by decide)) p1.exa (wk G 46 rfl) (wk G 47 rfl) (wk G 49 rfl) (wk G 49 rfl) (wk G 48 rfl) (by decide) pd6 rfl rfl (by rw [hml]; rfl) (nb rfl) rfl rfl (by decide) (by decide) all0 (fun _ _ => sf0) (D d18_1) (k_v 4 rfl ?_)
  rintro _ _ ⟨rfl, rfl⟩ -
  refine go_istore_n 5 (ls' := #[vr a, vi 2, vi 5, vi 5, un]) (D d18_4) rfl rfl ?_
  refine go_iload_n 6 (D d18_5) rfl rfl ?_
  refine go_iload_n 7 (D d18_6) rfl rfl ?_
  refine go_iload_n 8 (D d18_7) rfl rfl ?_
  refine callS0 (cells' := 0) (slots' := 0) (Wd := 0) (argsL := [(.int 2), (.int 5), (.int 5)]) (rest := []) (pay_of (a0 := a0) (c_cbbe l G (2 : Int32) (5 : Int32) (5 : Int32) h0 O0 (by decide) (by decide) (by decide)) (wk G 82 rfl) (wk G 7 rfl) (by decide) (by decide)) (wk G 80 rfl) (wk G 81 rfl) (wk G 7 rfl) (wk G 82 rfl) (by decide) pd11 rfl rfl (by rw [hml]; rfl) (nb rfl) rfl rfl (by decide) (by decide) all0 (fun _ _ => sf0) (D d18_8) (k_n 11 rfl ?_)
  rintro  h6 rfl K7
  refine go_iload_n 12 (D d18_11) rfl rfl ?_
  refine go_ifT 22 (D d18_12) (by decide) rfl (by decide) ?_
  refine go_iload_n 23 (D d18_22) rfl rfl ?_
  refine go_iload_n 24 (D d18_23) rfl rfl ?_
  refine go_isub 25 (z := (3 : Int32)) (D d18_24) rfl (by decide) ?_
  refine go_istore 27 (ls' := #[vr a, vi 2, vi 5, vi 5, vi 3]) (D d18_25) rfl rfl ?_
  refine go_aload_n 28 (D d18_27) rfl rfl rfl ?_
  obtain ⟨t8, k9, E10, F11, F12, A13, B14, L15⟩ := id p1
  refine callV0 (cells' := 0) (slots' := 0) (Wd := 0) (argsL := []) (rest := []) (pay_of (a0 := a0) (c_islatin l G a h0 O0 F12) (wk G 44 rfl) (wk G 7 rfl) (by decide) (by decide)) E10 (wk G 40 rfl) (wk G 41 rfl) (wk G 43 rfl) (wk G 43 rfl) (wk G 42 rfl) (by decide) pd5 rfl rfl (by rw [hml]; rfl) (nb rfl) rfl rfl (by decide) (by decide) all0 (fun _ _ => sf0) (D d18_28) (k_v 31 rfl ?_)
  rintro _ h16 ⟨rfl, rfl⟩ K17
  refine go_ifF 34 (D d18_31) rfl (by decide) ?_
  refine go_aload_n 35 (D d18_34) rfl rfl rfl ?_
  refine go_getF 38 (wk G 24 rfl) Via.refl F11 (D d18_35) rfl ?_
  refine go_iload_n 39 (D d18_38) rfl rfl ?_
  refine go_iload 41 (D d18_39) rfl rfl ?_
  refine callS0 (cells' := 2) (slots' := 7) (Wd := 0) (argsL := [(.ref t8), (.int 2), (.int 3)]) (rest := []) (pay_of (a0 := a0) (c_news2_3_5 l G t8 k9 c0 c1 c2 c3 c4 h0 O0 A13 q1 q2 q3 q4 q5) (wk G 112 rfl) (wk G 58 rfl) (by decide) (by decide)) (wk G 110 rfl) (wk G 111 rfl) (wk G 58 rfl) (wk G 112 rfl) (by decide) pd16 rfl rfl (by rw [hml]; rfl) (nb rfl) rfl rfl (by decide) (by decide) all0 (fun _ _ => sf0) (D d18_41) (k_v 44 rfl ?_)
  rintro _ h18 ⟨r20, rfl, f21⟩ K19
  refine go_goto 57 (D d18_44) (by decide) rfl ?_
  have K22 : Keep h0 h18 [] := ((Keep.refl h0 []).trans K19 all0)
  refine go_areturn hret hlk rfl rfl (D d18_57) (by decide) (by decide) ⟨_, rfl, ⟨r20, rfl, f21⟩⟩ K22
theorem c_subi2_5 (l : Launch) {Z : State} {a0 : Array Value} (G : GH Z a0) (a : Addr) (c0 : Int32) (c1 : Int32) (c2 : Int32) (c3 : Int32) (c4 : Int32) (h0 : Heap) (O0 : Old Z Z.heap.size h0) (p1 : Str Z h0 a [c0, c1, c2, c3, c4]) : Con false [] l Z (⟨"java/lang/String", "substring", "(I)Ljava/lang/String;"⟩ : MethodName) jdk_42_method_91_code 2 (some (.object "java/lang/String")) [] (rm4 5 2 7 80) #[(.ref a), (.int 2)] h0 [] (rvl (Q_subi2_5 Z a c0 c1 c2 c3 c4 h0)) := by
  refine con_of (a0 := a0) (plainFor_of_name pn1) (fun q => rfl) EW.nil O0 (fun m => ef_subi2_5 m a) ?_
  intro p_ e_ s_ m_ below_ meth_ c_ D hml hret hlk hnm
  have q1 : C8 c0 := by obtain ⟨_, _, _, _, _, _, q, _⟩ := id p1; exact q _ (by simp)
  have q2 : C8 c1 := by obtain ⟨_, _, _, _, _, _, q, _⟩ := id p1; exact q _ (by simp)
  have q3 : C8 c2 := by obtain ⟨_, _, _, _, _, _, q, _⟩ := id p1; exact q _ (by simp)
  have q4 : C8 c3 := by obtain ⟨_, _, _, _, _, _, q, _⟩ := id p1; exact q _ (by simp)
  have q5 : C8 c4 := by obtain ⟨_, _, _, _, _, _, q, _⟩ := id p1; exact q _ (by simp)
  refine go_aload_n 1 (D d17_0) rfl rfl rfl ?_
  refine go_iload_n 2 (D d17_1) rfl rfl ?_
  refine go_aload_n 3 (D d17_2) rfl rfl rfl ?_
  refine callV0 (cells' := 0) (slots' := 0) (Wd := 2) (argsL := []) (rest := [(.int 2), (.ref a)]) (pay_len G O0 (n := (5 : Int32)) p1 rfl (by decide) (by decide)) p1.exa (wk G 46 rfl) (wk G 47 rfl) (wk G 49 rfl) (wk G 49 rfl) (wk G 48 rfl) (by decide) pd6 rfl rfl (by rw [hml]; rfl) (nb rfl) rfl rfl (by decide) (by decide) all0 (fun _ _ => sf0) (D d17_3) (k_v 6 rfl ?_)
  rintro _ _ ⟨rfl, rfl⟩ -
  refine callV0 (cells' := 2) (slots' := 7) (Wd := 0) (argsL := [(.int 2), (.int 5)]) (rest := []) (pay_of (a0 := a0) (c_sub2_5_5 l G a c0 c1 c2 c3 c4 h0 O0 p1) (wk G 79 rfl) (wk G 7 rfl) (by decide) (by decide)) p1.exa (wk G 75 rfl) (wk G 76 rfl) (wk G 78 rfl) (wk G 78 rfl) (wk G 77 rfl) (by decide) pd12 rfl rfl (by rw [hml]; rfl) (nb rfl) rfl rfl (by decide) (by decide) all0 (fun _ _ => sf0) (D d17_6) (k_v 9 rfl ?_)
  rintro _ h6 ⟨r8, rfl, f9⟩ K7
  have K10 : Keep h0 h6 [] := ((Keep.refl h0 []).trans K7 all0)
  refine go_areturn hret hlk rfl rfl (D d17_9) (by decide) (by decide) ⟨_, rfl, ⟨r8, rfl, f9⟩⟩ K10
theorem ef_subi3_5 (m : MethodId) (a : Addr)  : entryFrame m #[(.ref a), (.int 3)] 2 = mkF m 0 #[.val (.ref a), .val (.int 3)] [] := by first | (simp [entryFrame, mkF, argsToLocals, Value.category]; done) | rfl
def Q_subi3_5 (Z : State) (a : Addr) (c0 : Int32) (c1 : Int32) (c2 : Int32) (c3 : Int32) (c4 : Int32) (h0 : Heap) (xv : Value) (h : Heap) : Prop := ∃ (r : Addr), (.ref r) = xv ∧ Str Z h r [c3, c4]
theorem ef_sub3_5_5 (m : MethodId) (a : Addr)  : entryFrame m #[(.ref a), (.int 3), (.int 5)] 5 = mkF m 0 #[.val (.ref a), .val (.int 3), .val (.int 5), .unset, .unset] [] := by first | (simp [entryFrame, mkF, argsToLocals, Value.category]; done) | rfl
def Q_sub3_5_5 (Z : State) (a : Addr) (c0 : Int32) (c1 : Int32) (c2 : Int32) (c3 : Int32) (c4 : Int32) (h0 : Heap) (xv : Value) (h : Heap) : Prop := ∃ (r : Addr), (.ref r) = xv ∧ Str Z h r [c3, c4]
theorem ef_news3_2_5 (m : MethodId) (t : Addr)  : entryFrame m #[(.ref t), (.int 3), (.int 2)] 3 = mkF m 0 #[.val (.ref t), .val (.int 3), .val (.int 2)] [] := by first | (simp [entryFrame, mkF, argsToLocals, Value.category]; done) | rfl
def Q_news3_2_5 (Z : State) (t : Addr) (k : ClassId) (c0 : Int32) (c1 : Int32) (c2 : Int32) (c3 : Int32) (c4 : Int32) (h0 : Heap) (xv : Value) (h : Heap) : Prop := ∃ (r : Addr), (.ref r) = xv ∧ Str Z h r [c3, c4]
theorem ef_cor3_5_5 (m : MethodId) (t : Addr)  : entryFrame m #[(.ref t), (.int 3), (.int 5)] 3 = mkF m 0 #[.val (.ref t), .val (.int 3), .val (.int 5)] [] := by first | (simp [entryFrame, mkF, argsToLocals, Value.category]; done) | rfl
def Q_cor3_5_5 (Z : State) (t : Addr) (k : ClassId) (b0 : Int32) (b1 : Int32) (b2 : Int32) (b3 : Int32) (b4 : Int32) (h0 : Heap) (xv : Value) (h : Heap) : Prop := ∃ (r : Addr) (k2 : ClassId), (.ref r) = xv ∧ h0.size ≤ r ∧ Arv Z h r k2 (.byte) (2 : Int32) [(.int b3), (.int b4)] (.int 0)
theorem ef_corb3_5_5 (m : MethodId) (t : Addr)  : entryFrame m #[(.ref t), (.int 3), (.int 5)] 5 = mkF m 0 #[.val (.ref t), .val (.int 3), .val (.int 5), .unset, .unset] [] := by first | (simp [entryFrame, mkF, argsToLocals, Value.category]; done) | rfl
def Q_corb3_5_5 (Z : State) (t : Addr) (k : ClassId) (b0 : Int32) (b1 : Int32) (b2 : Int32) (b3 : Int32) (b4 : Int32) (h0 : Heap) (xv : Value) (h : Heap) : Prop := ∃ (r : Addr) (k2 : ClassId), (.ref r) = xv ∧ h0.size ≤ r ∧ Arv Z h r k2 (.byte) (2 : Int32) [(.int b3), (.int b4)] (.int 0)
theorem c_corb3_5_5 (l : Launch) {Z : State} {a0 : Array Value} (G : GH Z a0) (t : Addr) (k : ClassId) (b0 : Int32) (b1 : Int32) (b2 : Int32) (b3 : Int32) (b4 : Int32) (h0 : Heap) (O0 : Old Z Z.heap.size h0) (p1 : Arv Z h0 t k (.byte) (5 : Int32) [(.int b0), (.int b1), (.int b2), (.int b3), (.int b4)] (.int 0)) : Con false [] l Z (⟨"java/util/Arrays", "copyOfRangeByte", "([BII)[B"⟩ : MethodName) jdk_65_method_133_code 5 (some (.array .byte)) [] (rm4 1 1 2 18) #[(.ref t), (.int 3), (.int 5)] h0 [] (rvl (Q_corb3_5_5 Z t k b0 b1 b2 b3 b4 h0)) := by
  refine con_of (a0 := a0) (plainFor_of_name pn4) (fun q => rfl) EW.nil O0 (fun m => ef_corb3_5_5 m t) ?_
  intro p_ e_ s_ m_ below_ meth_ c_ D hml hret hlk hnm
  refine go_iload_n 1 (D d22_0) rfl rfl ?_
  refine go_iload_n 2 (D d22_1) rfl rfl ?_
  refine callS0 (cells' := 0) (slots' := 0) (Wd := 0) (argsL := [(.int 3), (.int 5)]) (rest := []) (pay_of (a0 := a0) (c_chkl l G (3 : Int32) (5 : Int32) h0 O0 (by decide)) (wk G 123 rfl) (wk G 116 rfl) (by decide) (by decide)) (wk G 121 rfl) (wk G 122 rfl) (wk G 116 rfl) (wk G 123 rfl) (by decide) pd17 rfl rfl (by rw [hml]; rfl) (nb rfl) rfl rfl (by decide) (by decide) all0 (fun _ _ => sf0) (D d22_2) (k_n 5 rfl ?_)
  rintro  h1 rfl K2
  refine go_iload_n 6 (D d22_5) rfl rfl ?_
  refine go_iload_n 7 (D d22_6) rfl rfl ?_
  refine go_isub 8 (z := (2 : Int32)) (D d22_7) rfl (by decide) ?_
  refine go_istore_n 9 (ls' := #[vr t, vi 3, vi 5, vi 2, un]) (D d22_8) rfl rfl ?_
  refine go_iload_n 10 (D d22_9) rfl rfl ?_
  refine go_newP 12 (cells' := 1) (slots' := 2) (cap := 2) (vs := [(.int 0), (.int 0)]) (ty := .byte) (dv := .int 0) (wk G 19 rfl) rfl rfl (D d22_10) rfl (by decide) rfl (by decide) rfl rfl rfl (by decide) (by decide) (fun h3 a4 k8 g5 X6 A7 => ?_)
  refine go_astore 14 (ls' := #[vr t, vi 3, vi 5, vi 2, vr a4]) (D d22_12) rfl rfl rfl ?_
  refine go_aload_n 15 (D d22_14) rfl rfl rfl ?_
  refine go_iload_n 16 (D d22_15) rfl rfl ?_
  refine go_aload 18 (D d22_16) rfl rfl rfl ?_
  refine go_iconst 19 (v := 0) (D d22_18) rfl rfl ?_
  refine go_aload_n 20 (D d22_19) rfl rfl rfl ?_
  have K9 : Keep h0 h3 [] := ((Keep.refl h0 []).ext X6)
  have A10 := (p1.keep K9 nin0)
  refine go_arraylength 21 A10 (D d22_20) rfl ?_
  refine go_iload_n 22 (D d22_21) rfl rfl ?_
  refine go_isub 23 (z := (2 : Int32)) (D d22_22) rfl (by decide) ?_
  refine go_iload_n 24 (D d22_23) rfl rfl ?_
  refine go_old (fun O11 => ?_)
  refine callS0 (cells' := 1) (slots' := 2) (Wd := 4) (argsL := [(.int 2), (.int 2)]) (rest := [(.int 0), (.ref a4), (.int 3), (.ref t)]) (pay_of (a0 := a0) (c_min2_2 l G  h3 O11 ) (wk G 69 rfl) (wk G 65 rfl) (by decide) (by decide)) (wk G 124 rfl) (wk G 68 rfl) (wk G 65 rfl) (wk G 69 rfl) (by decide) pd8 rfl rfl (by rw [hml]; rfl) (nb rfl) rfl rfl (by decide) (by decide) all0 (fun _ _ => sf0) (D d22_24) (k_v 27 rfl ?_)
  rintro _ h12 ⟨rfl, rfl⟩ K13
  refine go_acopy 30 (Wd := 0) (vd' := [(.int b3), (.int b4)]) (wk G 125 rfl) (wk G 128 rfl) (wk G 126 rfl) (wk G 127 rfl) rfl A10 A7 rfl (by decide) (by decide) (by decide) (nb rfl) (nb rfl) (nb rfl) (Nat.le_trans O0.2.1 (Nat.le_of_eq g5)) rfl (by rw [hml]; rfl) (by decide) (by decide) (by decide) (D d22_27) rfl (fun h14 K15 A16 => ?_)
  refine go_aload 32 (D d22_30) rfl rfl rfl ?_
  have K17 : Keep h0 h14 [] := (K9.trans K15 (allS (Or.inr (Nat.le_of_eq g5)) all0))
  refine go_areturn hret hlk rfl rfl (D d22_32) (by decide) (by decide) ⟨_, rfl, ⟨a4, k8, rfl, (Nat.le_of_eq g5), A16⟩⟩ K17
theorem c_cor3_5_5 (l : Launch) {Z : State} {a0 : Array Value} (G : GH Z a0) (t : Addr) (k : ClassId) (b0 : Int32) (b1 : Int32) (b2 : Int32) (b3 : Int32) (b4 : Int32) (h0 : Heap) (O0 : Old Z Z.heap.size h0) (p1 : Arv Z h0 t k (.byte) (5 : Int32) [(.int b0), (.int b1), (.int b2), (.int b3), (.int b4)] (.int 0)) : Con false [] l Z (⟨"java/util/Arrays", "copyOfRange", "([BII)[B"⟩ : MethodName) jdk_65_method_132_code 3 (some (.array .byte)) [] (rm4 2 1 2 34) #[(.ref t), (.int 3), (.int 5)] h0 [] (rvl (Q_cor3_5_5 Z t k b0 b1 b2 b3 b4 h0)) := by
  refine con_of (a0 := a0) (plainFor_of_name pn4) (fun q => rfl) EW.nil O0 (fun m => ef_cor3_5_5 m t) ?_
  intro p_ e_ s_ m_ below_ meth_ c_ D hml hret hlk hnm
  refine go_iload_n 1 (D d21_0) rfl rfl ?_
  refine go_ifT 10 (D d21_1) (by decide) rfl (by decide) ?_
  refine go_aload_n 11 (D d21_10) rfl rfl rfl ?_
  refine go_iload_n 12 (D d21_11) rfl rfl ?_
  refine go_iload_n 13 (D d21_12) rfl rfl ?_
  refine callS0 (cells' := 1) (slots' := 2) (Wd := 0) (argsL := [(.ref t), (.int 3), (.int 5)]) (rest := []) (pay_of (a0 := a0) (c_corb3_5_5 l G t k b0 b1 b2 b3 b4 h0 O0 p1) (wk G 120 rfl) (wk G 116 rfl) (by decide) (by decide)) (wk G 118 rfl) (wk G 119 rfl) (wk G 116 rfl) (wk G 120 rfl) (by decide) pd18 rfl rfl (by rw [hml]; rfl) (nb rfl) rfl rfl (by decide) (by decide) all0 (fun _ _ => sf0) (D d21_13) (k_v 16 rfl ?_)
  rintro _ h1 ⟨r3, r4, rfl, f5, f6⟩ K2
  have K7 : Keep h0 h1 [] := ((Keep.refl h0 []).trans K2 all0)
  refine go_areturn hret hlk rfl rfl (D d21_16) (by decide) (by decide) ⟨_, rfl, ⟨r3, r4, rfl, f5, f6⟩⟩ K7
theorem c_news3_2_5 (l : Launch) {Z : State} {a0 : Array Value} (G : GH Z a0) (t : Addr) (k : ClassId) (c0 : Int32) (c1 : Int32) (c2 : Int32) (c3 : Int32) (c4 : Int32) (h0 : Heap) (O0 : Old Z Z.heap.size h0) (p1 : Arv Z h0 t k (.byte) (5 : Int32) [(.int (c0).toInt8.toInt32), (.int (c1).toInt8.toInt32), (.int (c2).toInt8.toInt32), (.int (c3).toInt8.toInt32), (.int (c4).toInt8.toInt32)] (.int 0)) (p2 : C8 c0) (p3 : C8 c1) (p4 : C8 c2) (p5 : C8 c3) (p6 : C8 c4) : Con false [] l Z (⟨"java/lang/StringLatin1", "newString", "([BII)Ljava/lang/String;"⟩ : MethodName) jdk_43_method_47_code 3 (some (.object "java/lang/String")) [] (rm4 3 2 6 50) #[(.ref t), (.int 3), (.int 2)] h0 [] (rvl (Q_news3_2_5 Z t k c0 c1 c2 c3 c4 h0)) := by
  refine con_of (a0 := a0) (plainFor_of_name pn2) (fun q => rfl) EW.nil O0 (fun m => ef_news3_2_5 m t) ?_
  intro p_ e_ s_ m_ below_ meth_ c_ D hml hret hlk hnm
  refine go_iload_n 1 (D d20_0) rfl rfl ?_
  refine go_ifT 7 (D d20_1) (by decide) rfl (by decide) ?_
  refine go_newO 10 (cells' := 1) (slots' := 4) (wk G 113 rfl) (wk G 6 rfl) (wk G 7 rfl) (D d20_7) rfl rfl rfl (by decide) (by decide) (fun h1 a2 g3 X4 E5 D6 U7 => ?_)
  refine go_dup 11 (D d20_10) rfl rfl ?_
  refine go_aload_n 12 (D d20_11) rfl rfl rfl ?_
  refine go_iload_n 13 (D d20_12) rfl rfl ?_
  refine go_iload_n 14 (D d20_13) rfl rfl ?_
  refine go_iload_n 15 (D d20_14) rfl rfl ?_
  refine go_iadd 16 (z := (5 : Int32)) (D d20_15) rfl (by decide) ?_
  have K8 : Keep h0 h1 [] := ((Keep.refl h0 []).ext X4)
  have A9 := (p1.keep K8 nin0)
  refine go_old (fun O10 => ?_)
  refine callS0 (cells' := 2) (slots' := 6) (Wd := 2) (argsL := [(.ref t), (.int 3), (.int 5)]) (rest := [(.ref a2), (.ref a2)]) (pay_of (a0 := a0) (c_cor3_5_5 l G t k ((c0).toInt8.toInt32) ((c1).toInt8.toInt32) ((c2).toInt8.toInt32) ((c3).toInt8.toInt32) ((c4).toInt8.toInt32) h1 O10 A9) (wk G 117 rfl) (wk G 116 rfl) (by decide) (by decide)) (wk G 114 rfl) (wk G 115 rfl) (wk G 116 rfl) (wk G 117 rfl) (by decide) pd18 rfl rfl (by rw [hml]; rfl) (nb rfl) rfl rfl (by decide) (by decide) all0 (fun _ _ => sf0) (D d20_16) (k_v 19 rfl ?_)
  rintro _ h11 ⟨r13, r14, rfl, f15, f16⟩ K12
  refine go_iconst 20 (v := 0) (D d20_19) rfl rfl ?_
  have K17 : Keep h1 h11 [] := ((Keep.refl h1 []).trans K12 all0)
  have E18 := (E5.keep K17)
  have F19 := D6 (Or.inr (wk G 20 rfl)) (ty := (.array .byte)) (by decide)
  have F20 := (F19.keep K17 nin0)
  have F21 := D6 (Or.inr (wk G 21 rfl)) (ty := .byte) (by decide)
  have F22 := (F21.keep K17 nin0)
  refine go_old (fun O23 => ?_)
  refine callI0 (cells' := 2) (slots' := 6) (Wd := 1) (argsL := [(.ref r13), (.int 0)]) (rest := [(.ref a2)]) (pay_of (a0 := a0) (c_strbb l G a2 r13 h11 O23 E18 (Nat.le_trans O0.2.1 (Nat.le_of_eq g3)) F20 F22) (wk G 131 rfl) (wk G 7 rfl) (by decide) (by decide)) rfl (wk G 129 rfl) (wk G 130 rfl) (wk G 131 rfl) (by decide) pd19 rfl rfl (by rw [hml]; rfl) (nb rfl) rfl rfl (by decide) (by decide) (allS (Nat.le_trans O0.2.1 (Nat.le_of_eq g3)) all0) (fun _ hal => (sfS safe_nil sf0)) (D d20_20) (k_n 23 rfl ?_)
  rintro  h24 ⟨f26, f27⟩ K25
  have K28 : Keep h0 h11 [] := (K8.trans K12 all0)
  have K29 : Keep h0 h24 [] := (K28.trans K25 (allS (Or.inr (Nat.le_of_eq g3)) all0))
  have E30 := (E18.keep K25)
  have A31 := (f16.keep K25 (ninS (Nat.ne_of_gt (Nat.lt_of_lt_of_le E5.lt f15)) nin0))
  have S32 : Str Z h24 a2 [c3, c4] := ⟨r13, r14, E30, f26, f27, A31, (c8c p5 (c8c p6 c8n)), Nat.le_of_ble_eq_true rfl⟩
  refine go_areturn hret hlk rfl rfl (D d20_23) (by decide) (by decide) ⟨_, rfl, ⟨a2, rfl, S32⟩⟩ K29
theorem c_sub3_5_5 (l : Launch) {Z : State} {a0 : Array Value} (G : GH Z a0) (a : Addr) (c0 : Int32) (c1 : Int32) (c2 : Int32) (c3 : Int32) (c4 : Int32) (h0 : Heap) (O0 : Old Z Z.heap.size h0) (p1 : Str Z h0 a [c0, c1, c2, c3, c4]) : Con false [] l Z (⟨"java/lang/String", "substring", "(II)Ljava/lang/String;"⟩ : MethodName) jdk_42_method_92_code 5 (some (.object "java/lang/String")) [] (rm4 4 2 6 64) #[(.ref a), (.int 3), (.int 5)] h0 [] (rvl (Q_sub3_5_5 Z a c0 c1 c2 c3 c4 h0)) := by
  refine con_of (a0 := a0) (plainFor_of_name pn1) (fun q => rfl) EW.nil O0 (fun m => ef_sub3_5_5 m a) ?_
  intro p_ e_ s_ m_ below_ meth_ c_ D hml hret hlk hnm
  have q1 : C8 c0 := by obtain ⟨_, _, _, _, _, _, q, _⟩ := id p1; exact q _ (by simp)
  have q2 : C8 c1 := by obtain ⟨_, _, _, _, _, _, q, _⟩ := id p1; exact q _ (by simp)
  have q3 : C8 c2 := by obtain ⟨_, _, _, _, _, _, q, _⟩ := id p1; exact q _ (by simp)
  have q4 : C8 c3 := by obtain ⟨_, _, _, _, _, _, q, _⟩ := id p1; exact q _ (by simp)
  have q5 : C8 c4 := by obtain ⟨_, _, _, _, _, _, q, _⟩ := id p1; exact q _ (by simp)
  refine go_aload_n 1 (D d18_0) rfl rfl rfl ?_
  refine callV0 (cells' := 0) (slots' := 0) (Wd := 0) (argsL := []) (rest := []) (pay_len G O0 (n := (5 : Int32)) p1 rfl (by decide) (by decide)) p1.exa (wk G 46 rfl) (wk G 47 rfl) (wk G 49 rfl) (wk G 49 rfl) (wk G 48 rfl) (by decide) pd6 rfl rfl (by rw [hml]; rfl) (nb rfl) rfl rfl (by decide) (by decide) all0 (fun _ _ => sf0) (D d18_1) (k_v 4 rfl ?_)
  rintro _ _ ⟨rfl, rfl⟩ -
  refine go_istore_n 5 (ls' := #[vr a, vi 3, vi 5, vi 5, un]) (D d18_4) rfl rfl ?_
  refine go_iload_n 6 (D d18_5) rfl rfl ?_
  refine go_iload_n 7 (D d18_6) rfl rfl ?_
  refine go_iload_n 8 (D d18_7) rfl rfl ?_
  refine callS0 (cells' := 0) (slots' := 0) (Wd := 0) (argsL := [(.int 3), (.int 5), (.int 5)]) (rest := []) (pay_of (a0 := a0) (c_cbbe l G (3 : Int32) (5 : Int32) (5 : Int32) h0 O0 (by decide) (by decide) (by decide)) (wk G 82 rfl) (wk G 7 rfl) (by decide) (by decide)) (wk G 80 rfl) (wk G 81 rfl) (wk G 7 rfl) (wk G 82 rfl) (by decide) pd11 rfl rfl (by rw [hml]; rfl) (nb rfl) rfl rfl (by decide) (by decide) all0 (fun _ _ => sf0) (D d18_8) (k_n 11 rfl ?_)
  rintro  h6 rfl K7
  refine go_iload_n 12 (D d18_11) rfl rfl ?_
  refine go_ifT 22 (D d18_12) (by decide) rfl (by decide) ?_
  refine go_iload_n 23 (D d18_22) rfl rfl ?_
  refine go_iload_n 24 (D d18_23) rfl rfl ?_
  refine go_isub 25 (z := (2 : Int32)) (D d18_24) rfl (by decide) ?_
  refine go_istore 27 (ls' := #[vr a, vi 3, vi 5, vi 5, vi 2]) (D d18_25) rfl rfl ?_
  refine go_aload_n 28 (D d18_27) rfl rfl rfl ?_
  obtain ⟨t8, k9, E10, F11, F12, A13, B14, L15⟩ := id p1
  refine callV0 (cells' := 0) (slots' := 0) (Wd := 0) (argsL := []) (rest := []) (pay_of (a0 := a0) (c_islatin l G a h0 O0 F12) (wk G 44 rfl) (wk G 7 rfl) (by decide) (by decide)) E10 (wk G 40 rfl) (wk G 41 rfl) (wk G 43 rfl) (wk G 43 rfl) (wk G 42 rfl) (by decide) pd5 rfl rfl (by rw [hml]; rfl) (nb rfl) rfl rfl (by decide) (by decide) all0 (fun _ _ => sf0) (D d18_28) (k_v 31 rfl ?_)
  rintro _ h16 ⟨rfl, rfl⟩ K17
  refine go_ifF 34 (D d18_31) rfl (by decide) ?_
  refine go_aload_n 35 (D d18_34) rfl rfl rfl ?_
  refine go_getF 38 (wk G 24 rfl) Via.refl F11 (D d18_35) rfl ?_
  refine go_iload_n 39 (D d18_38) rfl rfl ?_
  refine go_iload 41 (D d18_39) rfl rfl ?_
  refine callS0 (cells' := 2) (slots' := 6) (Wd := 0) (argsL := [(.ref t8), (.int 3), (.int 2)]) (rest := []) (pay_of (a0 := a0) (c_news3_2_5 l G t8 k9 c0 c1 c2 c3 c4 h0 O0 A13 q1 q2 q3 q4 q5) (wk G 112 rfl) (wk G 58 rfl) (by decide) (by decide)) (wk G 110 rfl) (wk G 111 rfl) (wk G 58 rfl) (wk G 112 rfl) (by decide) pd16 rfl rfl (by rw [hml]; rfl) (nb rfl) rfl rfl (by decide) (by decide) all0 (fun _ _ => sf0) (D d18_41) (k_v 44 rfl ?_)
  rintro _ h18 ⟨r20, rfl, f21⟩ K19
  refine go_goto 57 (D d18_44) (by decide) rfl ?_
  have K22 : Keep h0 h18 [] := ((Keep.refl h0 []).trans K19 all0)
  refine go_areturn hret hlk rfl rfl (D d18_57) (by decide) (by decide) ⟨_, rfl, ⟨r20, rfl, f21⟩⟩ K22
theorem c_subi3_5 (l : Launch) {Z : State} {a0 : Array Value} (G : GH Z a0) (a : Addr) (c0 : Int32) (c1 : Int32) (c2 : Int32) (c3 : Int32) (c4 : Int32) (h0 : Heap) (O0 : Old Z Z.heap.size h0) (p1 : Str Z h0 a [c0, c1, c2, c3, c4]) : Con false [] l Z (⟨"java/lang/String", "substring", "(I)Ljava/lang/String;"⟩ : MethodName) jdk_42_method_91_code 2 (some (.object "java/lang/String")) [] (rm4 5 2 6 80) #[(.ref a), (.int 3)] h0 [] (rvl (Q_subi3_5 Z a c0 c1 c2 c3 c4 h0)) := by
  refine con_of (a0 := a0) (plainFor_of_name pn1) (fun q => rfl) EW.nil O0 (fun m => ef_subi3_5 m a) ?_
  intro p_ e_ s_ m_ below_ meth_ c_ D hml hret hlk hnm
  have q1 : C8 c0 := by obtain ⟨_, _, _, _, _, _, q, _⟩ := id p1; exact q _ (by simp)
  have q2 : C8 c1 := by obtain ⟨_, _, _, _, _, _, q, _⟩ := id p1; exact q _ (by simp)
  have q3 : C8 c2 := by obtain ⟨_, _, _, _, _, _, q, _⟩ := id p1; exact q _ (by simp)
  have q4 : C8 c3 := by obtain ⟨_, _, _, _, _, _, q, _⟩ := id p1; exact q _ (by simp)
  have q5 : C8 c4 := by obtain ⟨_, _, _, _, _, _, q, _⟩ := id p1; exact q _ (by simp)
  refine go_aload_n 1 (D d17_0) rfl rfl rfl ?_
  refine go_iload_n 2 (D d17_1) rfl rfl ?_
  refine go_aload_n 3 (D d17_2) rfl rfl rfl ?_
  refine callV0 (cells' := 0) (slots' := 0) (Wd := 2) (argsL := []) (rest := [(.int 3), (.ref a)]) (pay_len G O0 (n := (5 : Int32)) p1 rfl (by decide) (by decide)) p1.exa (wk G 46 rfl) (wk G 47 rfl) (wk G 49 rfl) (wk G 49 rfl) (wk G 48 rfl) (by decide) pd6 rfl rfl (by rw [hml]; rfl) (nb rfl) rfl rfl (by decide) (by decide) all0 (fun _ _ => sf0) (D d17_3) (k_v 6 rfl ?_)
  rintro _ _ ⟨rfl, rfl⟩ -
  refine callV0 (cells' := 2) (slots' := 6) (Wd := 0) (argsL := [(.int 3), (.int 5)]) (rest := []) (pay_of (a0 := a0) (c_sub3_5_5 l G a c0 c1 c2 c3 c4 h0 O0 p1) (wk G 79 rfl) (wk G 7 rfl) (by decide) (by decide)) p1.exa (wk G 75 rfl) (wk G 76 rfl) (wk G 78 rfl) (wk G 78 rfl) (wk G 77 rfl) (by decide) pd12 rfl rfl (by rw [hml]; rfl) (nb rfl) rfl rfl (by decide) (by decide) all0 (fun _ _ => sf0) (D d17_6) (k_v 9 rfl ?_)
  rintro _ h6 ⟨r8, rfl, f9⟩ K7
  have K10 : Keep h0 h6 [] := ((Keep.refl h0 []).trans K7 all0)
  refine go_areturn hret hlk rfl rfl (D d17_9) (by decide) (by decide) ⟨_, rfl, ⟨r8, rfl, f9⟩⟩ K10
theorem ef_subi4_5 (m : MethodId) (a : Addr)  : entryFrame m #[(.ref a), (.int 4)] 2 = mkF m 0 #[.val (.ref a), .val (.int 4)] [] := by first | (simp [entryFrame, mkF, argsToLocals, Value.category]; done) | rfl
def Q_subi4_5 (Z : State) (a : Addr) (c0 : Int32) (c1 : Int32) (c2 : Int32) (c3 : Int32) (c4 : Int32) (h0 : Heap) (xv : Value) (h : Heap) : Prop := ∃ (r : Addr), (.ref r) = xv ∧ Str Z h r [c4]
theorem ef_sub4_5_5 (m : MethodId) (a : Addr)  : entryFrame m #[(.ref a), (.int 4), (.int 5)] 5 = mkF m 0 #[.val (.ref a), .val (.int 4), .val (.int 5), .unset, .unset] [] := by first | (simp [entryFrame, mkF, argsToLocals, Value.category]; done) | rfl
def Q_sub4_5_5 (Z : State) (a : Addr) (c0 : Int32) (c1 : Int32) (c2 : Int32) (c3 : Int32) (c4 : Int32) (h0 : Heap) (xv : Value) (h : Heap) : Prop := ∃ (r : Addr), (.ref r) = xv ∧ Str Z h r [c4]
theorem ef_news4_1_5 (m : MethodId) (t : Addr)  : entryFrame m #[(.ref t), (.int 4), (.int 1)] 3 = mkF m 0 #[.val (.ref t), .val (.int 4), .val (.int 1)] [] := by first | (simp [entryFrame, mkF, argsToLocals, Value.category]; done) | rfl
def Q_news4_1_5 (Z : State) (t : Addr) (k : ClassId) (c0 : Int32) (c1 : Int32) (c2 : Int32) (c3 : Int32) (c4 : Int32) (h0 : Heap) (xv : Value) (h : Heap) : Prop := ∃ (r : Addr), (.ref r) = xv ∧ Str Z h r [c4]
theorem ef_cor4_5_5 (m : MethodId) (t : Addr)  : entryFrame m #[(.ref t), (.int 4), (.int 5)] 3 = mkF m 0 #[.val (.ref t), .val (.int 4), .val (.int 5)] [] := by first | (simp [entryFrame, mkF, argsToLocals, Value.category]; done) | rfl
def Q_cor4_5_5 (Z : State) (t : Addr) (k : ClassId) (b0 : Int32) (b1 : Int32) (b2 : Int32) (b3 : Int32) (b4 : Int32) (h0 : Heap) (xv : Value) (h : Heap) : Prop := ∃ (r : Addr) (k2 : ClassId), (.ref r) = xv ∧ h0.size ≤ r ∧ Arv Z h r k2 (.byte) (1 : Int32) [(.int b4)] (.int 0)
theorem ef_corb4_5_5 (m : MethodId) (t : Addr)  : entryFrame m #[(.ref t), (.int 4), (.int 5)] 5 = mkF m 0 #[.val (.ref t), .val (.int 4), .val (.int 5), .unset, .unset] [] := by first | (simp [entryFrame, mkF, argsToLocals, Value.category]; done) | rfl
def Q_corb4_5_5 (Z : State) (t : Addr) (k : ClassId) (b0 : Int32) (b1 : Int32) (b2 : Int32) (b3 : Int32) (b4 : Int32) (h0 : Heap) (xv : Value) (h : Heap) : Prop := ∃ (r : Addr) (k2 : ClassId), (.ref r) = xv ∧ h0.size ≤ r ∧ Arv Z h r k2 (.byte) (1 : Int32) [(.int b4)] (.int 0)
theorem c_corb4_5_5 (l : Launch) {Z : State} {a0 : Array Value} (G : GH Z a0) (t : Addr) (k : ClassId) (b0 : Int32) (b1 : Int32) (b2 : Int32) (b3 : Int32) (b4 : Int32) (h0 : Heap) (O0 : Old Z Z.heap.size h0) (p1 : Arv Z h0 t k (.byte) (5 : Int32) [(.int b0), (.int b1), (.int b2), (.int b3), (.int b4)] (.int 0)) : Con false [] l Z (⟨"java/util/Arrays", "copyOfRangeByte", "([BII)[B"⟩ : MethodName) jdk_65_method_133_code 5 (some (.array .byte)) [] (rm4 1 1 1 18) #[(.ref t), (.int 4), (.int 5)] h0 [] (rvl (Q_corb4_5_5 Z t k b0 b1 b2 b3 b4 h0)) := by
  refine con_of (a0 := a0) (plainFor_of_name pn4) (fun q => rfl) EW.nil O0 (fun m => ef_corb4_5_5 m t) ?_
  intro p_ e_ s_ m_ below_ meth_ c_ D hml hret hlk hnm
  refine go_iload_n 1 (D d22_0) rfl rfl ?_
  refine go_iload_n 2 (D d22_1) rfl rfl ?_
  refine callS0 (cells' := 0) (slots' := 0) (Wd := 0) (argsL := [(.int 4), (.int 5)]) (rest := []) (pay_of (a0 := a0) (c_chkl l G (4 : Int32) (5 : Int32) h0 O0 (by decide)) (wk G 123 rfl) (wk G 116 rfl) (by decide) (by decide)) (wk G 121 rfl) (wk G 122 rfl) (wk G 116 rfl) (wk G 123 rfl) (by decide) pd17 rfl rfl (by rw [hml]; rfl) (nb rfl) rfl rfl (by decide) (by decide) all0 (fun _ _ => sf0) (D d22_2) (k_n 5 rfl ?_)
  rintro  h1 rfl K2
  refine go_iload_n 6 (D d22_5) rfl rfl ?_
  refine go_iload_n 7 (D d22_6) rfl rfl ?_
  refine go_isub 8 (z := (1 : Int32)) (D d22_7) rfl (by decide) ?_
  refine go_istore_n 9 (ls' := #[vr t, vi 4, vi 5, vi 1, un]) (D d22_8) rfl rfl ?_
  refine go_iload_n 10 (D d22_9) rfl rfl ?_
  refine go_newP 12 (cells' := 1) (slots' := 1) (cap := 1) (vs := [(.int 0)]) (ty := .byte) (dv := .int 0) (wk G 19 rfl) rfl rfl (D d22_10) rfl (by decide) rfl (by decide) rfl rfl rfl (by decide) (by decide) (fun h3 a4 k8 g5 X6 A7 => ?_)
  refine go_astore 14 (ls' := #[vr t, vi 4, vi 5, vi 1, vr a4]) (D d22_12) rfl rfl rfl ?_
  refine go_aload_n 15 (D d22_14) rfl rfl rfl ?_
  refine go_iload_n 16 (D d22_15) rfl rfl ?_
  refine go_aload 18 (D d22_16) rfl rfl rfl ?_
  refine go_iconst 19 (v := 0) (D d22_18) rfl rfl ?_
  refine go_aload_n 20 (D d22_19) rfl rfl rfl ?_
  have K9 : Keep h0 h3 [] := ((Keep.refl h0 []).ext X6)
  have A10 := (p1.keep K9 nin0)
  refine go_arraylength 21 A10 (D d22_20) rfl ?_
  refine go_iload_n 22 (D d22_21) rfl rfl ?_
  refine go_isub 23 (z := (1 : Int32)) (D d22_22) rfl (by decide) ?_
  refine go_iload_n 24 (D d22_23) rfl rfl ?_
  refine go_old (fun O11 => ?_)
  refine callS0 (cells' := 1) (slots' := 1) (Wd := 4) (argsL := [(.int 1), (.int 1)]) (rest := [(.int 0), (.ref a4), (.int 4), (.ref t)]) (pay_of (a0 := a0) (c_min1_1 l G  h3 O11 ) (wk G 69 rfl) (wk G 65 rfl) (by decide) (by decide)) (wk G 124 rfl) (wk G 68 rfl) (wk G 65 rfl) (wk G 69 rfl) (by decide) pd8 rfl rfl (by rw [hml]; rfl) (nb rfl) rfl rfl (by decide) (by decide) all0 (fun _ _ => sf0) (D d22_24) (k_v 27 rfl ?_)
  rintro _ h12 ⟨rfl, rfl⟩ K13
  refine go_acopy 30 (Wd := 0) (vd' := [(.int b4)]) (wk G 125 rfl) (wk G 128 rfl) (wk G 126 rfl) (wk G 127 rfl) rfl A10 A7 rfl (by decide) (by decide) (by decide) (nb rfl) (nb rfl) (nb rfl) (Nat.le_trans O0.2.1 (Nat.le_of_eq g5)) rfl (by rw [hml]; rfl) (by decide) (by decide) (by decide) (D d22_27) rfl (fun h14 K15 A16 => ?_)
  refine go_aload 32 (D d22_30) rfl rfl rfl ?_
  have K17 : Keep h0 h14 [] := (K9.trans K15 (allS (Or.inr (Nat.le_of_eq g5)) all0))
  refine go_areturn hret hlk rfl rfl (D d22_32) (by decide) (by decide) ⟨_, rfl, ⟨a4, k8, rfl, (Nat.le_of_eq g5), A16⟩⟩ K17
theorem c_cor4_5_5 (l : Launch) {Z : State} {a0 : Array Value} (G : GH Z a0) (t : Addr) (k : ClassId) (b0 : Int32) (b1 : Int32) (b2 : Int32) (b3 : Int32) (b4 : Int32) (h0 : Heap) (O0 : Old Z Z.heap.size h0) (p1 : Arv Z h0 t k (.byte) (5 : Int32) [(.int b0), (.int b1), (.int b2), (.int b3), (.int b4)] (.int 0)) : Con false [] l Z (⟨"java/util/Arrays", "copyOfRange", "([BII)[B"⟩ : MethodName) jdk_65_method_132_code 3 (some (.array .byte)) [] (rm4 2 1 1 34) #[(.ref t), (.int 4), (.int 5)] h0 [] (rvl (Q_cor4_5_5 Z t k b0 b1 b2 b3 b4 h0)) := by
  refine con_of (a0 := a0) (plainFor_of_name pn4) (fun q => rfl) EW.nil O0 (fun m => ef_cor4_5_5 m t) ?_
  intro p_ e_ s_ m_ below_ meth_ c_ D hml hret hlk hnm
  refine go_iload_n 1 (D d21_0) rfl rfl ?_
  refine go_ifT 10 (D d21_1) (by decide) rfl (by decide) ?_
  refine go_aload_n 11 (D d21_10) rfl rfl rfl ?_
  refine go_iload_n 12 (D d21_11) rfl rfl ?_
  refine go_iload_n 13 (D d21_12) rfl rfl ?_
  refine callS0 (cells' := 1) (slots' := 1) (Wd := 0) (argsL := [(.ref t), (.int 4), (.int 5)]) (rest := []) (pay_of (a0 := a0) (c_corb4_5_5 l G t k b0 b1 b2 b3 b4 h0 O0 p1) (wk G 120 rfl) (wk G 116 rfl) (by decide) (by decide)) (wk G 118 rfl) (wk G 119 rfl) (wk G 116 rfl) (wk G 120 rfl) (by decide) pd18 rfl rfl (by rw [hml]; rfl) (nb rfl) rfl rfl (by decide) (by decide) all0 (fun _ _ => sf0) (D d21_13) (k_v 16 rfl ?_)
  rintro _ h1 ⟨r3, r4, rfl, f5, f6⟩ K2
  have K7 : Keep h0 h1 [] := ((Keep.refl h0 []).trans K2 all0)
  refine go_areturn hret hlk rfl rfl (D d21_16) (by decide) (by decide) ⟨_, rfl, ⟨r3, r4, rfl, f5, f6⟩⟩ K7
theorem c_news4_1_5 (l : Launch) {Z : State} {a0 : Array Value} (G : GH Z a0) (t : Addr) (k : ClassId) (c0 : Int32) (c1 : Int32) (c2 : Int32) (c3 : Int32) (c4 : Int32) (h0 : Heap) (O0 : Old Z Z.heap.size h0) (p1 : Arv Z h0 t k (.byte) (5 : Int32) [(.int (c0).toInt8.toInt32), (.int (c1).toInt8.toInt32), (.int (c2).toInt8.toInt32), (.int (c3).toInt8.toInt32), (.int (c4).toInt8.toInt32)] (.int 0)) (p2 : C8 c0) (p3 : C8 c1) (p4 : C8 c2) (p5 : C8 c3) (p6 : C8 c4) : Con false [] l Z (⟨"java/lang/StringLatin1", "newString", "([BII)Ljava/lang/String;"⟩ : MethodName) jdk_43_method_47_code 3 (some (.object "java/lang/String")) [] (rm4 3 2 5 50) #[(.ref t), (.int 4), (.int 1)] h0 [] (rvl (Q_news4_1_5 Z t k c0 c1 c2 c3 c4 h0)) := by
  refine con_of (a0 := a0) (plainFor_of_name pn2) (fun q => rfl) EW.nil O0 (fun m => ef_news4_1_5 m t) ?_
  intro p_ e_ s_ m_ below_ meth_ c_ D hml hret hlk hnm
  refine go_iload_n 1 (D d20_0) rfl rfl ?_
  refine go_ifT 7 (D d20_1) (by decide) rfl (by decide) ?_
  refine go_newO 10 (cells' := 1) (slots' := 4) (wk G 113 rfl) (wk G 6 rfl) (wk G 7 rfl) (D d20_7) rfl rfl rfl (by decide) (by decide) (fun h1 a2 g3 X4 E5 D6 U7 => ?_)
  refine go_dup 11 (D d20_10) rfl rfl ?_
  refine go_aload_n 12 (D d20_11) rfl rfl rfl ?_
  refine go_iload_n 13 (D d20_12) rfl rfl ?_
  refine go_iload_n 14 (D d20_13) rfl rfl ?_
  refine go_iload_n 15 (D d20_14) rfl rfl ?_
  refine go_iadd 16 (z := (5 : Int32)) (D d20_15) rfl (by decide) ?_
  have K8 : Keep h0 h1 [] := ((Keep.refl h0 []).ext X4)
  have A9 := (p1.keep K8 nin0)
  refine go_old (fun O10 => ?_)
  refine callS0 (cells' := 2) (slots' := 5) (Wd := 2) (argsL := [(.ref t), (.int 4), (.int 5)]) (rest := [(.ref a2), (.ref a2)]) (pay_of (a0 := a0) (c_cor4_5_5 l G t k ((c0).toInt8.toInt32) ((c1).toInt8.toInt32) ((c2).toInt8.toInt32) ((c3).toInt8.toInt32) ((c4).toInt8.toInt32) h1 O10 A9) (wk G 117 rfl) (wk G 116 rfl) (by decide) (by decide)) (wk G 114 rfl) (wk G 115 rfl) (wk G 116 rfl) (wk G 117 rfl) (by decide) pd18 rfl rfl (by rw [hml]; rfl) (nb rfl) rfl rfl (by decide) (by decide) all0 (fun _ _ => sf0) (D d20_16) (k_v 19 rfl ?_)
  rintro _ h11 ⟨r13, r14, rfl, f15, f16⟩ K12
  refine go_iconst 20 (v := 0) (D d20_19) rfl rfl ?_
  have K17 : Keep h1 h11 [] := ((Keep.refl h1 []).trans K12 all0)
  have E18 := (E5.keep K17)
  have F19 := D6 (Or.inr (wk G 20 rfl)) (ty := (.array .byte)) (by decide)
  have F20 := (F19.keep K17 nin0)
  have F21 := D6 (Or.inr (wk G 21 rfl)) (ty := .byte) (by decide)
  have F22 := (F21.keep K17 nin0)
  refine go_old (fun O23 => ?_)
  refine callI0 (cells' := 2) (slots' := 5) (Wd := 1) (argsL := [(.ref r13), (.int 0)]) (rest := [(.ref a2)]) (pay_of (a0 := a0) (c_strbb l G a2 r13 h11 O23 E18 (Nat.le_trans O0.2.1 (Nat.le_of_eq g3)) F20 F22) (wk G 131 rfl) (wk G 7 rfl) (by decide) (by decide)) rfl (wk G 129 rfl) (wk G 130 rfl) (wk G 131 rfl) (by decide) pd19 rfl rfl (by rw [hml]; rfl) (nb rfl) rfl rfl (by decide) (by decide) (allS (Nat.le_trans O0.2.1 (Nat.le_of_eq g3)) all0) (fun _ hal => (sfS safe_nil sf0)) (D d20_20) (k_n 23 rfl ?_)
  rintro  h24 ⟨f26, f27⟩ K25
  have K28 : Keep h0 h11 [] := (K8.trans K12 all0)
  have K29 : Keep h0 h24 [] := (K28.trans K25 (allS (Or.inr (Nat.le_of_eq g3)) all0))
  have E30 := (E18.keep K25)
  have A31 := (f16.keep K25 (ninS (Nat.ne_of_gt (Nat.lt_of_lt_of_le E5.lt f15)) nin0))
  have S32 : Str Z h24 a2 [c4] := ⟨r13, r14, E30, f26, f27, A31, (c8c p6 c8n), Nat.le_of_ble_eq_true rfl⟩
  refine go_areturn hret hlk rfl rfl (D d20_23) (by decide) (by decide) ⟨_, rfl, ⟨a2, rfl, S32⟩⟩ K29
theorem c_sub4_5_5 (l : Launch) {Z : State} {a0 : Array Value} (G : GH Z a0) (a : Addr) (c0 : Int32) (c1 : Int32) (c2 : Int32) (c3 : Int32) (c4 : Int32) (h0 : Heap) (O0 : Old Z Z.heap.size h0) (p1 : Str Z h0 a [c0, c1, c2, c3, c4]) : Con false [] l Z (⟨"java/lang/String", "substring", "(II)Ljava/lang/String;"⟩ : MethodName) jdk_42_method_92_code 5 (some (.object "java/lang/String")) [] (rm4 4 2 5 64) #[(.ref a), (.int 4), (.int 5)] h0 [] (rvl (Q_sub4_5_5 Z a c0 c1 c2 c3 c4 h0)) := by
  refine con_of (a0 := a0) (plainFor_of_name pn1) (fun q => rfl) EW.nil O0 (fun m => ef_sub4_5_5 m a) ?_
  intro p_ e_ s_ m_ below_ meth_ c_ D hml hret hlk hnm
  have q1 : C8 c0 := by obtain ⟨_, _, _, _, _, _, q, _⟩ := id p1; exact q _ (by simp)
  have q2 : C8 c1 := by obtain ⟨_, _, _, _, _, _, q, _⟩ := id p1; exact q _ (by simp)
  have q3 : C8 c2 := by obtain ⟨_, _, _, _, _, _, q, _⟩ := id p1; exact q _ (by simp)
  have q4 : C8 c3 := by obtain ⟨_, _, _, _, _, _, q, _⟩ := id p1; exact q _ (by simp)
  have q5 : C8 c4 := by obtain ⟨_, _, _, _, _, _, q, _⟩ := id p1; exact q _ (by simp)
  refine go_aload_n 1 (D d18_0) rfl rfl rfl ?_
  refine callV0 (cells' := 0) (slots' := 0) (Wd := 0) (argsL := []) (rest := []) (pay_len G O0 (n := (5 : Int32)) p1 rfl (by decide) (by decide)) p1.exa (wk G 46 rfl) (wk G 47 rfl) (wk G 49 rfl) (wk G 49 rfl) (wk G 48 rfl) (by decide) pd6 rfl rfl (by rw [hml]; rfl) (nb rfl) rfl rfl (by decide) (by decide) all0 (fun _ _ => sf0) (D d18_1) (k_v 4 rfl ?_)
  rintro _ _ ⟨rfl, rfl⟩ -
  refine go_istore_n 5 (ls' := #[vr a, vi 4, vi 5, vi 5, un]) (D d18_4) rfl rfl ?_
  refine go_iload_n 6 (D d18_5) rfl rfl ?_
  refine go_iload_n 7 (D d18_6) rfl rfl ?_
  refine go_iload_n 8 (D d18_7) rfl rfl ?_
  refine callS0 (cells' := 0) (slots' := 0) (Wd := 0) (argsL := [(.int 4), (.int 5), (.int 5)]) (rest := []) (pay_of (a0 := a0) (c_cbbe l G (4 : Int32) (5 : Int32) (5 : Int32) h0 O0 (by decide) (by decide) (by decide)) (wk G 82 rfl) (wk G 7 rfl) (by decide) (by decide)) (wk G 80 rfl) (wk G 81 rfl) (wk G 7 rfl) (wk G 82 rfl) (by decide) pd11 rfl rfl (by rw [hml]; rfl) (nb rfl) rfl rfl (by decide) (by decide) all0 (fun _ _ => sf0) (D d18_8) (k_n 11 rfl ?_)
  rintro  h6 rfl K7
  refine go_iload_n 12 (D d18_11) rfl rfl ?_
  refine go_ifT 22 (D d18_12) (by decide) rfl (by decide) ?_
  refine go_iload_n 23 (D d18_22) rfl rfl ?_
  refine go_iload_n 24 (D d18_23) rfl rfl ?_
  refine go_isub 25 (z := (1 : Int32)) (D d18_24) rfl (by decide) ?_
  refine go_istore 27 (ls' := #[vr a, vi 4, vi 5, vi 5, vi 1]) (D d18_25) rfl rfl ?_
  refine go_aload_n 28 (D d18_27) rfl rfl rfl ?_
  obtain ⟨t8, k9, E10, F11, F12, A13, B14, L15⟩ := id p1
  refine callV0 (cells' := 0) (slots' := 0) (Wd := 0) (argsL := []) (rest := []) (pay_of (a0 := a0) (c_islatin l G a h0 O0 F12) (wk G 44 rfl) (wk G 7 rfl) (by decide) (by decide)) E10 (wk G 40 rfl) (wk G 41 rfl) (wk G 43 rfl) (wk G 43 rfl) (wk G 42 rfl) (by decide) pd5 rfl rfl (by rw [hml]; rfl) (nb rfl) rfl rfl (by decide) (by decide) all0 (fun _ _ => sf0) (D d18_28) (k_v 31 rfl ?_)
  rintro _ h16 ⟨rfl, rfl⟩ K17
  refine go_ifF 34 (D d18_31) rfl (by decide) ?_
  refine go_aload_n 35 (D d18_34) rfl rfl rfl ?_
  refine go_getF 38 (wk G 24 rfl) Via.refl F11 (D d18_35) rfl ?_
  refine go_iload_n 39 (D d18_38) rfl rfl ?_
  refine go_iload 41 (D d18_39) rfl rfl ?_
  refine callS0 (cells' := 2) (slots' := 5) (Wd := 0) (argsL := [(.ref t8), (.int 4), (.int 1)]) (rest := []) (pay_of (a0 := a0) (c_news4_1_5 l G t8 k9 c0 c1 c2 c3 c4 h0 O0 A13 q1 q2 q3 q4 q5) (wk G 112 rfl) (wk G 58 rfl) (by decide) (by decide)) (wk G 110 rfl) (wk G 111 rfl) (wk G 58 rfl) (wk G 112 rfl) (by decide) pd16 rfl rfl (by rw [hml]; rfl) (nb rfl) rfl rfl (by decide) (by decide) all0 (fun _ _ => sf0) (D d18_41) (k_v 44 rfl ?_)
  rintro _ h18 ⟨r20, rfl, f21⟩ K19
  refine go_goto 57 (D d18_44) (by decide) rfl ?_
  have K22 : Keep h0 h18 [] := ((Keep.refl h0 []).trans K19 all0)
  refine go_areturn hret hlk rfl rfl (D d18_57) (by decide) (by decide) ⟨_, rfl, ⟨r20, rfl, f21⟩⟩ K22
theorem c_subi4_5 (l : Launch) {Z : State} {a0 : Array Value} (G : GH Z a0) (a : Addr) (c0 : Int32) (c1 : Int32) (c2 : Int32) (c3 : Int32) (c4 : Int32) (h0 : Heap) (O0 : Old Z Z.heap.size h0) (p1 : Str Z h0 a [c0, c1, c2, c3, c4]) : Con false [] l Z (⟨"java/lang/String", "substring", "(I)Ljava/lang/String;"⟩ : MethodName) jdk_42_method_91_code 2 (some (.object "java/lang/String")) [] (rm4 5 2 5 80) #[(.ref a), (.int 4)] h0 [] (rvl (Q_subi4_5 Z a c0 c1 c2 c3 c4 h0)) := by
  refine con_of (a0 := a0) (plainFor_of_name pn1) (fun q => rfl) EW.nil O0 (fun m => ef_subi4_5 m a) ?_
  intro p_ e_ s_ m_ below_ meth_ c_ D hml hret hlk hnm
  have q1 : C8 c0 := by obtain ⟨_, _, _, _, _, _, q, _⟩ := id p1; exact q _ (by simp)
  have q2 : C8 c1 := by obtain ⟨_, _, _, _, _, _, q, _⟩ := id p1; exact q _ (by simp)
  have q3 : C8 c2 := by obtain ⟨_, _, _, _, _, _, q, _⟩ := id p1; exact q _ (by simp)
  have q4 : C8 c3 := by obtain ⟨_, _, _, _, _, _, q, _⟩ := id p1; exact q _ (by simp)
  have q5 : C8 c4 := by obtain ⟨_, _, _, _, _, _, q, _⟩ := id p1; exact q _ (by simp)
  refine go_aload_n 1 (D d17_0) rfl rfl rfl ?_
  refine go_iload_n 2 (D d17_1) rfl rfl ?_
  refine go_aload_n 3 (D d17_2) rfl rfl rfl ?_
  refine callV0 (cells' := 0) (slots' := 0) (Wd := 2) (argsL := []) (rest := [(.int 4), (.ref a)]) (pay_len G O0 (n := (5 : Int32)) p1 rfl (by decide) (by decide)) p1.exa (wk G 46 rfl) (wk G 47 rfl) (wk G 49 rfl) (wk G 49 rfl) (wk G 48 rfl) (by decide) pd6 rfl rfl (by rw [hml]; rfl) (nb rfl) rfl rfl (by decide) (by decide) all0 (fun _ _ => sf0) (D d17_3) (k_v 6 rfl ?_)
  rintro _ _ ⟨rfl, rfl⟩ -
  refine callV0 (cells' := 2) (slots' := 5) (Wd := 0) (argsL := [(.int 4), (.int 5)]) (rest := []) (pay_of (a0 := a0) (c_sub4_5_5 l G a c0 c1 c2 c3 c4 h0 O0 p1) (wk G 79 rfl) (wk G 7 rfl) (by decide) (by decide)) p1.exa (wk G 75 rfl) (wk G 76 rfl) (wk G 78 rfl) (wk G 78 rfl) (wk G 77 rfl) (by decide) pd12 rfl rfl (by rw [hml]; rfl) (nb rfl) rfl rfl (by decide) (by decide) all0 (fun _ _ => sf0) (D d17_6) (k_v 9 rfl ?_)
  rintro _ h6 ⟨r8, rfl, f9⟩ K7
  have K10 : Keep h0 h6 [] := ((Keep.refl h0 []).trans K7 all0)
  refine go_areturn hret hlk rfl rfl (D d17_9) (by decide) (by decide) ⟨_, rfl, ⟨r8, rfl, f9⟩⟩ K10
theorem ef_subi5_5 (m : MethodId) (a : Addr)  : entryFrame m #[(.ref a), (.int 5)] 2 = mkF m 0 #[.val (.ref a), .val (.int 5)] [] := by first | (simp [entryFrame, mkF, argsToLocals, Value.category]; done) | rfl
def Q_subi5_5 (Z : State) (a : Addr) (c0 : Int32) (c1 : Int32) (c2 : Int32) (c3 : Int32) (c4 : Int32) (h0 : Heap) (xv : Value) (h : Heap) : Prop := ∃ (r : Addr), (.ref r) = xv ∧ Str Z h r []
theorem ef_sub5_5_5 (m : MethodId) (a : Addr)  : entryFrame m #[(.ref a), (.int 5), (.int 5)] 5 = mkF m 0 #[.val (.ref a), .val (.int 5), .val (.int 5), .unset, .unset] [] := by first | (simp [entryFrame, mkF, argsToLocals, Value.category]; done) | rfl
def Q_sub5_5_5 (Z : State) (a : Addr) (c0 : Int32) (c1 : Int32) (c2 : Int32) (c3 : Int32) (c4 : Int32) (h0 : Heap) (xv : Value) (h : Heap) : Prop := ∃ (r : Addr), (.ref r) = xv ∧ Str Z h r []
theorem ef_news5_0_5 (m : MethodId) (t : Addr)  : entryFrame m #[(.ref t), (.int 5), (.int 0)] 3 = mkF m 0 #[.val (.ref t), .val (.int 5), .val (.int 0)] [] := by first | (simp [entryFrame, mkF, argsToLocals, Value.category]; done) | rfl
def Q_news5_0_5 (Z : State) (t : Addr) (k : ClassId) (c0 : Int32) (c1 : Int32) (c2 : Int32) (c3 : Int32) (c4 : Int32) (h0 : Heap) (xv : Value) (h : Heap) : Prop := ∃ (r : Addr), (.ref r) = xv ∧ Str Z h r []
theorem c_news5_0_5 (l : Launch) {Z : State} {a0 : Array Value} (G : GH Z a0) (t : Addr) (k : ClassId) (c0 : Int32) (c1 : Int32) (c2 : Int32) (c3 : Int32) (c4 : Int32) (h0 : Heap) (O0 : Old Z Z.heap.size h0) (p1 : Arv Z h0 t k (.byte) (5 : Int32) [(.int (c0).toInt8.toInt32), (.int (c1).toInt8.toInt32), (.int (c2).toInt8.toInt32), (.int (c3).toInt8.toInt32), (.int (c4).toInt8.toInt32)] (.int 0)) (p2 : C8 c0) (p3 : C8 c1) (p4 : C8 c2) (p5 : C8 c3) (p6 : C8 c4) : Con true EL1 l Z (⟨"java/lang/StringLatin1", "newString", "([BII)Ljava/lang/String;"⟩ : MethodName) jdk_43_method_47_code 3 (some (.object "java/lang/String")) [] (rm4 0 2 4 0) #[(.ref t), (.int 5), (.int 0)] h0 [] (rvl (Q_news5_0_5 Z t k c0 c1 c2 c3 c4 h0)) := by
  refine con_of (a0 := a0) (plainFor_of_name pn2) (fun q => nomatch q) (ew1 G) O0 (fun m => ef_news5_0_5 m t) ?_
  intro p_ e_ s_ m_ below_ meth_ c_ D hml hret hlk hnm
  refine go_iload_n 1 (D d20_0) rfl rfl ?_
  refine go_ifF 4 (D d20_1) rfl (by decide) ?_
  refine go_ldcH 6 (cells' := 2) (slots' := 4) (n := 0) (vs := (([] : List Int32).map fun c => c.toInt8.toInt32).map Value.int) (z := (0 : Int32)) rfl (by decide) (wk G 132 rfl) (wS G) (by decide +kernel) (by decide) (by decide) (by decide) (by decide) (D d20_4) rfl rfl rfl (by decide) (by decide) (fun h1 a2 t4 k5 X3 E6 F7 F8 A9 => ?_)
  have S10 : Str Z h1 a2 [] := ⟨t4, k5, E6, F8, F7, A9, by decide, by decide⟩
  have K11 : Keep h0 h1 [] := ((Keep.refl h0 []).ext X3)
  refine go_areturn hret hlk rfl rfl (D d20_6) (by decide) (by decide) ⟨_, rfl, ⟨a2, rfl, S10⟩⟩ K11
theorem c_sub5_5_5 (l : Launch) {Z : State} {a0 : Array Value} (G : GH Z a0) (a : Addr) (c0 : Int32) (c1 : Int32) (c2 : Int32) (c3 : Int32) (c4 : Int32) (h0 : Heap) (O0 : Old Z Z.heap.size h0) (p1 : Str Z h0 a [c0, c1, c2, c3, c4]) : Con true EL1 l Z (⟨"java/lang/String", "substring", "(II)Ljava/lang/String;"⟩ : MethodName) jdk_42_method_92_code 5 (some (.object "java/lang/String")) [] (rm4 2 2 4 29) #[(.ref a), (.int 5), (.int 5)] h0 [] (rvl (Q_sub5_5_5 Z a c0 c1 c2 c3 c4 h0)) := by
  refine con_of (a0 := a0) (plainFor_of_name pn1) (fun q => nomatch q) (ew1 G) O0 (fun m => ef_sub5_5_5 m a) ?_
  intro p_ e_ s_ m_ below_ meth_ c_ D hml hret hlk hnm
  have q1 : C8 c0 := by obtain ⟨_, _, _, _, _, _, q, _⟩ := id p1; exact q _ (by simp)
  have q2 : C8 c1 := by obtain ⟨_, _, _, _, _, _, q, _⟩ := id p1; exact q _ (by simp)
  have q3 : C8 c2 := by obtain ⟨_, _, _, _, _, _, q, _⟩ := id p1; exact q _ (by simp)
  have q4 : C8 c3 := by obtain ⟨_, _, _, _, _, _, q, _⟩ := id p1; exact q _ (by simp)
  have q5 : C8 c4 := by obtain ⟨_, _, _, _, _, _, q, _⟩ := id p1; exact q _ (by simp)
  refine go_aload_n 1 (D d18_0) rfl rfl rfl ?_
  refine callV0 (cells' := 0) (slots' := 0) (Wd := 0) (argsL := []) (rest := []) (pay_len G O0 (n := (5 : Int32)) p1 rfl (by decide) (by decide)) p1.exa (wk G 46 rfl) (wk G 47 rfl) (wk G 49 rfl) (wk G 49 rfl) (wk G 48 rfl) (by decide) pd6 rfl rfl (by rw [hml]; rfl) (nb rfl) rfl rfl (by decide) (by decide) all0 (fun _ _ => sf0) (D d18_1) (k_v 4 rfl ?_)
  rintro _ _ ⟨rfl, rfl⟩ -
  refine go_istore_n 5 (ls' := #[vr a, vi 5, vi 5, vi 5, un]) (D d18_4) rfl rfl ?_
  refine go_iload_n 6 (D d18_5) rfl rfl ?_
  refine go_iload_n 7 (D d18_6) rfl rfl ?_
  refine go_iload_n 8 (D d18_7) rfl rfl ?_
  refine callS0 (cells' := 0) (slots' := 0) (Wd := 0) (argsL := [(.int 5), (.int 5), (.int 5)]) (rest := []) (pay_of (a0 := a0) (c_cbbe l G (5 : Int32) (5 : Int32) (5 : Int32) h0 O0 (by decide) (by decide) (by decide)) (wk G 82 rfl) (wk G 7 rfl) (by decide) (by decide)) (wk G 80 rfl) (wk G 81 rfl) (wk G 7 rfl) (wk G 82 rfl) (by decide) pd11 rfl rfl (by rw [hml]; rfl) (nb rfl) rfl rfl (by decide) (by decide) all0 (fun _ _ => sf0) (D d18_8) (k_n 11 rfl ?_)
  rintro  h6 rfl K7
  refine go_iload_n 12 (D d18_11) rfl rfl ?_
  refine go_ifT 22 (D d18_12) (by decide) rfl (by decide) ?_
  refine go_iload_n 23 (D d18_22) rfl rfl ?_
  refine go_iload_n 24 (D d18_23) rfl rfl ?_
  refine go_isub 25 (z := (0 : Int32)) (D d18_24) rfl (by decide) ?_
  refine go_istore 27 (ls' := #[vr a, vi 5, vi 5, vi 5, vi 0]) (D d18_25) rfl rfl ?_
  refine go_aload_n 28 (D d18_27) rfl rfl rfl ?_
  obtain ⟨t8, k9, E10, F11, F12, A13, B14, L15⟩ := id p1
  refine callV0 (cells' := 0) (slots' := 0) (Wd := 0) (argsL := []) (rest := []) (pay_of (a0 := a0) (c_islatin l G a h0 O0 F12) (wk G 44 rfl) (wk G 7 rfl) (by decide) (by decide)) E10 (wk G 40 rfl) (wk G 41 rfl) (wk G 43 rfl) (wk G 43 rfl) (wk G 42 rfl) (by decide) pd5 rfl rfl (by rw [hml]; rfl) (nb rfl) rfl rfl (by decide) (by decide) all0 (fun _ _ => sf0) (D d18_28) (k_v 31 rfl ?_)
  rintro _ h16 ⟨rfl, rfl⟩ K17
  refine go_ifF 34 (D d18_31) rfl (by decide) ?_
  refine go_aload_n 35 (D d18_34) rfl rfl rfl ?_
  refine go_getF 38 (wk G 24 rfl) Via.refl F11 (D d18_35) rfl ?_
  refine go_iload_n 39 (D d18_38) rfl rfl ?_
  refine go_iload 41 (D d18_39) rfl rfl ?_
  refine callSW0 rfl (cells' := 2) (slots' := 4) (Wd := 0) (argsL := [(.ref t8), (.int 5), (.int 0)]) (rest := []) (payW_of (a0 := a0) (c_news5_0_5 l G t8 k9 c0 c1 c2 c3 c4 h0 O0 A13 q1 q2 q3 q4 q5) (wk G 112 rfl) (wk G 58 rfl) (by decide) (by decide) (ew1 G)) (wk G 110 rfl) (wk G 111 rfl) (wk G 58 rfl) (wk G 112 rfl) (by decide) pd16 rfl rfl (by rw [hml]; rfl) (nb rfl) rfl rfl (by decide) (by decide) all0 (D d18_41) (k_v 44 rfl ?_)
  rintro _ h18 ⟨r20, rfl, f21⟩ K19
  refine go_goto 57 (D d18_44) (by decide) rfl ?_
  have K22 : Keep h0 h18 [] := ((Keep.refl h0 []).trans K19 all0)
  refine go_areturn hret hlk rfl rfl (D d18_57) (by decide) (by decide) ⟨_, rfl, ⟨r20, rfl, f21⟩⟩ K22
theorem c_subi5_5 (l : Launch) {Z : State} {a0 : Array Value} (G : GH Z a0) (a : Addr) (c0 : Int32) (c1 : Int32) (c2 : Int32) (c3 : Int32) (c4 : Int32) (h0 : Heap) (O0 : Old Z Z.heap.size h0) (p1 : Str Z h0 a [c0, c1, c2, c3, c4]) : Con true EL1 l Z (⟨"java/lang/String", "substring", "(I)Ljava/lang/String;"⟩ : MethodName) jdk_42_method_91_code 2 (some (.object "java/lang/String")) [] (rm4 3 2 4 45) #[(.ref a), (.int 5)] h0 [] (rvl (Q_subi5_5 Z a c0 c1 c2 c3 c4 h0)) := by
  refine con_of (a0 := a0) (plainFor_of_name pn1) (fun q => nomatch q) (ew1 G) O0 (fun m => ef_subi5_5 m a) ?_
  intro p_ e_ s_ m_ below_ meth_ c_ D hml hret hlk hnm
  have q1 : C8 c0 := by obtain ⟨_, _, _, _, _, _, q, _⟩ := id p1; exact q _ (by simp)
  have q2 : C8 c1 := by obtain ⟨_, _, _, _, _, _, q, _⟩ := id p1; exact q _ (by simp)
  have q3 : C8 c2 := by obtain ⟨_, _, _, _, _, _, q, _⟩ := id p1; exact q _ (by simp)
  have q4 : C8 c3 := by obtain ⟨_, _, _, _, _, _, q, _⟩ := id p1; exact q _ (by simp)
  have q5 : C8 c4 := by obtain ⟨_, _, _, _, _, _, q, _⟩ := id p1; exact q _ (by simp)
  refine go_aload_n 1 (D d17_0) rfl rfl rfl ?_
  refine go_iload_n 2 (D d17_1) rfl rfl ?_
  refine go_aload_n 3 (D d17_2) rfl rfl rfl ?_
  refine callV0 (cells' := 0) (slots' := 0) (Wd := 2) (argsL := []) (rest := [(.int 5), (.ref a)]) (pay_len G O0 (n := (5 : Int32)) p1 rfl (by decide) (by decide)) p1.exa (wk G 46 rfl) (wk G 47 rfl) (wk G 49 rfl) (wk G 49 rfl) (wk G 48 rfl) (by decide) pd6 rfl rfl (by rw [hml]; rfl) (nb rfl) rfl rfl (by decide) (by decide) all0 (fun _ _ => sf0) (D d17_3) (k_v 6 rfl ?_)
  rintro _ _ ⟨rfl, rfl⟩ -
  refine callVW0 rfl (cells' := 2) (slots' := 4) (Wd := 0) (argsL := [(.int 5), (.int 5)]) (rest := []) (payW_of (a0 := a0) (c_sub5_5_5 l G a c0 c1 c2 c3 c4 h0 O0 p1) (wk G 79 rfl) (wk G 7 rfl) (by decide) (by decide) (ew1 G)) p1.exa (wk G 75 rfl) (wk G 76 rfl) (wk G 78 rfl) (wk G 78 rfl) (wk G 77 rfl) (by decide) pd12 rfl rfl (by rw [hml]; rfl) (nb rfl) rfl rfl (by decide) (by decide) all0 (D d17_6) (k_v 9 rfl ?_)
  rintro _ h6 ⟨r8, rfl, f9⟩ K7
  have K10 : Keep h0 h6 [] := ((Keep.refl h0 []).trans K7 all0)
  refine go_areturn hret hlk rfl rfl (D d17_9) (by decide) (by decide) ⟨_, rfl, ⟨r8, rfl, f9⟩⟩ K10
theorem ef_subi0_5 (m : MethodId) (a : Addr)  : entryFrame m #[(.ref a), (.int 0)] 2 = mkF m 0 #[.val (.ref a), .val (.int 0)] [] := by first | (simp [entryFrame, mkF, argsToLocals, Value.category]; done) | rfl
def Q_subi0_5 (Z : State) (a : Addr) (c0 : Int32) (c1 : Int32) (c2 : Int32) (c3 : Int32) (c4 : Int32) (h0 : Heap) (xv : Value) (h : Heap) : Prop := (.ref a) = xv ∧ h0 = h
theorem ef_sub0_5_5 (m : MethodId) (a : Addr)  : entryFrame m #[(.ref a), (.int 0), (.int 5)] 5 = mkF m 0 #[.val (.ref a), .val (.int 0), .val (.int 5), .unset, .unset] [] := by first | (simp [entryFrame, mkF, argsToLocals, Value.category]; done) | rfl
def Q_sub0_5_5 (Z : State) (a : Addr) (c0 : Int32) (c1 : Int32) (c2 : Int32) (c3 : Int32) (c4 : Int32) (h0 : Heap) (xv : Value) (h : Heap) : Prop := (.ref a) = xv ∧ h0 = h
theorem c_sub0_5_5 (l : Launch) {Z : State} {a0 : Array Value} (G : GH Z a0) (a : Addr) (c0 : Int32) (c1 : Int32) (c2 : Int32) (c3 : Int32) (c4 : Int32) (h0 : Heap) (O0 : Old Z Z.heap.size h0) (p1 : Str Z h0 a [c0, c1, c2, c3, c4]) : Con false [] l Z (⟨"java/lang/String", "substring", "(II)Ljava/lang/String;"⟩ : MethodName) jdk_42_method_92_code 5 (some (.object "java/lang/String")) [] (rm4 2 0 0 29) #[(.ref a), (.int 0), (.int 5)] h0 [] (rvl (Q_sub0_5_5 Z a c0 c1 c2 c3 c4 h0)) := by
  refine con_of (a0 := a0) (plainFor_of_name pn1) (fun q => rfl) EW.nil O0 (fun m => ef_sub0_5_5 m a) ?_
  intro p_ e_ s_ m_ below_ meth_ c_ D hml hret hlk hnm
  have q1 : C8 c0 := by obtain ⟨_, _, _, _, _, _, q, _⟩ := id p1; exact q _ (by simp)
  have q2 : C8 c1 := by obtain ⟨_, _, _, _, _, _, q, _⟩ := id p1; exact q _ (by simp)
  have q3 : C8 c2 := by obtain ⟨_, _, _, _, _, _, q, _⟩ := id p1; exact q _ (by simp)
  have q4 : C8 c3 := by obtain ⟨_, _, _, _, _, _, q, _⟩ := id p1; exact q _ (by simp)
  have q5 : C8 c4 := by obtain ⟨_, _, _, _, _, _, q, _⟩ := id p1; exact q _ (by simp)
  refine go_aload_n 1 (D d18_0) rfl rfl rfl ?_
  refine callV0 (cells' := 0) (slots' := 0) (Wd := 0) (argsL := []) (rest := []) (pay_len G O0 (n := (5 : Int32)) p1 rfl (by decide) (by decide)) p1.exa (wk G 46 rfl) (wk G 47 rfl) (wk G 49 rfl) (wk G 49 rfl) (wk G 48 rfl) (by decide) pd6 rfl rfl (by rw [hml]; rfl) (nb rfl) rfl rfl (by decide) (by decide) all0 (fun _ _ => sf0) (D d18_1) (k_v 4 rfl ?_)
  rintro _ _ ⟨rfl, rfl⟩ -
  refine go_istore_n 5 (ls' := #[vr a, vi 0, vi 5, vi 5, un]) (D d18_4) rfl rfl ?_
  refine go_iload_n 6 (D d18_5) rfl rfl ?_
  refine go_iload_n 7 (D d18_6) rfl rfl ?_
  refine go_iload_n 8 (D d18_7) rfl rfl ?_
  refine callS0 (cells' := 0) (slots' := 0) (Wd := 0) (argsL := [(.int 0), (.int 5), (.int 5)]) (rest := []) (pay_of (a0 := a0) (c_cbbe l G (0 : Int32) (5 : Int32) (5 : Int32) h0 O0 (by decide) (by decide) (by decide)) (wk G 82 rfl) (wk G 7 rfl) (by decide) (by decide)) (wk G 80 rfl) (wk G 81 rfl) (wk G 7 rfl) (wk G 82 rfl) (by decide) pd11 rfl rfl (by rw [hml]; rfl) (nb rfl) rfl rfl (by decide) (by decide) all0 (fun _ _ => sf0) (D d18_8) (k_n 11 rfl ?_)
  rintro  h6 rfl K7
  refine go_iload_n 12 (D d18_11) rfl rfl ?_
  refine go_ifF 15 (D d18_12) rfl (by decide) ?_
  refine go_iload_n 16 (D d18_15) rfl rfl ?_
  refine go_iload_n 17 (D d18_16) rfl rfl ?_
  refine go_icF 20 (D d18_17) rfl (by decide) ?_
  refine go_aload_n 21 (D d18_20) rfl rfl rfl ?_
  refine go_areturn hret hlk rfl rfl (D d18_21) (by decide) (by decide) ⟨_, rfl, ⟨rfl, rfl⟩⟩ (Keep.refl h0 [])
theorem c_subi0_5 (l : Launch) {Z : State} {a0 : Array Value} (G : GH Z a0) (a : Addr) (c0 : Int32) (c1 : Int32) (c2 : Int32) (c3 : Int32) (c4 : Int32) (h0 : Heap) (O0 : Old Z Z.heap.size h0) (p1 : Str Z h0 a [c0, c1, c2, c3, c4]) : Con false [] l Z (⟨"java/lang/String", "substring", "(I)Ljava/lang/String;"⟩ : MethodName) jdk_42_method_91_code 2 (some (.object "java/lang/String")) [] (rm4 3 0 0 45) #[(.ref a), (.int 0)] h0 [] (rvl (Q_subi0_5 Z a c0 c1 c2 c3 c4 h0)) := by
  refine con_of (a0 := a0) (plainFor_of_name pn1) (fun q => rfl) EW.nil O0 (fun m => ef_subi0_5 m a) ?_
  intro p_ e_ s_ m_ below_ meth_ c_ D hml hret hlk hnm
  have q1 : C8 c0 := by obtain ⟨_, _, _, _, _, _, q, _⟩ := id p1; exact q _ (by simp)
  have q2 : C8 c1 := by obtain ⟨_, _, _, _, _, _, q, _⟩ := id p1; exact q _ (by simp)
  have q3 : C8 c2 := by obtain ⟨_, _, _, _, _, _, q, _⟩ := id p1; exact q _ (by simp)
  have q4 : C8 c3 := by obtain ⟨_, _, _, _, _, _, q, _⟩ := id p1; exact q _ (by simp)
  have q5 : C8 c4 := by obtain ⟨_, _, _, _, _, _, q, _⟩ := id p1; exact q _ (by simp)
  refine go_aload_n 1 (D d17_0) rfl rfl rfl ?_
  refine go_iload_n 2 (D d17_1) rfl rfl ?_
  refine go_aload_n 3 (D d17_2) rfl rfl rfl ?_
  refine callV0 (cells' := 0) (slots' := 0) (Wd := 2) (argsL := []) (rest := [(.int 0), (.ref a)]) (pay_len G O0 (n := (5 : Int32)) p1 rfl (by decide) (by decide)) p1.exa (wk G 46 rfl) (wk G 47 rfl) (wk G 49 rfl) (wk G 49 rfl) (wk G 48 rfl) (by decide) pd6 rfl rfl (by rw [hml]; rfl) (nb rfl) rfl rfl (by decide) (by decide) all0 (fun _ _ => sf0) (D d17_3) (k_v 6 rfl ?_)
  rintro _ _ ⟨rfl, rfl⟩ -
  refine callV0 (cells' := 0) (slots' := 0) (Wd := 0) (argsL := [(.int 0), (.int 5)]) (rest := []) (pay_of (a0 := a0) (c_sub0_5_5 l G a c0 c1 c2 c3 c4 h0 O0 p1) (wk G 79 rfl) (wk G 7 rfl) (by decide) (by decide)) p1.exa (wk G 75 rfl) (wk G 76 rfl) (wk G 78 rfl) (wk G 78 rfl) (wk G 77 rfl) (by decide) pd12 rfl rfl (by rw [hml]; rfl) (nb rfl) rfl rfl (by decide) (by decide) all0 (fun _ _ => sf0) (D d17_6) (k_v 9 rfl ?_)
  rintro _ h6 ⟨rfl, rfl⟩ K7
  refine go_areturn hret hlk rfl rfl (D d17_9) (by decide) (by decide) ⟨_, rfl, ⟨rfl, rfl⟩⟩ (Keep.refl h0 [])
theorem c_unq5 (l : Launch) {Z : State} {a0 : Array Value} (G : GH Z a0) (a : Addr) (c0 : Int32) (c1 : Int32) (c2 : Int32) (c3 : Int32) (c4 : Int32) (h0 : Heap) (O0 : Old Z Z.heap.size h0) (p1 : Str Z h0 a [c0, c1, c2, c3, c4]) : Con true EL1 l Z (⟨"com/example/commit_feed/commitfeed/config/SqlNames", "unqualified", "(Ljava/lang/String;)Ljava/lang/String;"⟩ : MethodName) prog_9_method_4_code 1 (some (.object "java/lang/String")) [] (rm4 6 2 8 93) #[(.ref a)] h0 [] (rvl (Q_unq5 Z a c0 c1 c2 c3 c4 h0)) := by
  refine con_of (a0 := a0) (plainFor_of_name pn6) (fun q => nomatch q) (ew1 G) O0 (fun m => ef_unq5 m a) ?_
  intro p_ e_ s_ m_ below_ meth_ c_ D hml hret hlk hnm
  refine go_aload_n 1 (D d11_0) rfl rfl rfl ?_
  refine go_aload_n 2 (D d11_1) rfl rfl rfl ?_
  refine go_bipush 4 (v := 46) (D d11_2) rfl rfl ?_
  refine callV0 (cells' := 0) (slots' := 0) (Wd := 1) (argsL := [(.int 46)]) (rest := [(.ref a)]) (pay_of (a0 := a0) (c_idx5 l G a c0 c1 c2 c3 c4 h0 O0 p1) (wk G 34 rfl) (wk G 7 rfl) (by decide) (by decide)) p1.exa (wk G 30 rfl) (wk G 31 rfl) (wk G 33 rfl) (wk G 33 rfl) (wk G 32 rfl) (by decide) pd10 rfl rfl (by rw [hml]; rfl) (nb rfl) rfl rfl (by decide) (by decide) all0 (fun _ _ => sf0) (D d11_4) (k_v 7 rfl ?_)
  rintro _ h1 (⟨rfl, rfl, f3⟩ | ⟨rfl, rfl, f4, f5⟩ | ⟨rfl, rfl, f6, f7, f8⟩ | ⟨rfl, rfl, f9, f10, f11, f12⟩ | ⟨rfl, rfl, f13, f14, f15, f16, f17⟩ | ⟨rfl, rfl, f18, f19, f20, f21, f22⟩) K2
  · refine go_iconst 8 (v := 1) (D d11_7) rfl rfl ?_
    refine go_iadd 9 (z := (1 : Int32)) (D d11_8) rfl (by decide) ?_
    refine callV0 (cells' := 2) (slots' := 8) (Wd := 0) (argsL := [(.int 1)]) (rest := []) (pay_of (a0 := a0) (c_subi1_5 l G a c0 c1 c2 c3 c4 h0 O0 p1) (wk G 74 rfl) (wk G 7 rfl) (by decide) (by decide)) p1.exa (wk G 70 rfl) (wk G 71 rfl) (wk G 73 rfl) (wk G 73 rfl) (wk G 72 rfl) (by decide) pd13 rfl rfl (by rw [hml]; rfl) (nb rfl) rfl rfl (by decide) (by decide) all0 (fun _ _ => sf0) (D d11_9) (k_v 12 rfl ?_)
    rintro _ h23 ⟨r25, rfl, f26⟩ K24
    have K27 : Keep h0 h23 [] := ((Keep.refl h0 []).trans K24 all0)
    refine go_areturn hret hlk rfl rfl (D d11_12) (by decide) (by decide) ⟨_, rfl, (Or.inl ⟨r25, rfl, f3, f26⟩)⟩ K27
  · refine go_iconst 8 (v := 1) (D d11_7) rfl rfl ?_
    refine go_iadd 9 (z := (2 : Int32)) (D d11_8) rfl (by decide) ?_
    refine callV0 (cells' := 2) (slots' := 7) (Wd := 0) (argsL := [(.int 2)]) (rest := []) (pay_of (a0 := a0) (c_subi2_5 l G a c0 c1 c2 c3 c4 h0 O0 p1) (wk G 74 rfl) (wk G 7 rfl) (by decide) (by decide)) p1.exa (wk G 70 rfl) (wk G 71 rfl) (wk G 73 rfl) (wk G 73 rfl) (wk G 72 rfl) (by decide) pd13 rfl rfl (by rw [hml]; rfl) (nb rfl) rfl rfl (by decide) (by decide) all0 (fun _ _ => sf0) (D d11_9) (k_v 12 rfl ?_)
    rintro _ h28 ⟨r30, rfl, f31⟩ K29
    have K32 : Keep h0 h28 [] := ((Keep.refl h0 []).trans K29 all0)
    refine go_areturn hret hlk rfl rfl (D d11_12) (by decide) (by decide) ⟨_, rfl, (Or.inr (Or.inl ⟨r30, rfl, f4, f5, f31⟩))⟩ K32
  · refine go_iconst 8 (v := 1) (D d11_7) rfl rfl ?_
    refine go_iadd 9 (z := (3 : Int32)) (D d11_8) rfl (by decide) ?_
    refine callV0 (cells' := 2) (slots' := 6) (Wd := 0) (argsL := [(.int 3)]) (rest := []) (pay_of (a0 := a0) (c_subi3_5 l G a c0 c1 c2 c3 c4 h0 O0 p1) (wk G 74 rfl) (wk G 7 rfl) (by decide) (by decide)) p1.exa (wk G 70 rfl) (wk G 71 rfl) (wk G 73 rfl) (wk G 73 rfl) (wk G 72 rfl) (by decide) pd13 rfl rfl (by rw [hml]; rfl) (nb rfl) rfl rfl (by decide) (by decide) all0 (fun _ _ => sf0) (D d11_9) (k_v 12 rfl ?_)
    rintro _ h33 ⟨r35, rfl, f36⟩ K34
    have K37 : Keep h0 h33 [] := ((Keep.refl h0 []).trans K34 all0)
    refine go_areturn hret hlk rfl rfl (D d11_12) (by decide) (by decide) ⟨_, rfl, (Or.inr (Or.inr (Or.inl ⟨r35, rfl, f6, f7, f8, f36⟩)))⟩ K37
  · refine go_iconst 8 (v := 1) (D d11_7) rfl rfl ?_
    refine go_iadd 9 (z := (4 : Int32)) (D d11_8) rfl (by decide) ?_
    refine callV0 (cells' := 2) (slots' := 5) (Wd := 0) (argsL := [(.int 4)]) (rest := []) (pay_of (a0 := a0) (c_subi4_5 l G a c0 c1 c2 c3 c4 h0 O0 p1) (wk G 74 rfl) (wk G 7 rfl) (by decide) (by decide)) p1.exa (wk G 70 rfl) (wk G 71 rfl) (wk G 73 rfl) (wk G 73 rfl) (wk G 72 rfl) (by decide) pd13 rfl rfl (by rw [hml]; rfl) (nb rfl) rfl rfl (by decide) (by decide) all0 (fun _ _ => sf0) (D d11_9) (k_v 12 rfl ?_)
    rintro _ h38 ⟨r40, rfl, f41⟩ K39
    have K42 : Keep h0 h38 [] := ((Keep.refl h0 []).trans K39 all0)
    refine go_areturn hret hlk rfl rfl (D d11_12) (by decide) (by decide) ⟨_, rfl, (Or.inr (Or.inr (Or.inr (Or.inl ⟨r40, rfl, f9, f10, f11, f12, f41⟩))))⟩ K42
  · refine go_iconst 8 (v := 1) (D d11_7) rfl rfl ?_
    refine go_iadd 9 (z := (5 : Int32)) (D d11_8) rfl (by decide) ?_
    refine callVW0 rfl (cells' := 2) (slots' := 4) (Wd := 0) (argsL := [(.int 5)]) (rest := []) (payW_of (a0 := a0) (c_subi5_5 l G a c0 c1 c2 c3 c4 h0 O0 p1) (wk G 74 rfl) (wk G 7 rfl) (by decide) (by decide) (ew1 G)) p1.exa (wk G 70 rfl) (wk G 71 rfl) (wk G 73 rfl) (wk G 73 rfl) (wk G 72 rfl) (by decide) pd13 rfl rfl (by rw [hml]; rfl) (nb rfl) rfl rfl (by decide) (by decide) all0 (D d11_9) (k_v 12 rfl ?_)
    rintro _ h43 ⟨r45, rfl, f46⟩ K44
    have K47 : Keep h0 h43 [] := ((Keep.refl h0 []).trans K44 all0)
    refine go_areturn hret hlk rfl rfl (D d11_12) (by decide) (by decide) ⟨_, rfl, (Or.inr (Or.inr (Or.inr (Or.inr (Or.inl ⟨r45, rfl, f13, f14, f15, f16, f17, f46⟩)))))⟩ K47
  · refine go_iconst 8 (v := 1) (D d11_7) rfl rfl ?_
    refine go_iadd 9 (z := (0 : Int32)) (D d11_8) rfl (by decide) ?_
    refine callV0 (cells' := 0) (slots' := 0) (Wd := 0) (argsL := [(.int 0)]) (rest := []) (pay_of (a0 := a0) (c_subi0_5 l G a c0 c1 c2 c3 c4 h0 O0 p1) (wk G 74 rfl) (wk G 7 rfl) (by decide) (by decide)) p1.exa (wk G 70 rfl) (wk G 71 rfl) (wk G 73 rfl) (wk G 73 rfl) (wk G 72 rfl) (by decide) pd13 rfl rfl (by rw [hml]; rfl) (nb rfl) rfl rfl (by decide) (by decide) all0 (fun _ _ => sf0) (D d11_9) (k_v 12 rfl ?_)
    rintro _ h48 ⟨rfl, rfl⟩ K49
    refine go_areturn hret hlk rfl rfl (D d11_12) (by decide) (by decide) ⟨_, rfl, (Or.inr (Or.inr (Or.inr (Or.inr (Or.inr (⟨rfl, f18, f19, f20, f21, f22⟩))))))⟩ (Keep.refl h0 [])
theorem c_law (l : Launch) {Z : State} {a0 : Array Value} (G : GH Z a0) (x0 : Int32) (x1 : Int32) (x2 : Int32)  (h0 : Heap) (O0 : Old Z Z.heap.size h0)  : Con true EL1 l Z x code maxLocals ret tables_1 room_1 #[(.int x0), (.int x1), (.int x2)] h0 [] (rvl (Q_law Z x0 x1 x2 h0)) := by
  refine con_of (a0 := a0) (plainFor_of_name pn5) (fun q => nomatch q) (ew1 G) O0 (fun m => ef_law m x0 x1 x2) ?_
  intro p_ e_ s_ m_ below_ meth_ c_ D hml hret hlk hnm
  refine go_iload_n 1 (D at_0) rfl rfl ?_
  refine go_bipush 3 (v := 7) (D at_1) rfl rfl ?_
  refine go_iand 4 (z := (x0 &&& (7 : Int32))) (D at_3) rfl rfl ?_
  refine go_bipush 6 (v := 6) (D at_4) rfl rfl ?_
  refine go_irem 7 (z := ((x0 &&& (7 : Int32)) % (6 : Int32))) (D at_6) rfl (by decide) rfl ?_
  refine go_istore_n 8 (ls' := #[vi x0, vi x1, vi x2, vi ((x0 &&& (7 : Int32)) % (6 : Int32)), un, un, un, un, un, un, un, un, un]) (D at_7) rfl rfl ?_
  refine go_iconst 9 (v := 5) (D at_8) rfl rfl ?_
  refine go_newP 11 (cells' := 1) (slots' := 5) (cap := 5) (vs := [(.int 0), (.int 0), (.int 0), (.int 0), (.int 0)]) (ty := .char) (dv := .int 0) (wk G 0 rfl) rfl rfl (D at_9) rfl (by decide) rfl (by decide) rfl rfl rfl (by decide) (by decide) (fun h1 a2 k6 g3 X4 A5 => ?_)
  refine go_astore 13 (ls' := #[vi x0, vi x1, vi x2, vi ((x0 &&& (7 : Int32)) % (6 : Int32)), vr a2, un, un, un, un, un, un, un, un]) (D at_11) rfl rfl rfl ?_
  refine go_aload 15 (D at_13) rfl rfl rfl ?_
  refine go_iconst 16 (v := 0) (D at_15) rfl rfl ?_
  refine go_iload_n 17 (D at_16) rfl rfl ?_
  refine go_iconst 18 (v := 3) (D at_17) rfl rfl ?_
  refine go_iload_n 19 (D at_18) rfl rfl ?_
  refine go_sipush 22 (v := 255) (D at_19) rfl rfl ?_
  refine go_iand 23 (z := (x1 &&& (255 : Int32))) (D at_22) rfl rfl ?_
  refine go_old (fun O7 => ?_)
  refine callS0 (cells' := 1) (slots' := 5) (Wd := 2) (argsL := [(.int x0), (.int 3), (.int (x1 &&& (255 : Int32)))]) (rest := [(.int 0), (.ref a2)]) (pay_of (a0 := a0) (c_pick l G x0 (3 : Int32) (x1 &&& (255 : Int32)) h1 O7 (c8_m _)) (wk G 4 rfl) (wk G 3 rfl) (by decide) (by decide)) (wk G 1 rfl) (wk G 2 rfl) (wk G 3 rfl) (wk G 4 rfl) (by decide) pd3 rfl rfl (by rw [hml]; rfl) (nb rfl) rfl rfl (by decide) (by decide) all0 (fun _ _ => sf0) (D at_23) (k_v 26 rfl ?_)
  rintro _ h8 ⟨r10, rfl, rfl, f11⟩ K9
  refine go_stC 27 (i := 0) (x' := r10) (vs' := [(.int r10), (.int 0), (.int 0), (.int 0), (.int 0)]) A5 (Nat.le_trans O0.2.1 (Nat.le_of_eq g3)) (by decide) (by decide) rfl (nb rfl) (i2c_c8 f11) rfl (D at_26) rfl (fun h12 W13 A14 => ?_)
  refine go_aload 29 (D at_27) rfl rfl rfl ?_
  refine go_iconst 30 (v := 1) (D at_29) rfl rfl ?_
  refine go_iload_n 31 (D at_30) rfl rfl ?_
  refine go_iconst 32 (v := 4) (D at_31) rfl rfl ?_
  refine go_iload_n 33 (D at_32) rfl rfl ?_
  refine go_bipush 35 (v := 8) (D at_33) rfl rfl ?_
  refine go_iushr 36 (z := (XT.ushr x1 (8 : Int32))) (D at_35) rfl rfl ?_
  refine go_sipush 39 (v := 255) (D at_36) rfl rfl ?_
  refine go_iand 40 (z := ((XT.ushr x1 (8 : Int32)) &&& (255 : Int32))) (D at_39) rfl rfl ?_
  refine go_old (fun O15 => ?_)
  refine callS0 (cells' := 1) (slots' := 5) (Wd := 2) (argsL := [(.int x0), (.int 4), (.int ((XT.ushr x1 (8 : Int32)) &&& (255 : Int32)))]) (rest := [(.int 1), (.ref a2)]) (pay_of (a0 := a0) (c_pick l G x0 (4 : Int32) ((XT.ushr x1 (8 : Int32)) &&& (255 : Int32)) h12 O15 (c8_m _)) (wk G 4 rfl) (wk G 3 rfl) (by decide) (by decide)) (wk G 1 rfl) (wk G 2 rfl) (wk G 3 rfl) (wk G 4 rfl) (by decide) pd3 rfl rfl (by rw [hml]; rfl) (nb rfl) rfl rfl (by decide) (by decide) all0 (fun _ _ => sf0) (D at_40) (k_v 43 rfl ?_)
  rintro _ h16 ⟨r18, rfl, rfl, f19⟩ K17
  refine go_stC 44 (i := 1) (x' := r18) (vs' := [(.int r10), (.int r18), (.int 0), (.int 0), (.int 0)]) A14 (Nat.le_trans O0.2.1 (Nat.le_of_eq g3)) (by decide) (by decide) rfl (nb rfl) (i2c_c8 f19) rfl (D at_43) rfl (fun h20 W21 A22 => ?_)
  refine go_aload 46 (D at_44) rfl rfl rfl ?_
  refine go_iconst 47 (v := 2) (D at_46) rfl rfl ?_
  refine go_iload_n 48 (D at_47) rfl rfl ?_
  refine go_iconst 49 (v := 5) (D at_48) rfl rfl ?_
  refine go_iload_n 50 (D at_49) rfl rfl ?_
  refine go_bipush 52 (v := 16) (D at_50) rfl rfl ?_
  refine go_iushr 53 (z := (XT.ushr x1 (16 : Int32))) (D at_52) rfl rfl ?_
  refine go_sipush 56 (v := 255) (D at_53) rfl rfl ?_
  refine go_iand 57 (z := ((XT.ushr x1 (16 : Int32)) &&& (255 : Int32))) (D at_56) rfl rfl ?_
  refine go_old (fun O23 => ?_)
  refine callS0 (cells' := 1) (slots' := 5) (Wd := 2) (argsL := [(.int x0), (.int 5), (.int ((XT.ushr x1 (16 : Int32)) &&& (255 : Int32)))]) (rest := [(.int 2), (.ref a2)]) (pay_of (a0 := a0) (c_pick l G x0 (5 : Int32) ((XT.ushr x1 (16 : Int32)) &&& (255 : Int32)) h20 O23 (c8_m _)) (wk G 4 rfl) (wk G 3 rfl) (by decide) (by decide)) (wk G 1 rfl) (wk G 2 rfl) (wk G 3 rfl) (wk G 4 rfl) (by decide) pd3 rfl rfl (by rw [hml]; rfl) (nb rfl) rfl rfl (by decide) (by decide) all0 (fun _ _ => sf0) (D at_57) (k_v 60 rfl ?_)
  rintro _ h24 ⟨r26, rfl, rfl, f27⟩ K25
  refine go_stC 61 (i := 2) (x' := r26) (vs' := [(.int r10), (.int r18), (.int r26), (.int 0), (.int 0)]) A22 (Nat.le_trans O0.2.1 (Nat.le_of_eq g3)) (by decide) (by decide) rfl (nb rfl) (i2c_c8 f27) rfl (D at_60) rfl (fun h28 W29 A30 => ?_)
  refine go_aload 63 (D at_61) rfl rfl rfl ?_
  refine go_iconst 64 (v := 3) (D at_63) rfl rfl ?_
  refine go_iload_n 65 (D at_64) rfl rfl ?_
  refine go_bipush 67 (v := 6) (D at_65) rfl rfl ?_
  refine go_iload_n 68 (D at_67) rfl rfl ?_
  refine go_bipush 70 (v := 24) (D at_68) rfl rfl ?_
  refine go_iushr 71 (z := (XT.ushr x1 (24 : Int32))) (D at_70) rfl rfl ?_
  refine go_sipush 74 (v := 255) (D at_71) rfl rfl ?_
  refine go_iand 75 (z := ((XT.ushr x1 (24 : Int32)) &&& (255 : Int32))) (D at_74) rfl rfl ?_
  refine go_old (fun O31 => ?_)
  refine callS0 (cells' := 1) (slots' := 5) (Wd := 2) (argsL := [(.int x0), (.int 6), (.int ((XT.ushr x1 (24 : Int32)) &&& (255 : Int32)))]) (rest := [(.int 3), (.ref a2)]) (pay_of (a0 := a0) (c_pick l G x0 (6 : Int32) ((XT.ushr x1 (24 : Int32)) &&& (255 : Int32)) h28 O31 (c8_m _)) (wk G 4 rfl) (wk G 3 rfl) (by decide) (by decide)) (wk G 1 rfl) (wk G 2 rfl) (wk G 3 rfl) (wk G 4 rfl) (by decide) pd3 rfl rfl (by rw [hml]; rfl) (nb rfl) rfl rfl (by decide) (by decide) all0 (fun _ _ => sf0) (D at_75) (k_v 78 rfl ?_)
  rintro _ h32 ⟨r34, rfl, rfl, f35⟩ K33
  refine go_stC 79 (i := 3) (x' := r34) (vs' := [(.int r10), (.int r18), (.int r26), (.int r34), (.int 0)]) A30 (Nat.le_trans O0.2.1 (Nat.le_of_eq g3)) (by decide) (by decide) rfl (nb rfl) (i2c_c8 f35) rfl (D at_78) rfl (fun h36 W37 A38 => ?_)
  refine go_aload 81 (D at_79) rfl rfl rfl ?_
  refine go_iconst 82 (v := 4) (D at_81) rfl rfl ?_
  refine go_iload_n 83 (D at_82) rfl rfl ?_
  refine go_bipush 85 (v := 7) (D at_83) rfl rfl ?_
  refine go_iload_n 86 (D at_85) rfl rfl ?_
  refine go_sipush 89 (v := 255) (D at_86) rfl rfl ?_
  refine go_iand 90 (z := (x2 &&& (255 : Int32))) (D at_89) rfl rfl ?_
  refine go_old (fun O39 => ?_)
  refine callS0 (cells' := 1) (slots' := 5) (Wd := 2) (argsL := [(.int x0), (.int 7), (.int (x2 &&& (255 : Int32)))]) (rest := [(.int 4), (.ref a2)]) (pay_of (a0 := a0) (c_pick l G x0 (7 : Int32) (x2 &&& (255 : Int32)) h36 O39 (c8_m _)) (wk G 4 rfl) (wk G 3 rfl) (by decide) (by decide)) (wk G 1 rfl) (wk G 2 rfl) (wk G 3 rfl) (wk G 4 rfl) (by decide) pd3 rfl rfl (by rw [hml]; rfl) (nb rfl) rfl rfl (by decide) (by decide) all0 (fun _ _ => sf0) (D at_90) (k_v 93 rfl ?_)
  rintro _ h40 ⟨r42, rfl, rfl, f43⟩ K41
  refine go_stC 94 (i := 4) (x' := r42) (vs' := [(.int r10), (.int r18), (.int r26), (.int r34), (.int r42)]) A38 (Nat.le_trans O0.2.1 (Nat.le_of_eq g3)) (by decide) (by decide) rfl (nb rfl) (i2c_c8 f43) rfl (D at_93) rfl (fun h44 W45 A46 => ?_)
  rcases rem6 (x0 &&& (7 : Int32)) (and_nn _ _ (by decide)) with q47 | q47 | q47 | q47 | q47 | q47
  · rw [q47]
    refine go_iload_n 95 (D at_94) rfl rfl ?_
    refine go_newP 97 (cells' := 2) (slots' := 5) (cap := 0) (vs := []) (ty := .char) (dv := .int 0) (wk G 0 rfl) rfl rfl (D at_95) rfl (by decide) rfl (by decide) rfl rfl rfl (by decide) (by decide) (fun h48 a49 k53 g50 X51 A52 => ?_)
    refine go_astore 99 (ls' := #[vi x0, vi x1, vi x2, vi 0, vr a2, vr a49, un, un, un, un, un, un, un]) (D at_97) rfl rfl rfl ?_
    refine go_iload_n 100 (D at_99) rfl rfl ?_
    refine go_ifT 111 (D at_100) (by decide) rfl (by decide) ?_
    refine go_iload_n 112 (D at_111) rfl rfl ?_
    refine go_iconst 113 (v := 1) (D at_112) rfl rfl ?_
    refine go_icT 124 (D at_113) (by decide) rfl (by decide) ?_
    refine go_iload_n 125 (D at_124) rfl rfl ?_
    refine go_iconst 126 (v := 2) (D at_125) rfl rfl ?_
    refine go_icT 137 (D at_126) (by decide) rfl (by decide) ?_
    refine go_iload_n 138 (D at_137) rfl rfl ?_
    refine go_iconst 139 (v := 3) (D at_138) rfl rfl ?_
    refine go_icT 150 (D at_139) (by decide) rfl (by decide) ?_
    refine go_iload_n 151 (D at_150) rfl rfl ?_
    refine go_iconst 152 (v := 4) (D at_151) rfl rfl ?_
    refine go_icT 163 (D at_152) (by decide) rfl (by decide) ?_
    refine go_newO 166 (cells' := 3) (slots' := 9) (wk G 5 rfl) (wk G 6 rfl) (wk G 7 rfl) (D at_163) rfl rfl rfl (by decide) (by decide) (fun h54 a55 g56 X57 E58 D59 U60 => ?_)
    refine go_dup 167 (D at_166) rfl rfl ?_
    refine go_aload 169 (D at_167) rfl rfl rfl ?_
    have K61 : Keep h0 h1 [] := ((Keep.refl h0 []).ext X4)
    have K62 : Keep h0 h12 [] := (K61.wr W13 (Or.inr (Nat.le_of_eq g3)))
    have K63 : Keep h0 h20 [] := (K62.wr W21 (Or.inr (Nat.le_of_eq g3)))
    have K64 : Keep h0 h28 [] := (K63.wr W29 (Or.inr (Nat.le_of_eq g3)))
    have K65 : Keep h0 h36 [] := (K64.wr W37 (Or.inr (Nat.le_of_eq g3)))
    have K66 : Keep h0 h44 [] := (K65.wr W45 (Or.inr (Nat.le_of_eq g3)))
    have K67 : Keep h0 h48 [] := (K66.ext X51)
    have F68 := D59 (Or.inr (wk G 20 rfl)) (ty := (.array .byte)) (by decide)
    have F69 := D59 (Or.inr (wk G 21 rfl)) (ty := .byte) (by decide)
    have K70 : Keep h48 h54 [] := ((Keep.refl h48 []).ext X57)
    have A71 := (A52.keep K70 nin0)
    refine go_old (fun O72 => ?_)
    refine callIW0 rfl (cells' := 7) (slots' := 17) (Wd := 1) (argsL := [(.ref a49)]) (rest := [(.ref a55)]) (payW_of (a0 := a0) (c_new0 l G a55 a49 k53 h54 O72 E58 (Nat.le_trans O0.2.1 (Nat.le_trans K67.1 (Nat.le_of_eq g56))) F68 F69 A71) (wk G 10 rfl) (wk G 7 rfl) (by decide) (by decide) (ew1 G)) rfl (wk G 8 rfl) (wk G 9 rfl) (wk G 10 rfl) (by decide) pd4 rfl rfl (by rw [hml]; rfl) (nb rfl) rfl rfl (by decide) (by decide) (allS (Nat.le_trans O0.2.1 (Nat.le_trans K67.1 (Nat.le_of_eq g56))) all0) (D at_169) (k_n 172 rfl ?_)
    rintro  h73 f75 K74
    refine go_astore 174 (ls' := #[vi x0, vi x1, vi x2, vi 0, vr a2, vr a49, vr a55, un, un, un, un, un, un]) (D at_172) rfl rfl rfl ?_
    refine go_aload 176 (D at_174) rfl rfl rfl ?_
    refine go_old (fun O76 => ?_)
    refine callSW0 rfl (cells' := 7) (slots' := 17) (Wd := 0) (argsL := [(.ref a55)]) (rest := []) (payW_of (a0 := a0) (c_unq0 l G a55 h73 O76 f75) (wk G 29 rfl) (wk G 28 rfl) (by decide) (by decide) (ew1 G)) (wk G 26 rfl) (wk G 27 rfl) (wk G 28 rfl) (wk G 29 rfl) (by decide) pd14 rfl rfl (by rw [hml]; rfl) (nb rfl) rfl rfl (by decide) (by decide) all0 (D at_176) (k_v 179 rfl ?_)
    rintro _ h77 rfl K78
    refine go_astore 181 (ls' := #[vi x0, vi x1, vi x2, vi 0, vr a2, vr a49, vr a55, vr a55, un, un, un, un, un]) (D at_179) rfl rfl rfl ?_
    refine go_iconst 182 (v := (-1)) (D at_181) rfl rfl ?_
    refine go_istore 184 (ls' := #[vi x0, vi x1, vi x2, vi 0, vr a2, vr a49, vr a55, vr a55, vi (-1 : Int32), un, un, un, un]) (D at_182) rfl rfl ?_
    refine go_iload_n 185 (D at_184) rfl rfl ?_
    refine go_iconst 186 (v := 4) (D at_185) rfl rfl ?_
    refine go_icT 201 (D at_186) (by decide) rfl (by decide) ?_
    refine go_iload_n 202 (D at_201) rfl rfl ?_
    refine go_iconst 203 (v := 3) (D at_202) rfl rfl ?_
    refine go_icT 218 (D at_203) (by decide) rfl (by decide) ?_
    refine go_iload_n 219 (D at_218) rfl rfl ?_
    refine go_iconst 220 (v := 2) (D at_219) rfl rfl ?_
    refine go_icT 235 (D at_220) (by decide) rfl (by decide) ?_
    refine go_iload_n 236 (D at_235) rfl rfl ?_
    refine go_iconst 237 (v := 1) (D at_236) rfl rfl ?_
    refine go_icT 252 (D at_237) (by decide) rfl (by decide) ?_
    refine go_iload_n 253 (D at_252) rfl rfl ?_
    refine go_ifT 268 (D at_253) (by decide) rfl (by decide) ?_
    refine go_iload 270 (D at_268) rfl rfl ?_
    refine go_iconst 271 (v := 1) (D at_270) rfl rfl ?_
    refine go_iadd 272 (z := (0 : Int32)) (D at_271) rfl (by decide) ?_
    refine go_istore 274 (ls' := #[vi x0, vi x1, vi x2, vi 0, vr a2, vr a49, vr a55, vr a55, vi (-1 : Int32), vi 0, un, un, un]) (D at_272) rfl rfl ?_
    refine go_iload_n 275 (D at_274) rfl rfl ?_
    refine go_iload 277 (D at_275) rfl rfl ?_
    refine go_isub 278 (z := (0 : Int32)) (D at_277) rfl (by decide) ?_
    refine go_istore 280 (ls' := #[vi x0, vi x1, vi x2, vi 0, vr a2, vr a49, vr a55, vr a55, vi (-1 : Int32), vi 0, vi 0, un, un]) (D at_278) rfl rfl ?_
    refine go_iload 282 (D at_280) rfl rfl ?_
    refine go_newP 284 (cells' := 8) (slots' := 17) (cap := 0) (vs := []) (ty := .char) (dv := .int 0) (wk G 0 rfl) rfl rfl (D at_282) rfl (by decide) rfl (by decide) rfl rfl rfl (by decide) (by decide) (fun h79 a80 k84 g81 X82 A83 => ?_)
    refine go_astore 286 (ls' := #[vi x0, vi x1, vi x2, vi 0, vr a2, vr a49, vr a55, vr a55, vi (-1 : Int32), vi 0, vi 0, vr a80, un]) (D at_284) rfl rfl rfl ?_
    refine go_iload 288 (D at_286) rfl rfl ?_
    refine go_ifT 300 (D at_288) (by decide) rfl (by decide) ?_
    refine go_iload 302 (D at_300) rfl rfl ?_
    refine go_iconst 303 (v := 1) (D at_302) rfl rfl ?_
    refine go_icT 317 (D at_303) (by decide) rfl (by decide) ?_
    refine go_iload 319 (D at_317) rfl rfl ?_
    refine go_iconst 320 (v := 2) (D at_319) rfl rfl ?_
    refine go_icT 334 (D at_320) (by decide) rfl (by decide) ?_
    refine go_iload 336 (D at_334) rfl rfl ?_
    refine go_iconst 337 (v := 3) (D at_336) rfl rfl ?_
    refine go_icT 351 (D at_337) (by decide) rfl (by decide) ?_
    refine go_iload 353 (D at_351) rfl rfl ?_
    refine go_iconst 354 (v := 4) (D at_353) rfl rfl ?_
    refine go_icT 368 (D at_354) (by decide) rfl (by decide) ?_
    refine go_newO 371 (cells' := 9) (slots' := 21) (wk G 5 rfl) (wk G 6 rfl) (wk G 7 rfl) (D at_368) rfl rfl rfl (by decide) (by decide) (fun h85 a86 g87 X88 E89 D90 U91 => ?_)
    refine go_dup 372 (D at_371) rfl rfl ?_
    refine go_aload 374 (D at_372) rfl rfl rfl ?_
    have K92 : Keep h0 h54 [] := (K67.ext X57)
    have K93 : Keep h0 h73 [] := (K92.trans K74 (allS (Or.inr (Nat.le_trans K67.1 (Nat.le_of_eq g56))) all0))
    have K94 : Keep h0 h77 [] := (K93.trans K78 all0)
    have K95 : Keep h0 h79 [] := (K94.ext X82)
    have F96 := D90 (Or.inr (wk G 20 rfl)) (ty := (.array .byte)) (by decide)
    have F97 := D90 (Or.inr (wk G 21 rfl)) (ty := .byte) (by decide)
    have K98 : Keep h79 h85 [] := ((Keep.refl h79 []).ext X88)
    have A99 := (A83.keep K98 nin0)
    refine go_old (fun O100 => ?_)
    refine callIW0 rfl (cells' := 13) (slots' := 29) (Wd := 1) (argsL := [(.ref a80)]) (rest := [(.ref a86)]) (payW_of (a0 := a0) (c_new0 l G a86 a80 k84 h85 O100 E89 (Nat.le_trans O0.2.1 (Nat.le_trans K95.1 (Nat.le_of_eq g87))) F96 F97 A99) (wk G 10 rfl) (wk G 7 rfl) (by decide) (by decide) (ew1 G)) rfl (wk G 8 rfl) (wk G 9 rfl) (wk G 10 rfl) (by decide) pd4 rfl rfl (by rw [hml]; rfl) (nb rfl) rfl rfl (by decide) (by decide) (allS (Nat.le_trans O0.2.1 (Nat.le_trans K95.1 (Nat.le_of_eq g87))) all0) (D at_374) (k_n 377 rfl ?_)
    rintro  h101 f103 K102
    refine go_astore 379 (ls' := #[vi x0, vi x1, vi x2, vi 0, vr a2, vr a49, vr a55, vr a55, vi (-1 : Int32), vi 0, vi 0, vr a80, vr a86]) (D at_377) rfl rfl rfl ?_
    refine go_aload 381 (D at_379) rfl rfl rfl ?_
    refine go_nullF 384 (D at_381) rfl ?_
    refine go_aload 386 (D at_384) rfl rfl rfl ?_
    refine go_aload 388 (D at_386) rfl rfl rfl ?_
    have K104 : Keep h73 h77 [] := ((Keep.refl h73 []).trans K78 all0)
    have K105 : Keep h73 h79 [] := (K104.ext X82)
    have K106 : Keep h73 h85 [] := (K105.ext X88)
    have K107 : Keep h73 h101 [] := (K106.trans K102 (allS (Or.inr (Nat.le_trans K105.1 (Nat.le_of_eq g87))) all0))
    have S108 := (f75.keep K107)
    refine go_old (fun O109 => ?_)
    have E110 := (f75.exa.keep K107)
    refine callV0 (cells' := 13) (slots' := 29) (Wd := 0) (argsL := [(.ref a86)]) (rest := []) (pay_eq G O109 S108 f103 (by decide) (by decide)) E110 (wk G 88 rfl) (wk G 89 rfl) (wk G 91 rfl) (wk G 91 rfl) (wk G 90 rfl) (by decide) pd15 rfl rfl (by rw [hml]; rfl) (nb rfl) rfl rfl (by decide) (by decide) all0 (fun _ _ => sf0) (D at_388) (k_v 391 rfl ?_)
    rintro _ _ (⟨rfl, q111, rfl⟩ | ⟨rfl, q111, rfl⟩) -
    rotate_left 1
    · exact absurd rfl q111
    refine go_ifF 394 (D at_391) rfl (by decide) ?_
    refine go_iconst 395 (v := 1) (D at_394) rfl rfl ?_
    refine go_goto 399 (D at_395) (by decide) rfl ?_
    have K112 : Keep h0 h85 [] := (K95.ext X88)
    have K113 : Keep h0 h101 [] := (K112.trans K102 (allS (Or.inr (Nat.le_trans K95.1 (Nat.le_of_eq g87))) all0))
    refine go_ireturn hret hlk rfl (by simp) (D at_399) (by decide) (by decide) ⟨_, rfl, rfl⟩ K113
  · rw [q47]
    refine go_iload_n 95 (D at_94) rfl rfl ?_
    refine go_newP 97 (cells' := 2) (slots' := 6) (cap := 1) (vs := [(.int 0)]) (ty := .char) (dv := .int 0) (wk G 0 rfl) rfl rfl (D at_95) rfl (by decide) rfl (by decide) rfl rfl rfl (by decide) (by decide) (fun h114 a115 k119 g116 X117 A118 => ?_)
    refine go_astore 99 (ls' := #[vi x0, vi x1, vi x2, vi 1, vr a2, vr a115, un, un, un, un, un, un, un]) (D at_97) rfl rfl rfl ?_
    refine go_iload_n 100 (D at_99) rfl rfl ?_
    refine go_ifF 103 (D at_100) rfl (by decide) ?_
    refine go_aload 105 (D at_103) rfl rfl rfl ?_
    refine go_iconst 106 (v := 0) (D at_105) rfl rfl ?_
    refine go_aload 108 (D at_106) rfl rfl rfl ?_
    refine go_iconst 109 (v := 0) (D at_108) rfl rfl ?_
    have K120 : Keep h44 h114 [] := ((Keep.refl h44 []).ext X117)
    have A121 := (A46.keep K120 nin0)
    refine go_caload 110 (i := 0) (v := (.int r10)) A121 (by decide) (by decide) rfl rfl (D at_109) rfl ?_
    have K125 : Keep h0 h1 [] := ((Keep.refl h0 []).ext X4)
    have K126 : Keep h0 h12 [] := (K125.wr W13 (Or.inr (Nat.le_of_eq g3)))
    have K127 : Keep h0 h20 [] := (K126.wr W21 (Or.inr (Nat.le_of_eq g3)))
    have K128 : Keep h0 h28 [] := (K127.wr W29 (Or.inr (Nat.le_of_eq g3)))
    have K129 : Keep h0 h36 [] := (K128.wr W37 (Or.inr (Nat.le_of_eq g3)))
    have K130 : Keep h0 h44 [] := (K129.wr W45 (Or.inr (Nat.le_of_eq g3)))
    refine go_stC 111 (i := 0) (x' := r10) (vs' := [(.int r10)]) A118 (Nat.le_trans O0.2.1 (Nat.le_trans K130.1 (Nat.le_of_eq g116))) (by decide) (by decide) rfl (nb rfl) (i2c_c8 f11) rfl (D at_110) rfl (fun h122 W123 A124 => ?_)
    refine go_iload_n 112 (D at_111) rfl rfl ?_
    refine go_iconst 113 (v := 1) (D at_112) rfl rfl ?_
    refine go_icT 124 (D at_113) (by decide) rfl (by decide) ?_
    refine go_iload_n 125 (D at_124) rfl rfl ?_
    refine go_iconst 126 (v := 2) (D at_125) rfl rfl ?_
    refine go_icT 137 (D at_126) (by decide) rfl (by decide) ?_
    refine go_iload_n 138 (D at_137) rfl rfl ?_
    refine go_iconst 139 (v := 3) (D at_138) rfl rfl ?_
    refine go_icT 150 (D at_139) (by decide) rfl (by decide) ?_
    refine go_iload_n 151 (D at_150) rfl rfl ?_
    refine go_iconst 152 (v := 4) (D at_151) rfl rfl ?_
    refine go_icT 163 (D at_152) (by decide) rfl (by decide) ?_
    refine go_newO 166 (cells' := 3) (slots' := 10) (wk G 5 rfl) (wk G 6 rfl) (wk G 7 rfl) (D at_163) rfl rfl rfl (by decide) (by decide) (fun h131 a132 g133 X134 E135 D136 U137 => ?_)
    refine go_dup 167 (D at_166) rfl rfl ?_
    refine go_aload 169 (D at_167) rfl rfl rfl ?_
    have F138 := D136 (Or.inr (wk G 20 rfl)) (ty := (.array .byte)) (by decide)
    have F139 := D136 (Or.inr (wk G 21 rfl)) (ty := .byte) (by decide)
    have K140 : Keep h122 h131 [] := ((Keep.refl h122 []).ext X134)
    have A141 := (A124.keep K140 nin0)
    refine go_old (fun O142 => ?_)
    have K143 : Keep h0 h114 [] := (K130.ext X117)
    have K144 : Keep h0 h122 [] := (K143.wr W123 (Or.inr (Nat.le_trans K130.1 (Nat.le_of_eq g116))))
    refine callI0 (cells' := 4) (slots' := 11) (Wd := 1) (argsL := [(.ref a115)]) (rest := [(.ref a132)]) (pay_new G O142 (cs := [r10]) (n := 1) (Nat.le_trans O0.2.1 (Nat.le_trans K144.1 (Nat.le_of_eq g133))) E135 F138 F139 A141 rfl rfl (by decide) (by decide) (c8c f11 c8n) (by decide) (by decide)) rfl (wk G 8 rfl) (wk G 9 rfl) (wk G 10 rfl) (by decide) pd4 rfl rfl (by rw [hml]; rfl) (nb rfl) rfl rfl (by decide) (by decide) (allS (Nat.le_trans O0.2.1 (Nat.le_trans K144.1 (Nat.le_of_eq g133))) all0) (fun _ hal => (sfS (safe_null hal E135 F138) sf0)) (D at_169) (k_n 172 rfl ?_)
    rintro h145 S147 K146
    refine go_astore 174 (ls' := #[vi x0, vi x1, vi x2, vi 1, vr a2, vr a115, vr a132, un, un, un, un, un, un]) (D at_172) rfl rfl rfl ?_
    refine go_aload 176 (D at_174) rfl rfl rfl ?_
    refine go_old (fun O148 => ?_)
    refine callSW0 rfl (cells' := 6) (slots' := 15) (Wd := 0) (argsL := [(.ref a132)]) (rest := []) (payW_of (a0 := a0) (c_unq1 l G a132 r10 h145 O148 S147) (wk G 29 rfl) (wk G 28 rfl) (by decide) (by decide) (ew1 G)) (wk G 26 rfl) (wk G 27 rfl) (wk G 28 rfl) (wk G 29 rfl) (by decide) pd14 rfl rfl (by rw [hml]; rfl) (nb rfl) rfl rfl (by decide) (by decide) all0 (D at_176) (k_v 179 rfl ?_)
    rintro _ h149 (⟨r151, rfl, f152, f153⟩ | ⟨rfl, f154⟩) K150
    · refine go_astore 181 (ls' := #[vi x0, vi x1, vi x2, vi 1, vr a2, vr a115, vr a132, vr r151, un, un, un, un, un]) (D at_179) rfl rfl rfl ?_
      refine go_iconst 182 (v := (-1)) (D at_181) rfl rfl ?_
      refine go_istore 184 (ls' := #[vi x0, vi x1, vi x2, vi 1, vr a2, vr a115, vr a132, vr r151, vi (-1 : Int32), un, un, un, un]) (D at_182) rfl rfl ?_
      refine go_iload_n 185 (D at_184) rfl rfl ?_
      refine go_iconst 186 (v := 4) (D at_185) rfl rfl ?_
      refine go_icT 201 (D at_186) (by decide) rfl (by decide) ?_
      refine go_iload_n 202 (D at_201) rfl rfl ?_
      refine go_iconst 203 (v := 3) (D at_202) rfl rfl ?_
      refine go_icT 218 (D at_203) (by decide) rfl (by decide) ?_
      refine go_iload_n 219 (D at_218) rfl rfl ?_
      refine go_iconst 220 (v := 2) (D at_219) rfl rfl ?_
      refine go_icT 235 (D at_220) (by decide) rfl (by decide) ?_
      refine go_iload_n 236 (D at_235) rfl rfl ?_
      refine go_iconst 237 (v := 1) (D at_236) rfl rfl ?_
      refine go_icT 252 (D at_237) (by decide) rfl (by decide) ?_
      refine go_iload_n 253 (D at_252) rfl rfl ?_
      refine go_ifF 256 (D at_253) rfl (by decide) ?_
      refine go_aload 258 (D at_256) rfl rfl rfl ?_
      refine go_iconst 259 (v := 0) (D at_258) rfl rfl ?_
      have K155 : Keep h1 h12 [a2] := ((Keep.refl h1 [a2]).wr W13 (Or.inl (by simp)))
      have K156 : Keep h1 h20 [a2] := (K155.wr W21 (Or.inl (by simp)))
      have K157 : Keep h1 h28 [a2] := (K156.wr W29 (Or.inl (by simp)))
      have K158 : Keep h1 h36 [a2] := (K157.wr W37 (Or.inl (by simp)))
      have K159 : Keep h1 h44 [a2] := (K158.wr W45 (Or.inl (by simp)))
      have K160 : Keep h1 h12 [a2, a115] := ((Keep.refl h1 [a2, a115]).wr W13 (Or.inl (by simp)))
      have K161 : Keep h1 h20 [a2, a115] := (K160.wr W21 (Or.inl (by simp)))
      have K162 : Keep h1 h28 [a2, a115] := (K161.wr W29 (Or.inl (by simp)))
      have K163 : Keep h1 h36 [a2, a115] := (K162.wr W37 (Or.inl (by simp)))
      have K164 : Keep h1 h44 [a2, a115] := (K163.wr W45 (Or.inl (by simp)))
      have K165 : Keep h1 h114 [a2, a115] := (K164.ext X117)
      have K166 : Keep h1 h122 [a2, a115] := (K165.wr W123 (Or.inl (by simp)))
      have A167 := ((((A121.other W123 (Nat.ne_of_lt (Nat.lt_of_lt_of_le (Nat.lt_of_lt_of_le A5.lt K159.1) (Nat.le_of_eq g116)))).ext X134).keep K146 (ninS (Nat.ne_of_lt (Nat.lt_of_lt_of_le (Nat.lt_of_lt_of_le A5.lt K166.1) (Nat.le_of_eq g133))) nin0)).keep K150 nin0)
      refine go_caload 260 (i := 0) (v := (.int r10)) A167 (by decide) (by decide) rfl rfl (D at_259) rfl ?_
      refine go_bipush 262 (v := 46) (D at_260) rfl rfl ?_
      refine go_icF 265 (D at_262) rfl (XT.ii_ne_f f152) ?_
      refine go_iconst 266 (v := 0) (D at_265) rfl rfl ?_
      refine go_istore 268 (ls' := #[vi x0, vi x1, vi x2, vi 1, vr a2, vr a115, vr a132, vr r151, vi 0, un, un, un, un]) (D at_266) rfl rfl ?_
      refine go_iload 270 (D at_268) rfl rfl ?_
      refine go_iconst 271 (v := 1) (D at_270) rfl rfl ?_
      refine go_iadd 272 (z := (1 : Int32)) (D at_271) rfl (by decide) ?_
      refine go_istore 274 (ls' := #[vi x0, vi x1, vi x2, vi 1, vr a2, vr a115, vr a132, vr r151, vi 0, vi 1, un, un, un]) (D at_272) rfl rfl ?_
      refine go_iload_n 275 (D at_274) rfl rfl ?_
      refine go_iload 277 (D at_275) rfl rfl ?_
      refine go_isub 278 (z := (0 : Int32)) (D at_277) rfl (by decide) ?_
      refine go_istore 280 (ls' := #[vi x0, vi x1, vi x2, vi 1, vr a2, vr a115, vr a132, vr r151, vi 0, vi 1, vi 0, un, un]) (D at_278) rfl rfl ?_
      refine go_iload 282 (D at_280) rfl rfl ?_
      refine go_newP 284 (cells' := 7) (slots' := 15) (cap := 0) (vs := []) (ty := .char) (dv := .int 0) (wk G 0 rfl) rfl rfl (D at_282) rfl (by decide) rfl (by decide) rfl rfl rfl (by decide) (by decide) (fun h168 a169 k173 g170 X171 A172 => ?_)
      refine go_astore 286 (ls' := #[vi x0, vi x1, vi x2, vi 1, vr a2, vr a115, vr a132, vr r151, vi 0, vi 1, vi 0, vr a169, un]) (D at_284) rfl rfl rfl ?_
      refine go_iload 288 (D at_286) rfl rfl ?_
      refine go_ifT 300 (D at_288) (by decide) rfl (by decide) ?_
      refine go_iload 302 (D at_300) rfl rfl ?_
      refine go_iconst 303 (v := 1) (D at_302) rfl rfl ?_
      refine go_icT 317 (D at_303) (by decide) rfl (by decide) ?_
      refine go_iload 319 (D at_317) rfl rfl ?_
      refine go_iconst 320 (v := 2) (D at_319) rfl rfl ?_
      refine go_icT 334 (D at_320) (by decide) rfl (by decide) ?_
      refine go_iload 336 (D at_334) rfl rfl ?_
      refine go_iconst 337 (v := 3) (D at_336) rfl rfl ?_
      refine go_icT 351 (D at_337) (by decide) rfl (by decide) ?_
      refine go_iload 353 (D at_351) rfl rfl ?_
      refine go_iconst 354 (v := 4) (D at_353) rfl rfl ?_
      refine go_icT 368 (D at_354) (by decide) rfl (by decide) ?_
      refine go_newO 371 (cells' := 8) (slots' := 19) (wk G 5 rfl) (wk G 6 rfl) (wk G 7 rfl) (D at_368) rfl rfl rfl (by decide) (by decide) (fun h174 a175 g176 X177 E178 D179 U180 => ?_)
      refine go_dup 372 (D at_371) rfl rfl ?_
      refine go_aload 374 (D at_372) rfl rfl rfl ?_
      have K181 : Keep h0 h131 [] := (K144.ext X134)
      have K182 : Keep h0 h145 [] := (K181.trans K146 (allS (Or.inr (Nat.le_trans K144.1 (Nat.le_of_eq g133))) all0))
      have K183 : Keep h0 h149 [] := (K182.trans K150 all0)
      have K184 : Keep h0 h168 [] := (K183.ext X171)
      have F185 := D179 (Or.inr (wk G 20 rfl)) (ty := (.array .byte)) (by decide)
      have F186 := D179 (Or.inr (wk G 21 rfl)) (ty := .byte) (by decide)
      have K187 : Keep h168 h174 [] := ((Keep.refl h168 []).ext X177)
      have A188 := (A172.keep K187 nin0)
      refine go_old (fun O189 => ?_)
      refine callIW0 rfl (cells' := 12) (slots' := 27) (Wd := 1) (argsL := [(.ref a169)]) (rest := [(.ref a175)]) (payW_of (a0 := a0) (c_new0 l G a175 a169 k173 h174 O189 E178 (Nat.le_trans O0.2.1 (Nat.le_trans K184.1 (Nat.le_of_eq g176))) F185 F186 A188) (wk G 10 rfl) (wk G 7 rfl) (by decide) (by decide) (ew1 G)) rfl (wk G 8 rfl) (wk G 9 rfl) (wk G 10 rfl) (by decide) pd4 rfl rfl (by rw [hml]; rfl) (nb rfl) rfl rfl (by decide) (by decide) (allS (Nat.le_trans O0.2.1 (Nat.le_trans K184.1 (Nat.le_of_eq g176))) all0) (D at_374) (k_n 377 rfl ?_)
      rintro  h190 f192 K191
      refine go_astore 379 (ls' := #[vi x0, vi x1, vi x2, vi 1, vr a2, vr a115, vr a132, vr r151, vi 0, vi 1, vi 0, vr a169, vr a175]) (D at_377) rfl rfl rfl ?_
      refine go_aload 381 (D at_379) rfl rfl rfl ?_
      refine go_nullF 384 (D at_381) rfl ?_
      refine go_aload 386 (D at_384) rfl rfl rfl ?_
      refine go_aload 388 (D at_386) rfl rfl rfl ?_
      have K193 : Keep h149 h168 [] := ((Keep.refl h149 []).ext X171)
      have K194 : Keep h149 h174 [] := (K193.ext X177)
      have K195 : Keep h149 h190 [] := (K194.trans K191 (allS (Or.inr (Nat.le_trans K193.1 (Nat.le_of_eq g176))) all0))
      have S196 := (f153.keep K195)
      refine go_old (fun O197 => ?_)
      have E198 := (f153.exa.keep K195)
      refine callV0 (cells' := 12) (slots' := 27) (Wd := 0) (argsL := [(.ref a175)]) (rest := []) (pay_eq G O197 S196 f192 (by decide) (by decide)) E198 (wk G 88 rfl) (wk G 89 rfl) (wk G 91 rfl) (wk G 91 rfl) (wk G 90 rfl) (by decide) pd15 rfl rfl (by rw [hml]; rfl) (nb rfl) rfl rfl (by decide) (by decide) all0 (fun _ _ => sf0) (D at_388) (k_v 391 rfl ?_)
      rintro _ _ (⟨rfl, q199, rfl⟩ | ⟨rfl, q199, rfl⟩) -
      rotate_left 1
      · exact absurd rfl q199
      refine go_ifF 394 (D at_391) rfl (by decide) ?_
      refine go_iconst 395 (v := 1) (D at_394) rfl rfl ?_
      refine go_goto 399 (D at_395) (by decide) rfl ?_
      have K200 : Keep h0 h174 [] := (K184.ext X177)
      have K201 : Keep h0 h190 [] := (K200.trans K191 (allS (Or.inr (Nat.le_trans K184.1 (Nat.le_of_eq g176))) all0))
      refine go_ireturn hret hlk rfl (by simp) (D at_399) (by decide) (by decide) ⟨_, rfl, rfl⟩ K201
    · refine go_astore 181 (ls' := #[vi x0, vi x1, vi x2, vi 1, vr a2, vr a115, vr a132, vr a132, un, un, un, un, un]) (D at_179) rfl rfl rfl ?_
      refine go_iconst 182 (v := (-1)) (D at_181) rfl rfl ?_
      refine go_istore 184 (ls' := #[vi x0, vi x1, vi x2, vi 1, vr a2, vr a115, vr a132, vr a132, vi (-1 : Int32), un, un, un, un]) (D at_182) rfl rfl ?_
      refine go_iload_n 185 (D at_184) rfl rfl ?_
      refine go_iconst 186 (v := 4) (D at_185) rfl rfl ?_
      refine go_icT 201 (D at_186) (by decide) rfl (by decide) ?_
      refine go_iload_n 202 (D at_201) rfl rfl ?_
      refine go_iconst 203 (v := 3) (D at_202) rfl rfl ?_
      refine go_icT 218 (D at_203) (by decide) rfl (by decide) ?_
      refine go_iload_n 219 (D at_218) rfl rfl ?_
      refine go_iconst 220 (v := 2) (D at_219) rfl rfl ?_
      refine go_icT 235 (D at_220) (by decide) rfl (by decide) ?_
      refine go_iload_n 236 (D at_235) rfl rfl ?_
      refine go_iconst 237 (v := 1) (D at_236) rfl rfl ?_
      refine go_icT 252 (D at_237) (by decide) rfl (by decide) ?_
      refine go_iload_n 253 (D at_252) rfl rfl ?_
      refine go_ifF 256 (D at_253) rfl (by decide) ?_
      refine go_aload 258 (D at_256) rfl rfl rfl ?_
      refine go_iconst 259 (v := 0) (D at_258) rfl rfl ?_
      have K202 : Keep h1 h12 [a2] := ((Keep.refl h1 [a2]).wr W13 (Or.inl (by simp)))
      have K203 : Keep h1 h20 [a2] := (K202.wr W21 (Or.inl (by simp)))
      have K204 : Keep h1 h28 [a2] := (K203.wr W29 (Or.inl (by simp)))
      have K205 : Keep h1 h36 [a2] := (K204.wr W37 (Or.inl (by simp)))
      have K206 : Keep h1 h44 [a2] := (K205.wr W45 (Or.inl (by simp)))
      have K207 : Keep h1 h12 [a2, a115] := ((Keep.refl h1 [a2, a115]).wr W13 (Or.inl (by simp)))
      have K208 : Keep h1 h20 [a2, a115] := (K207.wr W21 (Or.inl (by simp)))
      have K209 : Keep h1 h28 [a2, a115] := (K208.wr W29 (Or.inl (by simp)))
      have K210 : Keep h1 h36 [a2, a115] := (K209.wr W37 (Or.inl (by simp)))
      have K211 : Keep h1 h44 [a2, a115] := (K210.wr W45 (Or.inl (by simp)))
      have K212 : Keep h1 h114 [a2, a115] := (K211.ext X117)
      have K213 : Keep h1 h122 [a2, a115] := (K212.wr W123 (Or.inl (by simp)))
      have A214 := ((((A121.other W123 (Nat.ne_of_lt (Nat.lt_of_lt_of_le (Nat.lt_of_lt_of_le A5.lt K206.1) (Nat.le_of_eq g116)))).ext X134).keep K146 (ninS (Nat.ne_of_lt (Nat.lt_of_lt_of_le (Nat.lt_of_lt_of_le A5.lt K213.1) (Nat.le_of_eq g133))) nin0)).keep K150 nin0)
      refine go_caload 260 (i := 0) (v := (.int r10)) A214 (by decide) (by decide) rfl rfl (D at_259) rfl ?_
      refine go_bipush 262 (v := 46) (D at_260) rfl rfl ?_
      refine go_icT 268 (D at_262) (by decide) rfl (XT.ii_ne_t f154) ?_
      refine go_iload 270 (D at_268) rfl rfl ?_
      refine go_iconst 271 (v := 1) (D at_270) rfl rfl ?_
      refine go_iadd 272 (z := (0 : Int32)) (D at_271) rfl (by decide) ?_
      refine go_istore 274 (ls' := #[vi x0, vi x1, vi x2, vi 1, vr a2, vr a115, vr a132, vr a132, vi (-1 : Int32), vi 0, un, un, un]) (D at_272) rfl rfl ?_
      refine go_iload_n 275 (D at_274) rfl rfl ?_
      refine go_iload 277 (D at_275) rfl rfl ?_
      refine go_isub 278 (z := (1 : Int32)) (D at_277) rfl (by decide) ?_
      refine go_istore 280 (ls' := #[vi x0, vi x1, vi x2, vi 1, vr a2, vr a115, vr a132, vr a132, vi (-1 : Int32), vi 0, vi 1, un, un]) (D at_278) rfl rfl ?_
      refine go_iload 282 (D at_280) rfl rfl ?_
      refine go_newP 284 (cells' := 7) (slots' := 16) (cap := 1) (vs := [(.int 0)]) (ty := .char) (dv := .int 0) (wk G 0 rfl) rfl rfl (D at_282) rfl (by decide) rfl (by decide) rfl rfl rfl (by decide) (by decide) (fun h215 a216 k220 g217 X218 A219 => ?_)
      refine go_astore 286 (ls' := #[vi x0, vi x1, vi x2, vi 1, vr a2, vr a115, vr a132, vr a132, vi (-1 : Int32), vi 0, vi 1, vr a216, un]) (D at_284) rfl rfl rfl ?_
      refine go_iload 288 (D at_286) rfl rfl ?_
      refine go_ifF 291 (D at_288) rfl (by decide) ?_
      refine go_aload 293 (D at_291) rfl rfl rfl ?_
      refine go_iconst 294 (v := 0) (D at_293) rfl rfl ?_
      refine go_aload 296 (D at_294) rfl rfl rfl ?_
      refine go_iload 298 (D at_296) rfl rfl ?_
      have K221 : Keep h149 h215 [] := ((Keep.refl h149 []).ext X218)
      have A222 := (A214.keep K221 nin0)
      refine go_caload 299 (i := 0) (v := (.int r10)) A222 (by decide) (by decide) rfl rfl (D at_298) rfl ?_
      have K226 : Keep h0 h131 [] := (K144.ext X134)
      have K227 : Keep h0 h145 [] := (K226.trans K146 (allS (Or.inr (Nat.le_trans K144.1 (Nat.le_of_eq g133))) all0))
      have K228 : Keep h0 h149 [] := (K227.trans K150 all0)
      refine go_stC 300 (i := 0) (x' := r10) (vs' := [(.int r10)]) A219 (Nat.le_trans O0.2.1 (Nat.le_trans K228.1 (Nat.le_of_eq g217))) (by decide) (by decide) rfl (nb rfl) (i2c_c8 f11) rfl (D at_299) rfl (fun h223 W224 A225 => ?_)
      refine go_iload 302 (D at_300) rfl rfl ?_
      refine go_iconst 303 (v := 1) (D at_302) rfl rfl ?_
      refine go_icT 317 (D at_303) (by decide) rfl (by decide) ?_
      refine go_iload 319 (D at_317) rfl rfl ?_
      refine go_iconst 320 (v := 2) (D at_319) rfl rfl ?_
      refine go_icT 334 (D at_320) (by decide) rfl (by decide) ?_
      refine go_iload 336 (D at_334) rfl rfl ?_
      refine go_iconst 337 (v := 3) (D at_336) rfl rfl ?_
      refine go_icT 351 (D at_337) (by decide) rfl (by decide) ?_
      refine go_iload 353 (D at_351) rfl rfl ?_
      refine go_iconst 354 (v := 4) (D at_353) rfl rfl ?_
      refine go_icT 368 (D at_354) (by decide) rfl (by decide) ?_
      refine go_newO 371 (cells' := 8) (slots' := 20) (wk G 5 rfl) (wk G 6 rfl) (wk G 7 rfl) (D at_368) rfl rfl rfl (by decide) (by decide) (fun h229 a230 g231 X232 E233 D234 U235 => ?_)
      refine go_dup 372 (D at_371) rfl rfl ?_
      refine go_aload 374 (D at_372) rfl rfl rfl ?_
      have F236 := D234 (Or.inr (wk G 20 rfl)) (ty := (.array .byte)) (by decide)
      have F237 := D234 (Or.inr (wk G 21 rfl)) (ty := .byte) (by decide)
      have K238 : Keep h223 h229 [] := ((Keep.refl h223 []).ext X232)
      have A239 := (A225.keep K238 nin0)
      refine go_old (fun O240 => ?_)
      have K241 : Keep h0 h215 [] := (K228.ext X218)
      have K242 : Keep h0 h223 [] := (K241.wr W224 (Or.inr (Nat.le_trans K228.1 (Nat.le_of_eq g217))))
      refine callI0 (cells' := 9) (slots' := 21) (Wd := 1) (argsL := [(.ref a216)]) (rest := [(.ref a230)]) (pay_new G O240 (cs := [r10]) (n := 1) (Nat.le_trans O0.2.1 (Nat.le_trans K242.1 (Nat.le_of_eq g231))) E233 F236 F237 A239 rfl rfl (by decide) (by decide) (c8c f11 c8n) (by decide) (by decide)) rfl (wk G 8 rfl) (wk G 9 rfl) (wk G 10 rfl) (by decide) pd4 rfl rfl (by rw [hml]; rfl) (nb rfl) rfl rfl (by decide) (by decide) (allS (Nat.le_trans O0.2.1 (Nat.le_trans K242.1 (Nat.le_of_eq g231))) all0) (fun _ hal => (sfS (safe_null hal E233 F236) sf0)) (D at_374) (k_n 377 rfl ?_)
      rintro h243 S245 K244
      refine go_astore 379 (ls' := #[vi x0, vi x1, vi x2, vi 1, vr a2, vr a115, vr a132, vr a132, vi (-1 : Int32), vi 0, vi 1, vr a216, vr a230]) (D at_377) rfl rfl rfl ?_
      refine go_aload 381 (D at_379) rfl rfl rfl ?_
      refine go_nullF 384 (D at_381) rfl ?_
      refine go_aload 386 (D at_384) rfl rfl rfl ?_
      refine go_aload 388 (D at_386) rfl rfl rfl ?_
      have K246 : Keep h145 h149 [] := ((Keep.refl h145 []).trans K150 all0)
      have K247 : Keep h145 h215 [] := (K246.ext X218)
      have K248 : Keep h145 h223 [] := (K247.wr W224 (Or.inr (Nat.le_trans K246.1 (Nat.le_of_eq g217))))
      have K249 : Keep h145 h229 [] := (K248.ext X232)
      have K250 : Keep h145 h243 [] := (K249.trans K244 (allS (Or.inr (Nat.le_trans K248.1 (Nat.le_of_eq g231))) all0))
      have S251 := (S147.keep K250)
      refine go_old (fun O252 => ?_)
      have E253 := ((((((E135.keep K146).keep K150).ext X218).wr W224).ext X232).keep K244)
      refine callV0 (cells' := 9) (slots' := 21) (Wd := 0) (argsL := [(.ref a230)]) (rest := []) (pay_eq G O252 S251 S245 (by decide) (by decide)) E253 (wk G 88 rfl) (wk G 89 rfl) (wk G 91 rfl) (wk G 91 rfl) (wk G 90 rfl) (by decide) pd15 rfl rfl (by rw [hml]; rfl) (nb rfl) rfl rfl (by decide) (by decide) all0 (fun _ _ => sf0) (D at_388) (k_v 391 rfl ?_)
      rintro _ _ (⟨rfl, q254, rfl⟩ | ⟨rfl, q254, rfl⟩) -
      rotate_left 1
      · exact absurd rfl q254
      refine go_ifF 394 (D at_391) rfl (by decide) ?_
      refine go_iconst 395 (v := 1) (D at_394) rfl rfl ?_
      refine go_goto 399 (D at_395) (by decide) rfl ?_
      have K255 : Keep h0 h229 [] := (K242.ext X232)
      have K256 : Keep h0 h243 [] := (K255.trans K244 (allS (Or.inr (Nat.le_trans K242.1 (Nat.le_of_eq g231))) all0))
      refine go_ireturn hret hlk rfl (by simp) (D at_399) (by decide) (by decide) ⟨_, rfl, rfl⟩ K256
  · rw [q47]
    refine go_iload_n 95 (D at_94) rfl rfl ?_
    refine go_newP 97 (cells' := 2) (slots' := 7) (cap := 2) (vs := [(.int 0), (.int 0)]) (ty := .char) (dv := .int 0) (wk G 0 rfl) rfl rfl (D at_95) rfl (by decide) rfl (by decide) rfl rfl rfl (by decide) (by decide) (fun h257 a258 k262 g259 X260 A261 => ?_)
    refine go_astore 99 (ls' := #[vi x0, vi x1, vi x2, vi 2, vr a2, vr a258, un, un, un, un, un, un, un]) (D at_97) rfl rfl rfl ?_
    refine go_iload_n 100 (D at_99) rfl rfl ?_
    refine go_ifF 103 (D at_100) rfl (by decide) ?_
    refine go_aload 105 (D at_103) rfl rfl rfl ?_
    refine go_iconst 106 (v := 0) (D at_105) rfl rfl ?_
    refine go_aload 108 (D at_106) rfl rfl rfl ?_
    refine go_iconst 109 (v := 0) (D at_108) rfl rfl ?_
    have K263 : Keep h44 h257 [] := ((Keep.refl h44 []).ext X260)
    have A264 := (A46.keep K263 nin0)
    refine go_caload 110 (i := 0) (v := (.int r10)) A264 (by decide) (by decide) rfl rfl (D at_109) rfl ?_
    have K268 : Keep h0 h1 [] := ((Keep.refl h0 []).ext X4)
    have K269 : Keep h0 h12 [] := (K268.wr W13 (Or.inr (Nat.le_of_eq g3)))
    have K270 : Keep h0 h20 [] := (K269.wr W21 (Or.inr (Nat.le_of_eq g3)))
    have K271 : Keep h0 h28 [] := (K270.wr W29 (Or.inr (Nat.le_of_eq g3)))
    have K272 : Keep h0 h36 [] := (K271.wr W37 (Or.inr (Nat.le_of_eq g3)))
    have K273 : Keep h0 h44 [] := (K272.wr W45 (Or.inr (Nat.le_of_eq g3)))
    refine go_stC 111 (i := 0) (x' := r10) (vs' := [(.int r10), (.int 0)]) A261 (Nat.le_trans O0.2.1 (Nat.le_trans K273.1 (Nat.le_of_eq g259))) (by decide) (by decide) rfl (nb rfl) (i2c_c8 f11) rfl (D at_110) rfl (fun h265 W266 A267 => ?_)
    refine go_iload_n 112 (D at_111) rfl rfl ?_
    refine go_iconst 113 (v := 1) (D at_112) rfl rfl ?_
    refine go_icF 116 (D at_113) rfl (by decide) ?_
    refine go_aload 118 (D at_116) rfl rfl rfl ?_
    refine go_iconst 119 (v := 1) (D at_118) rfl rfl ?_
    refine go_aload 121 (D at_119) rfl rfl rfl ?_
    refine go_iconst 122 (v := 1) (D at_121) rfl rfl ?_
    have K274 : Keep h1 h12 [a2] := ((Keep.refl h1 [a2]).wr W13 (Or.inl (by simp)))
    have K275 : Keep h1 h20 [a2] := (K274.wr W21 (Or.inl (by simp)))
    have K276 : Keep h1 h28 [a2] := (K275.wr W29 (Or.inl (by simp)))
    have K277 : Keep h1 h36 [a2] := (K276.wr W37 (Or.inl (by simp)))
    have K278 : Keep h1 h44 [a2] := (K277.wr W45 (Or.inl (by simp)))
    have A279 := (A264.other W266 (Nat.ne_of_lt (Nat.lt_of_lt_of_le (Nat.lt_of_lt_of_le A5.lt K278.1) (Nat.le_of_eq g259))))
    refine go_caload 123 (i := 1) (v := (.int r18)) A279 (by decide) (by decide) rfl rfl (D at_122) rfl ?_
    refine go_stC 124 (i := 1) (x' := r18) (vs' := [(.int r10), (.int r18)]) A267 (Nat.le_trans O0.2.1 (Nat.le_trans K273.1 (Nat.le_of_eq g259))) (by decide) (by decide) rfl (nb rfl) (i2c_c8 f19) rfl (D at_123) rfl (fun h280 W281 A282 => ?_)
    refine go_iload_n 125 (D at_124) rfl rfl ?_
    refine go_iconst 126 (v := 2) (D at_125) rfl rfl ?_
    refine go_icT 137 (D at_126) (by decide) rfl (by decide) ?_
    refine go_iload_n 138 (D at_137) rfl rfl ?_
    refine go_iconst 139 (v := 3) (D at_138) rfl rfl ?_
    refine go_icT 150 (D at_139) (by decide) rfl (by decide) ?_
    refine go_iload_n 151 (D at_150) rfl rfl ?_
    refine go_iconst 152 (v := 4) (D at_151) rfl rfl ?_
    refine go_icT 163 (D at_152) (by decide) rfl (by decide) ?_
    refine go_newO 166 (cells' := 3) (slots' := 11) (wk G 5 rfl) (wk G 6 rfl) (wk G 7 rfl) (D at_163) rfl rfl rfl (by decide) (by decide) (fun h283 a284 g285 X286 E287 D288 U289 => ?_)
    refine go_dup 167 (D at_166) rfl rfl ?_
    refine go_aload 169 (D at_167) rfl rfl rfl ?_
    have F290 := D288 (Or.inr (wk G 20 rfl)) (ty := (.array .byte)) (by decide)
    have F291 := D288 (Or.inr (wk G 21 rfl)) (ty := .byte) (by decide)
    have K292 : Keep h280 h283 [] := ((Keep.refl h280 []).ext X286)
    have A293 := (A282.keep K292 nin0)
    refine go_old (fun O294 => ?_)
    have K295 : Keep h0 h257 [] := (K273.ext X260)
    have K296 : Keep h0 h265 [] := (K295.wr W266 (Or.inr (Nat.le_trans K273.1 (Nat.le_of_eq g259))))
    have K297 : Keep h0 h280 [] := (K296.wr W281 (Or.inr (Nat.le_trans K273.1 (Nat.le_of_eq g259))))
    refine callI0 (cells' := 4) (slots' := 13) (Wd := 1) (argsL := [(.ref a258)]) (rest := [(.ref a284)]) (pay_new G O294 (cs := [r10, r18]) (n := 2) (Nat.le_trans O0.2.1 (Nat.le_trans K297.1 (Nat.le_of_eq g285))) E287 F290 F291 A293 rfl rfl (by decide) (by decide) (c8c f11 (c8c f19 c8n)) (by decide) (by decide)) rfl (wk G 8 rfl) (wk G 9 rfl) (wk G 10 rfl) (by decide) pd4 rfl rfl (by rw [hml]; rfl) (nb rfl) rfl rfl (by decide) (by decide) (allS (Nat.le_trans O0.2.1 (Nat.le_trans K297.1 (Nat.le_of_eq g285))) all0) (fun _ hal => (sfS (safe_null hal E287 F290) sf0)) (D at_169) (k_n 172 rfl ?_)
    rintro h298 S300 K299
    refine go_astore 174 (ls' := #[vi x0, vi x1, vi x2, vi 2, vr a2, vr a258, vr a284, un, un, un, un, un, un]) (D at_172) rfl rfl rfl ?_
    refine go_aload 176 (D at_174) rfl rfl rfl ?_
    refine go_old (fun O301 => ?_)
    refine callSW0 rfl (cells' := 6) (slots' := 18) (Wd := 0) (argsL := [(.ref a284)]) (rest := []) (payW_of (a0 := a0) (c_unq2 l G a284 r10 r18 h298 O301 S300) (wk G 29 rfl) (wk G 28 rfl) (by decide) (by decide) (ew1 G)) (wk G 26 rfl) (wk G 27 rfl) (wk G 28 rfl) (wk G 29 rfl) (by decide) pd14 rfl rfl (by rw [hml]; rfl) (nb rfl) rfl rfl (by decide) (by decide) all0 (D at_176) (k_v 179 rfl ?_)
    rintro _ h302 (⟨r304, rfl, f305, f306⟩ | ⟨r307, rfl, f308, f309, f310⟩ | ⟨rfl, f311, f312⟩) K303
    · refine go_astore 181 (ls' := #[vi x0, vi x1, vi x2, vi 2, vr a2, vr a258, vr a284, vr r304, un, un, un, un, un]) (D at_179) rfl rfl rfl ?_
      refine go_iconst 182 (v := (-1)) (D at_181) rfl rfl ?_
      refine go_istore 184 (ls' := #[vi x0, vi x1, vi x2, vi 2, vr a2, vr a258, vr a284, vr r304, vi (-1 : Int32), un, un, un, un]) (D at_182) rfl rfl ?_
      refine go_iload_n 185 (D at_184) rfl rfl ?_
      refine go_iconst 186 (v := 4) (D at_185) rfl rfl ?_
      refine go_icT 201 (D at_186) (by decide) rfl (by decide) ?_
      refine go_iload_n 202 (D at_201) rfl rfl ?_
      refine go_iconst 203 (v := 3) (D at_202) rfl rfl ?_
      refine go_icT 218 (D at_203) (by decide) rfl (by decide) ?_
      refine go_iload_n 219 (D at_218) rfl rfl ?_
      refine go_iconst 220 (v := 2) (D at_219) rfl rfl ?_
      refine go_icT 235 (D at_220) (by decide) rfl (by decide) ?_
      refine go_cut (α := Int32) (P := fun q => True) (gf := fun q => mkF m_ 252 #[.val (.int x0), .val (.int x1), .val (.int x2), .val (.int 2), .val (.ref a2), .val (.ref a258), .val (.ref a284), .val (.ref r304), .val (.int q), .unset, .unset, .unset, .unset] []) ?_ ?_
      · rintro d313 -
        try dsimp only
        refine go_iload_n 253 (D at_252) rfl rfl ?_
        refine go_ifF 256 (D at_253) rfl (by decide) ?_
        refine go_aload 258 (D at_256) rfl rfl rfl ?_
        refine go_iconst 259 (v := 0) (D at_258) rfl rfl ?_
        have K315 : Keep h1 h12 [a2, a258] := ((Keep.refl h1 [a2, a258]).wr W13 (Or.inl (by simp)))
        have K316 : Keep h1 h20 [a2, a258] := (K315.wr W21 (Or.inl (by simp)))
        have K317 : Keep h1 h28 [a2, a258] := (K316.wr W29 (Or.inl (by simp)))
        have K318 : Keep h1 h36 [a2, a258] := (K317.wr W37 (Or.inl (by simp)))
        have K319 : Keep h1 h44 [a2, a258] := (K318.wr W45 (Or.inl (by simp)))
        have K320 : Keep h1 h257 [a2, a258] := (K319.ext X260)
        have K321 : Keep h1 h265 [a2, a258] := (K320.wr W266 (Or.inl (by simp)))
        have K322 : Keep h1 h280 [a2, a258] := (K321.wr W281 (Or.inl (by simp)))
        have A323 := ((((A279.other W281 (Nat.ne_of_lt (Nat.lt_of_lt_of_le (Nat.lt_of_lt_of_le A5.lt K278.1) (Nat.le_of_eq g259)))).ext X286).keep K299 (ninS (Nat.ne_of_lt (Nat.lt_of_lt_of_le (Nat.lt_of_lt_of_le A5.lt K322.1) (Nat.le_of_eq g285))) nin0)).keep K303 nin0)
        refine go_caload 260 (i := 0) (v := (.int r10)) A323 (by decide) (by decide) rfl rfl (D at_259) rfl ?_
        refine go_bipush 262 (v := 46) (D at_260) rfl rfl ?_
        refine go_icF 265 (D at_262) rfl (XT.ii_ne_f f305) ?_
        refine go_iconst 266 (v := 0) (D at_265) rfl rfl ?_
        refine go_istore 268 (ls' := #[vi x0, vi x1, vi x2, vi 2, vr a2, vr a258, vr a284, vr r304, vi 0, un, un, un, un]) (D at_266) rfl rfl ?_
        refine go_iload 270 (D at_268) rfl rfl ?_
        refine go_iconst 271 (v := 1) (D at_270) rfl rfl ?_
        refine go_iadd 272 (z := (1 : Int32)) (D at_271) rfl (by decide) ?_
        refine go_istore 274 (ls' := #[vi x0, vi x1, vi x2, vi 2, vr a2, vr a258, vr a284, vr r304, vi 0, vi 1, un, un, un]) (D at_272) rfl rfl ?_
        refine go_iload_n 275 (D at_274) rfl rfl ?_
        refine go_iload 277 (D at_275) rfl rfl ?_
        refine go_isub 278 (z := (1 : Int32)) (D at_277) rfl (by decide) ?_
        refine go_istore 280 (ls' := #[vi x0, vi x1, vi x2, vi 2, vr a2, vr a258, vr a284, vr r304, vi 0, vi 1, vi 1, un, un]) (D at_278) rfl rfl ?_
        refine go_iload 282 (D at_280) rfl rfl ?_
        refine go_newP 284 (cells' := 7) (slots' := 19) (cap := 1) (vs := [(.int 0)]) (ty := .char) (dv := .int 0) (wk G 0 rfl) rfl rfl (D at_282) rfl (by decide) rfl (by decide) rfl rfl rfl (by decide) (by decide) (fun h324 a325 k329 g326 X327 A328 => ?_)
        refine go_astore 286 (ls' := #[vi x0, vi x1, vi x2, vi 2, vr a2, vr a258, vr a284, vr r304, vi 0, vi 1, vi 1, vr a325, un]) (D at_284) rfl rfl rfl ?_
        refine go_iload 288 (D at_286) rfl rfl ?_
        refine go_ifF 291 (D at_288) rfl (by decide) ?_
        refine go_aload 293 (D at_291) rfl rfl rfl ?_
        refine go_iconst 294 (v := 0) (D at_293) rfl rfl ?_
        refine go_aload 296 (D at_294) rfl rfl rfl ?_
        refine go_iload 298 (D at_296) rfl rfl ?_
        have K330 : Keep h302 h324 [] := ((Keep.refl h302 []).ext X327)
        have A331 := (A323.keep K330 nin0)
        refine go_caload 299 (i := 1) (v := (.int r18)) A331 (by decide) (by decide) rfl rfl (D at_298) rfl ?_
        have K335 : Keep h0 h283 [] := (K297.ext X286)
        have K336 : Keep h0 h298 [] := (K335.trans K299 (allS (Or.inr (Nat.le_trans K297.1 (Nat.le_of_eq g285))) all0))
        have K337 : Keep h0 h302 [] := (K336.trans K303 all0)
        refine go_stC 300 (i := 0) (x' := r18) (vs' := [(.int r18)]) A328 (Nat.le_trans O0.2.1 (Nat.le_trans K337.1 (Nat.le_of_eq g326))) (by decide) (by decide) rfl (nb rfl) (i2c_c8 f19) rfl (D at_299) rfl (fun h332 W333 A334 => ?_)
        refine go_iload 302 (D at_300) rfl rfl ?_
        refine go_iconst 303 (v := 1) (D at_302) rfl rfl ?_
        refine go_icT 317 (D at_303) (by decide) rfl (by decide) ?_
        refine go_iload 319 (D at_317) rfl rfl ?_
        refine go_iconst 320 (v := 2) (D at_319) rfl rfl ?_
        refine go_icT 334 (D at_320) (by decide) rfl (by decide) ?_
        refine go_iload 336 (D at_334) rfl rfl ?_
        refine go_iconst 337 (v := 3) (D at_336) rfl rfl ?_
        refine go_icT 351 (D at_337) (by decide) rfl (by decide) ?_
        refine go_iload 353 (D at_351) rfl rfl ?_
        refine go_iconst 354 (v := 4) (D at_353) rfl rfl ?_
        refine go_icT 368 (D at_354) (by decide) rfl (by decide) ?_
        refine go_newO 371 (cells' := 8) (slots' := 23) (wk G 5 rfl) (wk G 6 rfl) (wk G 7 rfl) (D at_368) rfl rfl rfl (by decide) (by decide) (fun h338 a339 g340 X341 E342 D343 U344 => ?_)
        refine go_dup 372 (D at_371) rfl rfl ?_
        refine go_aload 374 (D at_372) rfl rfl rfl ?_
        have F345 := D343 (Or.inr (wk G 20 rfl)) (ty := (.array .byte)) (by decide)
        have F346 := D343 (Or.inr (wk G 21 rfl)) (ty := .byte) (by decide)
        have K347 : Keep h332 h338 [] := ((Keep.refl h332 []).ext X341)
        have A348 := (A334.keep K347 nin0)
        refine go_old (fun O349 => ?_)
        have K350 : Keep h0 h324 [] := (K337.ext X327)
        have K351 : Keep h0 h332 [] := (K350.wr W333 (Or.inr (Nat.le_trans K337.1 (Nat.le_of_eq g326))))
        refine callI0 (cells' := 9) (slots' := 24) (Wd := 1) (argsL := [(.ref a325)]) (rest := [(.ref a339)]) (pay_new G O349 (cs := [r18]) (n := 1) (Nat.le_trans O0.2.1 (Nat.le_trans K351.1 (Nat.le_of_eq g340))) E342 F345 F346 A348 rfl rfl (by decide) (by decide) (c8c f19 c8n) (by decide) (by decide)) rfl (wk G 8 rfl) (wk G 9 rfl) (wk G 10 rfl) (by decide) pd4 rfl rfl (by rw [hml]; rfl) (nb rfl) rfl rfl (by decide) (by decide) (allS (Nat.le_trans O0.2.1 (Nat.le_trans K351.1 (Nat.le_of_eq g340))) all0) (fun _ hal => (sfS (safe_null hal E342 F345) sf0)) (D at_374) (k_n 377 rfl ?_)
        rintro h352 S354 K353
        refine go_astore 379 (ls' := #[vi x0, vi x1, vi x2, vi 2, vr a2, vr a258, vr a284, vr r304, vi 0, vi 1, vi 1, vr a325, vr a339]) (D at_377) rfl rfl rfl ?_
        refine go_aload 381 (D at_379) rfl rfl rfl ?_
        refine go_nullF 384 (D at_381) rfl ?_
        refine go_aload 386 (D at_384) rfl rfl rfl ?_
        refine go_aload 388 (D at_386) rfl rfl rfl ?_
        have K355 : Keep h302 h332 [] := (K330.wr W333 (Or.inr (Nat.le_of_eq g326)))
        have K356 : Keep h302 h338 [] := (K355.ext X341)
        have K357 : Keep h302 h352 [] := (K356.trans K353 (allS (Or.inr (Nat.le_trans K355.1 (Nat.le_of_eq g340))) all0))
        have S358 := (f306.keep K357)
        refine go_old (fun O359 => ?_)
        have E360 := (f306.exa.keep K357)
        refine callV0 (cells' := 9) (slots' := 24) (Wd := 0) (argsL := [(.ref a339)]) (rest := []) (pay_eq G O359 S358 S354 (by decide) (by decide)) E360 (wk G 88 rfl) (wk G 89 rfl) (wk G 91 rfl) (wk G 91 rfl) (wk G 90 rfl) (by decide) pd15 rfl rfl (by rw [hml]; rfl) (nb rfl) rfl rfl (by decide) (by decide) all0 (fun _ _ => sf0) (D at_388) (k_v 391 rfl ?_)
        rintro _ _ (⟨rfl, q361, rfl⟩ | ⟨rfl, q361, rfl⟩) -
        rotate_left 1
        · exact absurd rfl q361
        refine go_ifF 394 (D at_391) rfl (by decide) ?_
        refine go_iconst 395 (v := 1) (D at_394) rfl rfl ?_
        refine go_goto 399 (D at_395) (by decide) rfl ?_
        have K362 : Keep h0 h338 [] := (K351.ext X341)
        have K363 : Keep h0 h352 [] := (K362.trans K353 (allS (Or.inr (Nat.le_trans K351.1 (Nat.le_of_eq g340))) all0))
        refine go_ireturn hret hlk rfl (by simp) (D at_399) (by decide) (by decide) ⟨_, rfl, rfl⟩ K363
      · intro J314
        refine go_iload_n 236 (D at_235) rfl rfl ?_
        refine go_iconst 237 (v := 1) (D at_236) rfl rfl ?_
        refine go_icF 240 (D at_237) rfl (by decide) ?_
        refine go_aload 242 (D at_240) rfl rfl rfl ?_
        refine go_iconst 243 (v := 1) (D at_242) rfl rfl ?_
        have K364 : Keep h1 h12 [a2, a258] := ((Keep.refl h1 [a2, a258]).wr W13 (Or.inl (by simp)))
        have K365 : Keep h1 h20 [a2, a258] := (K364.wr W21 (Or.inl (by simp)))
        have K366 : Keep h1 h28 [a2, a258] := (K365.wr W29 (Or.inl (by simp)))
        have K367 : Keep h1 h36 [a2, a258] := (K366.wr W37 (Or.inl (by simp)))
        have K368 : Keep h1 h44 [a2, a258] := (K367.wr W45 (Or.inl (by simp)))
        have K369 : Keep h1 h257 [a2, a258] := (K368.ext X260)
        have K370 : Keep h1 h265 [a2, a258] := (K369.wr W266 (Or.inl (by simp)))
        have K371 : Keep h1 h280 [a2, a258] := (K370.wr W281 (Or.inl (by simp)))
        have A372 := ((((A279.other W281 (Nat.ne_of_lt (Nat.lt_of_lt_of_le (Nat.lt_of_lt_of_le A5.lt K278.1) (Nat.le_of_eq g259)))).ext X286).keep K299 (ninS (Nat.ne_of_lt (Nat.lt_of_lt_of_le (Nat.lt_of_lt_of_le A5.lt K371.1) (Nat.le_of_eq g285))) nin0)).keep K303 nin0)
        refine go_caload 244 (i := 1) (v := (.int r18)) A372 (by decide) (by decide) rfl rfl (D at_243) rfl ?_
        refine go_bipush 246 (v := 46) (D at_244) rfl rfl ?_
        by_cases cz373 : r18 = (46 : Int32)
        · refine go_icF 249 (D at_246) rfl (XT.ii_ne_f cz373) ?_
          refine go_iconst 250 (v := 1) (D at_249) rfl rfl ?_
          refine go_istore 252 (ls' := #[vi x0, vi x1, vi x2, vi 2, vr a2, vr a258, vr a284, vr r304, vi 1, un, un, un, un]) (D at_250) rfl rfl ?_
          exact J314 (1 : Int32) trivial
        · refine go_icT 252 (D at_246) (by decide) rfl (XT.ii_ne_t cz373) ?_
          exact J314 (-1 : Int32) trivial
    · refine go_astore 181 (ls' := #[vi x0, vi x1, vi x2, vi 2, vr a2, vr a258, vr a284, vr r307, un, un, un, un, un]) (D at_179) rfl rfl rfl ?_
      refine go_iconst 182 (v := (-1)) (D at_181) rfl rfl ?_
      refine go_istore 184 (ls' := #[vi x0, vi x1, vi x2, vi 2, vr a2, vr a258, vr a284, vr r307, vi (-1 : Int32), un, un, un, un]) (D at_182) rfl rfl ?_
      refine go_iload_n 185 (D at_184) rfl rfl ?_
      refine go_iconst 186 (v := 4) (D at_185) rfl rfl ?_
      refine go_icT 201 (D at_186) (by decide) rfl (by decide) ?_
      refine go_iload_n 202 (D at_201) rfl rfl ?_
      refine go_iconst 203 (v := 3) (D at_202) rfl rfl ?_
      refine go_icT 218 (D at_203) (by decide) rfl (by decide) ?_
      refine go_iload_n 219 (D at_218) rfl rfl ?_
      refine go_iconst 220 (v := 2) (D at_219) rfl rfl ?_
      refine go_icT 235 (D at_220) (by decide) rfl (by decide) ?_
      refine go_iload_n 236 (D at_235) rfl rfl ?_
      refine go_iconst 237 (v := 1) (D at_236) rfl rfl ?_
      refine go_icF 240 (D at_237) rfl (by decide) ?_
      refine go_aload 242 (D at_240) rfl rfl rfl ?_
      refine go_iconst 243 (v := 1) (D at_242) rfl rfl ?_
      have K374 : Keep h1 h12 [a2, a258] := ((Keep.refl h1 [a2, a258]).wr W13 (Or.inl (by simp)))
      have K375 : Keep h1 h20 [a2, a258] := (K374.wr W21 (Or.inl (by simp)))
      have K376 : Keep h1 h28 [a2, a258] := (K375.wr W29 (Or.inl (by simp)))
      have K377 : Keep h1 h36 [a2, a258] := (K376.wr W37 (Or.inl (by simp)))
      have K378 : Keep h1 h44 [a2, a258] := (K377.wr W45 (Or.inl (by simp)))
      have K379 : Keep h1 h257 [a2, a258] := (K378.ext X260)
      have K380 : Keep h1 h265 [a2, a258] := (K379.wr W266 (Or.inl (by simp)))
      have K381 : Keep h1 h280 [a2, a258] := (K380.wr W281 (Or.inl (by simp)))
      have A382 := ((((A279.other W281 (Nat.ne_of_lt (Nat.lt_of_lt_of_le (Nat.lt_of_lt_of_le A5.lt K278.1) (Nat.le_of_eq g259)))).ext X286).keep K299 (ninS (Nat.ne_of_lt (Nat.lt_of_lt_of_le (Nat.lt_of_lt_of_le A5.lt K381.1) (Nat.le_of_eq g285))) nin0)).keep K303 nin0)
      refine go_caload 244 (i := 1) (v := (.int r18)) A382 (by decide) (by decide) rfl rfl (D at_243) rfl ?_
      refine go_bipush 246 (v := 46) (D at_244) rfl rfl ?_
      refine go_icF 249 (D at_246) rfl (XT.ii_ne_f f309) ?_
      refine go_iconst 250 (v := 1) (D at_249) rfl rfl ?_
      refine go_istore 252 (ls' := #[vi x0, vi x1, vi x2, vi 2, vr a2, vr a258, vr a284, vr r307, vi 1, un, un, un, un]) (D at_250) rfl rfl ?_
      refine go_iload_n 253 (D at_252) rfl rfl ?_
      refine go_ifF 256 (D at_253) rfl (by decide) ?_
      refine go_aload 258 (D at_256) rfl rfl rfl ?_
      refine go_iconst 259 (v := 0) (D at_258) rfl rfl ?_
      refine go_caload 260 (i := 0) (v := (.int r10)) A382 (by decide) (by decide) rfl rfl (D at_259) rfl ?_
      refine go_bipush 262 (v := 46) (D at_260) rfl rfl ?_
      refine go_icT 268 (D at_262) (by decide) rfl (XT.ii_ne_t f308) ?_
      refine go_iload 270 (D at_268) rfl rfl ?_
      refine go_iconst 271 (v := 1) (D at_270) rfl rfl ?_
      refine go_iadd 272 (z := (2 : Int32)) (D at_271) rfl (by decide) ?_
      refine go_istore 274 (ls' := #[vi x0, vi x1, vi x2, vi 2, vr a2, vr a258, vr a284, vr r307, vi 1, vi 2, un, un, un]) (D at_272) rfl rfl ?_
      refine go_iload_n 275 (D at_274) rfl rfl ?_
      refine go_iload 277 (D at_275) rfl rfl ?_
      refine go_isub 278 (z := (0 : Int32)) (D at_277) rfl (by decide) ?_
      refine go_istore 280 (ls' := #[vi x0, vi x1, vi x2, vi 2, vr a2, vr a258, vr a284, vr r307, vi 1, vi 2, vi 0, un, un]) (D at_278) rfl rfl ?_
      refine go_iload 282 (D at_280) rfl rfl ?_
      refine go_newP 284 (cells' := 7) (slots' := 18) (cap := 0) (vs := []) (ty := .char) (dv := .int 0) (wk G 0 rfl) rfl rfl (D at_282) rfl (by decide) rfl (by decide) rfl rfl rfl (by decide) (by decide) (fun h383 a384 k388 g385 X386 A387 => ?_)
      refine go_astore 286 (ls' := #[vi x0, vi x1, vi x2, vi 2, vr a2, vr a258, vr a284, vr r307, vi 1, vi 2, vi 0, vr a384, un]) (D at_284) rfl rfl rfl ?_
      refine go_iload 288 (D at_286) rfl rfl ?_
      refine go_ifT 300 (D at_288) (by decide) rfl (by decide) ?_
      refine go_iload 302 (D at_300) rfl rfl ?_
      refine go_iconst 303 (v := 1) (D at_302) rfl rfl ?_
      refine go_icT 317 (D at_303) (by decide) rfl (by decide) ?_
      refine go_iload 319 (D at_317) rfl rfl ?_
      refine go_iconst 320 (v := 2) (D at_319) rfl rfl ?_
      refine go_icT 334 (D at_320) (by decide) rfl (by decide) ?_
      refine go_iload 336 (D at_334) rfl rfl ?_
      refine go_iconst 337 (v := 3) (D at_336) rfl rfl ?_
      refine go_icT 351 (D at_337) (by decide) rfl (by decide) ?_
      refine go_iload 353 (D at_351) rfl rfl ?_
      refine go_iconst 354 (v := 4) (D at_353) rfl rfl ?_
      refine go_icT 368 (D at_354) (by decide) rfl (by decide) ?_
      refine go_newO 371 (cells' := 8) (slots' := 22) (wk G 5 rfl) (wk G 6 rfl) (wk G 7 rfl) (D at_368) rfl rfl rfl (by decide) (by decide) (fun h389 a390 g391 X392 E393 D394 U395 => ?_)
      refine go_dup 372 (D at_371) rfl rfl ?_
      refine go_aload 374 (D at_372) rfl rfl rfl ?_
      have K396 : Keep h0 h283 [] := (K297.ext X286)
      have K397 : Keep h0 h298 [] := (K396.trans K299 (allS (Or.inr (Nat.le_trans K297.1 (Nat.le_of_eq g285))) all0))
      have K398 : Keep h0 h302 [] := (K397.trans K303 all0)
      have K399 : Keep h0 h383 [] := (K398.ext X386)
      have F400 := D394 (Or.inr (wk G 20 rfl)) (ty := (.array .byte)) (by decide)
      have F401 := D394 (Or.inr (wk G 21 rfl)) (ty := .byte) (by decide)
      have K402 : Keep h383 h389 [] := ((Keep.refl h383 []).ext X392)
      have A403 := (A387.keep K402 nin0)
      refine go_old (fun O404 => ?_)
      refine callIW0 rfl (cells' := 12) (slots' := 30) (Wd := 1) (argsL := [(.ref a384)]) (rest := [(.ref a390)]) (payW_of (a0 := a0) (c_new0 l G a390 a384 k388 h389 O404 E393 (Nat.le_trans O0.2.1 (Nat.le_trans K399.1 (Nat.le_of_eq g391))) F400 F401 A403) (wk G 10 rfl) (wk G 7 rfl) (by decide) (by decide) (ew1 G)) rfl (wk G 8 rfl) (wk G 9 rfl) (wk G 10 rfl) (by decide) pd4 rfl rfl (by rw [hml]; rfl) (nb rfl) rfl rfl (by decide) (by decide) (allS (Nat.le_trans O0.2.1 (Nat.le_trans K399.1 (Nat.le_of_eq g391))) all0) (D at_374) (k_n 377 rfl ?_)
      rintro  h405 f407 K406
      refine go_astore 379 (ls' := #[vi x0, vi x1, vi x2, vi 2, vr a2, vr a258, vr a284, vr r307, vi 1, vi 2, vi 0, vr a384, vr a390]) (D at_377) rfl rfl rfl ?_
      refine go_aload 381 (D at_379) rfl rfl rfl ?_
      refine go_nullF 384 (D at_381) rfl ?_
      refine go_aload 386 (D at_384) rfl rfl rfl ?_
      refine go_aload 388 (D at_386) rfl rfl rfl ?_
      have K408 : Keep h302 h383 [] := ((Keep.refl h302 []).ext X386)
      have K409 : Keep h302 h389 [] := (K408.ext X392)
      have K410 : Keep h302 h405 [] := (K409.trans K406 (allS (Or.inr (Nat.le_trans K408.1 (Nat.le_of_eq g391))) all0))
      have S411 := (f310.keep K410)
      refine go_old (fun O412 => ?_)
      have E413 := (f310.exa.keep K410)
      refine callV0 (cells' := 12) (slots' := 30) (Wd := 0) (argsL := [(.ref a390)]) (rest := []) (pay_eq G O412 S411 f407 (by decide) (by decide)) E413 (wk G 88 rfl) (wk G 89 rfl) (wk G 91 rfl) (wk G 91 rfl) (wk G 90 rfl) (by decide) pd15 rfl rfl (by rw [hml]; rfl) (nb rfl) rfl rfl (by decide) (by decide) all0 (fun _ _ => sf0) (D at_388) (k_v 391 rfl ?_)
      rintro _ _ (⟨rfl, q414, rfl⟩ | ⟨rfl, q414, rfl⟩) -
      rotate_left 1
      · exact absurd rfl q414
      refine go_ifF 394 (D at_391) rfl (by decide) ?_
      refine go_iconst 395 (v := 1) (D at_394) rfl rfl ?_
      refine go_goto 399 (D at_395) (by decide) rfl ?_
      have K415 : Keep h0 h389 [] := (K399.ext X392)
      have K416 : Keep h0 h405 [] := (K415.trans K406 (allS (Or.inr (Nat.le_trans K399.1 (Nat.le_of_eq g391))) all0))
      refine go_ireturn hret hlk rfl (by simp) (D at_399) (by decide) (by decide) ⟨_, rfl, rfl⟩ K416
    · refine go_astore 181 (ls' := #[vi x0, vi x1, vi x2, vi 2, vr a2, vr a258, vr a284, vr a284, un, un, un, un, un]) (D at_179) rfl rfl rfl ?_
      refine go_iconst 182 (v := (-1)) (D at_181) rfl rfl ?_
      refine go_istore 184 (ls' := #[vi x0, vi x1, vi x2, vi 2, vr a2, vr a258, vr a284, vr a284, vi (-1 : Int32), un, un, un, un]) (D at_182) rfl rfl ?_
      refine go_iload_n 185 (D at_184) rfl rfl ?_
      refine go_iconst 186 (v := 4) (D at_185) rfl rfl ?_
      refine go_icT 201 (D at_186) (by decide) rfl (by decide) ?_
      refine go_iload_n 202 (D at_201) rfl rfl ?_
      refine go_iconst 203 (v := 3) (D at_202) rfl rfl ?_
      refine go_icT 218 (D at_203) (by decide) rfl (by decide) ?_
      refine go_iload_n 219 (D at_218) rfl rfl ?_
      refine go_iconst 220 (v := 2) (D at_219) rfl rfl ?_
      refine go_icT 235 (D at_220) (by decide) rfl (by decide) ?_
      refine go_iload_n 236 (D at_235) rfl rfl ?_
      refine go_iconst 237 (v := 1) (D at_236) rfl rfl ?_
      refine go_icF 240 (D at_237) rfl (by decide) ?_
      refine go_aload 242 (D at_240) rfl rfl rfl ?_
      refine go_iconst 243 (v := 1) (D at_242) rfl rfl ?_
      have K417 : Keep h1 h12 [a2, a258] := ((Keep.refl h1 [a2, a258]).wr W13 (Or.inl (by simp)))
      have K418 : Keep h1 h20 [a2, a258] := (K417.wr W21 (Or.inl (by simp)))
      have K419 : Keep h1 h28 [a2, a258] := (K418.wr W29 (Or.inl (by simp)))
      have K420 : Keep h1 h36 [a2, a258] := (K419.wr W37 (Or.inl (by simp)))
      have K421 : Keep h1 h44 [a2, a258] := (K420.wr W45 (Or.inl (by simp)))
      have K422 : Keep h1 h257 [a2, a258] := (K421.ext X260)
      have K423 : Keep h1 h265 [a2, a258] := (K422.wr W266 (Or.inl (by simp)))
      have K424 : Keep h1 h280 [a2, a258] := (K423.wr W281 (Or.inl (by simp)))
      have A425 := ((((A279.other W281 (Nat.ne_of_lt (Nat.lt_of_lt_of_le (Nat.lt_of_lt_of_le A5.lt K278.1) (Nat.le_of_eq g259)))).ext X286).keep K299 (ninS (Nat.ne_of_lt (Nat.lt_of_lt_of_le (Nat.lt_of_lt_of_le A5.lt K424.1) (Nat.le_of_eq g285))) nin0)).keep K303 nin0)
      refine go_caload 244 (i := 1) (v := (.int r18)) A425 (by decide) (by decide) rfl rfl (D at_243) rfl ?_
      refine go_bipush 246 (v := 46) (D at_244) rfl rfl ?_
      refine go_icT 252 (D at_246) (by decide) rfl (XT.ii_ne_t f312) ?_
      refine go_iload_n 253 (D at_252) rfl rfl ?_
      refine go_ifF 256 (D at_253) rfl (by decide) ?_
      refine go_aload 258 (D at_256) rfl rfl rfl ?_
      refine go_iconst 259 (v := 0) (D at_258) rfl rfl ?_
      refine go_caload 260 (i := 0) (v := (.int r10)) A425 (by decide) (by decide) rfl rfl (D at_259) rfl ?_
      refine go_bipush 262 (v := 46) (D at_260) rfl rfl ?_
      refine go_icT 268 (D at_262) (by decide) rfl (XT.ii_ne_t f311) ?_
      refine go_iload 270 (D at_268) rfl rfl ?_
      refine go_iconst 271 (v := 1) (D at_270) rfl rfl ?_
      refine go_iadd 272 (z := (0 : Int32)) (D at_271) rfl (by decide) ?_
      refine go_istore 274 (ls' := #[vi x0, vi x1, vi x2, vi 2, vr a2, vr a258, vr a284, vr a284, vi (-1 : Int32), vi 0, un, un, un]) (D at_272) rfl rfl ?_
      refine go_iload_n 275 (D at_274) rfl rfl ?_
      refine go_iload 277 (D at_275) rfl rfl ?_
      refine go_isub 278 (z := (2 : Int32)) (D at_277) rfl (by decide) ?_
      refine go_istore 280 (ls' := #[vi x0, vi x1, vi x2, vi 2, vr a2, vr a258, vr a284, vr a284, vi (-1 : Int32), vi 0, vi 2, un, un]) (D at_278) rfl rfl ?_
      refine go_iload 282 (D at_280) rfl rfl ?_
      refine go_newP 284 (cells' := 7) (slots' := 20) (cap := 2) (vs := [(.int 0), (.int 0)]) (ty := .char) (dv := .int 0) (wk G 0 rfl) rfl rfl (D at_282) rfl (by decide) rfl (by decide) rfl rfl rfl (by decide) (by decide) (fun h426 a427 k431 g428 X429 A430 => ?_)
      refine go_astore 286 (ls' := #[vi x0, vi x1, vi x2, vi 2, vr a2, vr a258, vr a284, vr a284, vi (-1 : Int32), vi 0, vi 2, vr a427, un]) (D at_284) rfl rfl rfl ?_
      refine go_iload 288 (D at_286) rfl rfl ?_
      refine go_ifF 291 (D at_288) rfl (by decide) ?_
      refine go_aload 293 (D at_291) rfl rfl rfl ?_
      refine go_iconst 294 (v := 0) (D at_293) rfl rfl ?_
      refine go_aload 296 (D at_294) rfl rfl rfl ?_
      refine go_iload 298 (D at_296) rfl rfl ?_
      have K432 : Keep h302 h426 [] := ((Keep.refl h302 []).ext X429)
      have A433 := (A425.keep K432 nin0)
      refine go_caload 299 (i := 0) (v := (.int r10)) A433 (by decide) (by decide) rfl rfl (D at_298) rfl ?_
      have K437 : Keep h0 h283 [] := (K297.ext X286)
      have K438 : Keep h0 h298 [] := (K437.trans K299 (allS (Or.inr (Nat.le_trans K297.1 (Nat.le_of_eq g285))) all0))
      have K439 : Keep h0 h302 [] := (K438.trans K303 all0)
      refine go_stC 300 (i := 0) (x' := r10) (vs' := [(.int r10), (.int 0)]) A430 (Nat.le_trans O0.2.1 (Nat.le_trans K439.1 (Nat.le_of_eq g428))) (by decide) (by decide) rfl (nb rfl) (i2c_c8 f11) rfl (D at_299) rfl (fun h434 W435 A436 => ?_)
      refine go_iload 302 (D at_300) rfl rfl ?_
      refine go_iconst 303 (v := 1) (D at_302) rfl rfl ?_
      refine go_icF 306 (D at_303) rfl (by decide) ?_
      refine go_aload 308 (D at_306) rfl rfl rfl ?_
      refine go_iconst 309 (v := 1) (D at_308) rfl rfl ?_
      refine go_aload 311 (D at_309) rfl rfl rfl ?_
      refine go_iload 313 (D at_311) rfl rfl ?_
      refine go_iconst 314 (v := 1) (D at_313) rfl rfl ?_
      refine go_iadd 315 (z := (1 : Int32)) (D at_314) rfl (by decide) ?_
      have K440 : Keep h1 h12 [a2, a258, a284] := ((Keep.refl h1 [a2, a258, a284]).wr W13 (Or.inl (by simp)))
      have K441 : Keep h1 h20 [a2, a258, a284] := (K440.wr W21 (Or.inl (by simp)))
      have K442 : Keep h1 h28 [a2, a258, a284] := (K441.wr W29 (Or.inl (by simp)))
      have K443 : Keep h1 h36 [a2, a258, a284] := (K442.wr W37 (Or.inl (by simp)))
      have K444 : Keep h1 h44 [a2, a258, a284] := (K443.wr W45 (Or.inl (by simp)))
      have K445 : Keep h1 h257 [a2, a258, a284] := (K444.ext X260)
      have K446 : Keep h1 h265 [a2, a258, a284] := (K445.wr W266 (Or.inl (by simp)))
      have K447 : Keep h1 h280 [a2, a258, a284] := (K446.wr W281 (Or.inl (by simp)))
      have K448 : Keep h1 h283 [a2, a258, a284] := (K447.ext X286)
      have K449 : Keep h1 h298 [a2, a258, a284] := (K448.trans K299 (allS (Or.inl (by simp)) all0))
      have K450 : Keep h1 h302 [a2, a258, a284] := (K449.trans K303 all0)
      have A451 := (A433.other W435 (Nat.ne_of_lt (Nat.lt_of_lt_of_le (Nat.lt_of_lt_of_le A5.lt K450.1) (Nat.le_of_eq g428))))
      refine go_caload 316 (i := 1) (v := (.int r18)) A451 (by decide) (by decide) rfl rfl (D at_315) rfl ?_
      refine go_stC 317 (i := 1) (x' := r18) (vs' := [(.int r10), (.int r18)]) A436 (Nat.le_trans O0.2.1 (Nat.le_trans K439.1 (Nat.le_of_eq g428))) (by decide) (by decide) rfl (nb rfl) (i2c_c8 f19) rfl (D at_316) rfl (fun h452 W453 A454 => ?_)
      refine go_iload 319 (D at_317) rfl rfl ?_
      refine go_iconst 320 (v := 2) (D at_319) rfl rfl ?_
      refine go_icT 334 (D at_320) (by decide) rfl (by decide) ?_
      refine go_iload 336 (D at_334) rfl rfl ?_
      refine go_iconst 337 (v := 3) (D at_336) rfl rfl ?_
      refine go_icT 351 (D at_337) (by decide) rfl (by decide) ?_
      refine go_iload 353 (D at_351) rfl rfl ?_
      refine go_iconst 354 (v := 4) (D at_353) rfl rfl ?_
      refine go_icT 368 (D at_354) (by decide) rfl (by decide) ?_
      refine go_newO 371 (cells' := 8) (slots' := 24) (wk G 5 rfl) (wk G 6 rfl) (wk G 7 rfl) (D at_368) rfl rfl rfl (by decide) (by decide) (fun h455 a456 g457 X458 E459 D460 U461 => ?_)
      refine go_dup 372 (D at_371) rfl rfl ?_
      refine go_aload 374 (D at_372) rfl rfl rfl ?_
      have F462 := D460 (Or.inr (wk G 20 rfl)) (ty := (.array .byte)) (by decide)
      have F463 := D460 (Or.inr (wk G 21 rfl)) (ty := .byte) (by decide)
      have K464 : Keep h452 h455 [] := ((Keep.refl h452 []).ext X458)
      have A465 := (A454.keep K464 nin0)
      refine go_old (fun O466 => ?_)
      have K467 : Keep h0 h426 [] := (K439.ext X429)
      have K468 : Keep h0 h434 [] := (K467.wr W435 (Or.inr (Nat.le_trans K439.1 (Nat.le_of_eq g428))))
      have K469 : Keep h0 h452 [] := (K468.wr W453 (Or.inr (Nat.le_trans K439.1 (Nat.le_of_eq g428))))
      refine callI0 (cells' := 9) (slots' := 26) (Wd := 1) (argsL := [(.ref a427)]) (rest := [(.ref a456)]) (pay_new G O466 (cs := [r10, r18]) (n := 2) (Nat.le_trans O0.2.1 (Nat.le_trans K469.1 (Nat.le_of_eq g457))) E459 F462 F463 A465 rfl rfl (by decide) (by decide) (c8c f11 (c8c f19 c8n)) (by decide) (by decide)) rfl (wk G 8 rfl) (wk G 9 rfl) (wk G 10 rfl) (by decide) pd4 rfl rfl (by rw [hml]; rfl) (nb rfl) rfl rfl (by decide) (by decide) (allS (Nat.le_trans O0.2.1 (Nat.le_trans K469.1 (Nat.le_of_eq g457))) all0) (fun _ hal => (sfS (safe_null hal E459 F462) sf0)) (D at_374) (k_n 377 rfl ?_)
      rintro h470 S472 K471
      refine go_astore 379 (ls' := #[vi x0, vi x1, vi x2, vi 2, vr a2, vr a258, vr a284, vr a284, vi (-1 : Int32), vi 0, vi 2, vr a427, vr a456]) (D at_377) rfl rfl rfl ?_
      refine go_aload 381 (D at_379) rfl rfl rfl ?_
      refine go_nullF 384 (D at_381) rfl ?_
      refine go_aload 386 (D at_384) rfl rfl rfl ?_
      refine go_aload 388 (D at_386) rfl rfl rfl ?_
      have K473 : Keep h298 h302 [] := ((Keep.refl h298 []).trans K303 all0)
      have K474 : Keep h298 h426 [] := (K473.ext X429)
      have K475 : Keep h298 h434 [] := (K474.wr W435 (Or.inr (Nat.le_trans K473.1 (Nat.le_of_eq g428))))
      have K476 : Keep h298 h452 [] := (K475.wr W453 (Or.inr (Nat.le_trans K473.1 (Nat.le_of_eq g428))))
      have K477 : Keep h298 h455 [] := (K476.ext X458)
      have K478 : Keep h298 h470 [] := (K477.trans K471 (allS (Or.inr (Nat.le_trans K476.1 (Nat.le_of_eq g457))) all0))
      have S479 := (S300.keep K478)
      refine go_old (fun O480 => ?_)
      have E481 := (((((((E287.keep K299).keep K303).ext X429).wr W435).wr W453).ext X458).keep K471)
      refine callV0 (cells' := 9) (slots' := 26) (Wd := 0) (argsL := [(.ref a456)]) (rest := []) (pay_eq G O480 S479 S472 (by decide) (by decide)) E481 (wk G 88 rfl) (wk G 89 rfl) (wk G 91 rfl) (wk G 91 rfl) (wk G 90 rfl) (by decide) pd15 rfl rfl (by rw [hml]; rfl) (nb rfl) rfl rfl (by decide) (by decide) all0 (fun _ _ => sf0) (D at_388) (k_v 391 rfl ?_)
      rintro _ _ (⟨rfl, q482, rfl⟩ | ⟨rfl, q482, rfl⟩) -
      rotate_left 1
      · exact absurd rfl q482
      refine go_ifF 394 (D at_391) rfl (by decide) ?_
      refine go_iconst 395 (v := 1) (D at_394) rfl rfl ?_
      refine go_goto 399 (D at_395) (by decide) rfl ?_
      have K483 : Keep h0 h455 [] := (K469.ext X458)
      have K484 : Keep h0 h470 [] := (K483.trans K471 (allS (Or.inr (Nat.le_trans K469.1 (Nat.le_of_eq g457))) all0))
      refine go_ireturn hret hlk rfl (by simp) (D at_399) (by decide) (by decide) ⟨_, rfl, rfl⟩ K484
  · rw [q47]
    refine go_iload_n 95 (D at_94) rfl rfl ?_
    refine go_newP 97 (cells' := 2) (slots' := 8) (cap := 3) (vs := [(.int 0), (.int 0), (.int 0)]) (ty := .char) (dv := .int 0) (wk G 0 rfl) rfl rfl (D at_95) rfl (by decide) rfl (by decide) rfl rfl rfl (by decide) (by decide) (fun h485 a486 k490 g487 X488 A489 => ?_)
    refine go_astore 99 (ls' := #[vi x0, vi x1, vi x2, vi 3, vr a2, vr a486, un, un, un, un, un, un, un]) (D at_97) rfl rfl rfl ?_
    refine go_iload_n 100 (D at_99) rfl rfl ?_
    refine go_ifF 103 (D at_100) rfl (by decide) ?_
    refine go_aload 105 (D at_103) rfl rfl rfl ?_
    refine go_iconst 106 (v := 0) (D at_105) rfl rfl ?_
    refine go_aload 108 (D at_106) rfl rfl rfl ?_
    refine go_iconst 109 (v := 0) (D at_108) rfl rfl ?_
    have K491 : Keep h44 h485 [] := ((Keep.refl h44 []).ext X488)
    have A492 := (A46.keep K491 nin0)
    refine go_caload 110 (i := 0) (v := (.int r10)) A492 (by decide) (by decide) rfl rfl (D at_109) rfl ?_
    have K496 : Keep h0 h1 [] := ((Keep.refl h0 []).ext X4)
    have K497 : Keep h0 h12 [] := (K496.wr W13 (Or.inr (Nat.le_of_eq g3)))
    have K498 : Keep h0 h20 [] := (K497.wr W21 (Or.inr (Nat.le_of_eq g3)))
    have K499 : Keep h0 h28 [] := (K498.wr W29 (Or.inr (Nat.le_of_eq g3)))
    have K500 : Keep h0 h36 [] := (K499.wr W37 (Or.inr (Nat.le_of_eq g3)))
    have K501 : Keep h0 h44 [] := (K500.wr W45 (Or.inr (Nat.le_of_eq g3)))
    refine go_stC 111 (i := 0) (x' := r10) (vs' := [(.int r10), (.int 0), (.int 0)]) A489 (Nat.le_trans O0.2.1 (Nat.le_trans K501.1 (Nat.le_of_eq g487))) (by decide) (by decide) rfl (nb rfl) (i2c_c8 f11) rfl (D at_110) rfl (fun h493 W494 A495 => ?_)
    refine go_iload_n 112 (D at_111) rfl rfl ?_
    refine go_iconst 113 (v := 1) (D at_112) rfl rfl ?_
    refine go_icF 116 (D at_113) rfl (by decide) ?_
    refine go_aload 118 (D at_116) rfl rfl rfl ?_
    refine go_iconst 119 (v := 1) (D at_118) rfl rfl ?_
    refine go_aload 121 (D at_119) rfl rfl rfl ?_
    refine go_iconst 122 (v := 1) (D at_121) rfl rfl ?_
    have K502 : Keep h1 h12 [a2] := ((Keep.refl h1 [a2]).wr W13 (Or.inl (by simp)))
    have K503 : Keep h1 h20 [a2] := (K502.wr W21 (Or.inl (by simp)))
    have K504 : Keep h1 h28 [a2] := (K503.wr W29 (Or.inl (by simp)))
    have K505 : Keep h1 h36 [a2] := (K504.wr W37 (Or.inl (by simp)))
    have K506 : Keep h1 h44 [a2] := (K505.wr W45 (Or.inl (by simp)))
    have A507 := (A492.other W494 (Nat.ne_of_lt (Nat.lt_of_lt_of_le (Nat.lt_of_lt_of_le A5.lt K506.1) (Nat.le_of_eq g487))))
    refine go_caload 123 (i := 1) (v := (.int r18)) A507 (by decide) (by decide) rfl rfl (D at_122) rfl ?_
    refine go_stC 124 (i := 1) (x' := r18) (vs' := [(.int r10), (.int r18), (.int 0)]) A495 (Nat.le_trans O0.2.1 (Nat.le_trans K501.1 (Nat.le_of_eq g487))) (by decide) (by decide) rfl (nb rfl) (i2c_c8 f19) rfl (D at_123) rfl (fun h508 W509 A510 => ?_)
    refine go_iload_n 125 (D at_124) rfl rfl ?_
    refine go_iconst 126 (v := 2) (D at_125) rfl rfl ?_
    refine go_icF 129 (D at_126) rfl (by decide) ?_
    refine go_aload 131 (D at_129) rfl rfl rfl ?_
    refine go_iconst 132 (v := 2) (D at_131) rfl rfl ?_
    refine go_aload 134 (D at_132) rfl rfl rfl ?_
    refine go_iconst 135 (v := 2) (D at_134) rfl rfl ?_
    have A511 := (A507.other W509 (Nat.ne_of_lt (Nat.lt_of_lt_of_le (Nat.lt_of_lt_of_le A5.lt K506.1) (Nat.le_of_eq g487))))
    refine go_caload 136 (i := 2) (v := (.int r26)) A511 (by decide) (by decide) rfl rfl (D at_135) rfl ?_
    refine go_stC 137 (i := 2) (x' := r26) (vs' := [(.int r10), (.int r18), (.int r26)]) A510 (Nat.le_trans O0.2.1 (Nat.le_trans K501.1 (Nat.le_of_eq g487))) (by decide) (by decide) rfl (nb rfl) (i2c_c8 f27) rfl (D at_136) rfl (fun h512 W513 A514 => ?_)
    refine go_iload_n 138 (D at_137) rfl rfl ?_
    refine go_iconst 139 (v := 3) (D at_138) rfl rfl ?_
    refine go_icT 150 (D at_139) (by decide) rfl (by decide) ?_
    refine go_iload_n 151 (D at_150) rfl rfl ?_
    refine go_iconst 152 (v := 4) (D at_151) rfl rfl ?_
    refine go_icT 163 (D at_152) (by decide) rfl (by decide) ?_
    refine go_newO 166 (cells' := 3) (slots' := 12) (wk G 5 rfl) (wk G 6 rfl) (wk G 7 rfl) (D at_163) rfl rfl rfl (by decide) (by decide) (fun h515 a516 g517 X518 E519 D520 U521 => ?_)
    refine go_dup 167 (D at_166) rfl rfl ?_
    refine go_aload 169 (D at_167) rfl rfl rfl ?_
    have F522 := D520 (Or.inr (wk G 20 rfl)) (ty := (.array .byte)) (by decide)
    have F523 := D520 (Or.inr (wk G 21 rfl)) (ty := .byte) (by decide)
    have K524 : Keep h512 h515 [] := ((Keep.refl h512 []).ext X518)
    have A525 := (A514.keep K524 nin0)
    refine go_old (fun O526 => ?_)
    have K527 : Keep h0 h485 [] := (K501.ext X488)
    have K528 : Keep h0 h493 [] := (K527.wr W494 (Or.inr (Nat.le_trans K501.1 (Nat.le_of_eq g487))))
    have K529 : Keep h0 h508 [] := (K528.wr W509 (Or.inr (Nat.le_trans K501.1 (Nat.le_of_eq g487))))
    have K530 : Keep h0 h512 [] := (K529.wr W513 (Or.inr (Nat.le_trans K501.1 (Nat.le_of_eq g487))))
    refine callI0 (cells' := 4) (slots' := 15) (Wd := 1) (argsL := [(.ref a486)]) (rest := [(.ref a516)]) (pay_new G O526 (cs := [r10, r18, r26]) (n := 3) (Nat.le_trans O0.2.1 (Nat.le_trans K530.1 (Nat.le_of_eq g517))) E519 F522 F523 A525 rfl rfl (by decide) (by decide) (c8c f11 (c8c f19 (c8c f27 c8n))) (by decide) (by decide)) rfl (wk G 8 rfl) (wk G 9 rfl) (wk G 10 rfl) (by decide) pd4 rfl rfl (by rw [hml]; rfl) (nb rfl) rfl rfl (by decide) (by decide) (allS (Nat.le_trans O0.2.1 (Nat.le_trans K530.1 (Nat.le_of_eq g517))) all0) (fun _ hal => (sfS (safe_null hal E519 F522) sf0)) (D at_169) (k_n 172 rfl ?_)
    rintro h531 S533 K532
    refine go_astore 174 (ls' := #[vi x0, vi x1, vi x2, vi 3, vr a2, vr a486, vr a516, un, un, un, un, un, un]) (D at_172) rfl rfl rfl ?_
    refine go_aload 176 (D at_174) rfl rfl rfl ?_
    refine go_old (fun O534 => ?_)
    refine callSW0 rfl (cells' := 6) (slots' := 21) (Wd := 0) (argsL := [(.ref a516)]) (rest := []) (payW_of (a0 := a0) (c_unq3 l G a516 r10 r18 r26 h531 O534 S533) (wk G 29 rfl) (wk G 28 rfl) (by decide) (by decide) (ew1 G)) (wk G 26 rfl) (wk G 27 rfl) (wk G 28 rfl) (wk G 29 rfl) (by decide) pd14 rfl rfl (by rw [hml]; rfl) (nb rfl) rfl rfl (by decide) (by decide) all0 (D at_176) (k_v 179 rfl ?_)
    rintro _ h535 (⟨r537, rfl, f538, f539⟩ | ⟨r540, rfl, f541, f542, f543⟩ | ⟨r544, rfl, f545, f546, f547, f548⟩ | ⟨rfl, f549, f550, f551⟩) K536
    · refine go_astore 181 (ls' := #[vi x0, vi x1, vi x2, vi 3, vr a2, vr a486, vr a516, vr r537, un, un, un, un, un]) (D at_179) rfl rfl rfl ?_
      refine go_iconst 182 (v := (-1)) (D at_181) rfl rfl ?_
      refine go_istore 184 (ls' := #[vi x0, vi x1, vi x2, vi 3, vr a2, vr a486, vr a516, vr r537, vi (-1 : Int32), un, un, un, un]) (D at_182) rfl rfl ?_
      refine go_iload_n 185 (D at_184) rfl rfl ?_
      refine go_iconst 186 (v := 4) (D at_185) rfl rfl ?_
      refine go_icT 201 (D at_186) (by decide) rfl (by decide) ?_
      refine go_iload_n 202 (D at_201) rfl rfl ?_
      refine go_iconst 203 (v := 3) (D at_202) rfl rfl ?_
      refine go_icT 218 (D at_203) (by decide) rfl (by decide) ?_
      refine go_cut (α := Int32) (P := fun q => True) (gf := fun q => mkF m_ 235 #[.val (.int x0), .val (.int x1), .val (.int x2), .val (.int 3), .val (.ref a2), .val (.ref a486), .val (.ref a516), .val (.ref r537), .val (.int q), .unset, .unset, .unset, .unset] []) ?_ ?_
      · rintro d552 -
        try dsimp only
        refine go_cut (α := Int32) (P := fun q => True) (gf := fun q => mkF m_ 252 #[.val (.int x0), .val (.int x1), .val (.int x2), .val (.int 3), .val (.ref a2), .val (.ref a486), .val (.ref a516), .val (.ref r537), .val (.int q), .unset, .unset, .unset, .unset] []) ?_ ?_
        · rintro d554 -
          try dsimp only
          refine go_iload_n 253 (D at_252) rfl rfl ?_
          refine go_ifF 256 (D at_253) rfl (by decide) ?_
          refine go_aload 258 (D at_256) rfl rfl rfl ?_
          refine go_iconst 259 (v := 0) (D at_258) rfl rfl ?_
          have K556 : Keep h1 h12 [a2, a486] := ((Keep.refl h1 [a2, a486]).wr W13 (Or.inl (by simp)))
          have K557 : Keep h1 h20 [a2, a486] := (K556.wr W21 (Or.inl (by simp)))
          have K558 : Keep h1 h28 [a2, a486] := (K557.wr W29 (Or.inl (by simp)))
          have K559 : Keep h1 h36 [a2, a486] := (K558.wr W37 (Or.inl (by simp)))
          have K560 : Keep h1 h44 [a2, a486] := (K559.wr W45 (Or.inl (by simp)))
          have K561 : Keep h1 h485 [a2, a486] := (K560.ext X488)
          have K562 : Keep h1 h493 [a2, a486] := (K561.wr W494 (Or.inl (by simp)))
          have K563 : Keep h1 h508 [a2, a486] := (K562.wr W509 (Or.inl (by simp)))
          have K564 : Keep h1 h512 [a2, a486] := (K563.wr W513 (Or.inl (by simp)))
          have A565 := ((((A511.other W513 (Nat.ne_of_lt (Nat.lt_of_lt_of_le (Nat.lt_of_lt_of_le A5.lt K506.1) (Nat.le_of_eq g487)))).ext X518).keep K532 (ninS (Nat.ne_of_lt (Nat.lt_of_lt_of_le (Nat.lt_of_lt_of_le A5.lt K564.1) (Nat.le_of_eq g517))) nin0)).keep K536 nin0)
          refine go_caload 260 (i := 0) (v := (.int r10)) A565 (by decide) (by decide) rfl rfl (D at_259) rfl ?_
          refine go_bipush 262 (v := 46) (D at_260) rfl rfl ?_
          refine go_icF 265 (D at_262) rfl (XT.ii_ne_f f538) ?_
          refine go_iconst 266 (v := 0) (D at_265) rfl rfl ?_
          refine go_istore 268 (ls' := #[vi x0, vi x1, vi x2, vi 3, vr a2, vr a486, vr a516, vr r537, vi 0, un, un, un, un]) (D at_266) rfl rfl ?_
          refine go_iload 270 (D at_268) rfl rfl ?_
          refine go_iconst 271 (v := 1) (D at_270) rfl rfl ?_
          refine go_iadd 272 (z := (1 : Int32)) (D at_271) rfl (by decide) ?_
          refine go_istore 274 (ls' := #[vi x0, vi x1, vi x2, vi 3, vr a2, vr a486, vr a516, vr r537, vi 0, vi 1, un, un, un]) (D at_272) rfl rfl ?_
          refine go_iload_n 275 (D at_274) rfl rfl ?_
          refine go_iload 277 (D at_275) rfl rfl ?_
          refine go_isub 278 (z := (2 : Int32)) (D at_277) rfl (by decide) ?_
          refine go_istore 280 (ls' := #[vi x0, vi x1, vi x2, vi 3, vr a2, vr a486, vr a516, vr r537, vi 0, vi 1, vi 2, un, un]) (D at_278) rfl rfl ?_
          refine go_iload 282 (D at_280) rfl rfl ?_
          refine go_newP 284 (cells' := 7) (slots' := 23) (cap := 2) (vs := [(.int 0), (.int 0)]) (ty := .char) (dv := .int 0) (wk G 0 rfl) rfl rfl (D at_282) rfl (by decide) rfl (by decide) rfl rfl rfl (by decide) (by decide) (fun h566 a567 k571 g568 X569 A570 => ?_)
          refine go_astore 286 (ls' := #[vi x0, vi x1, vi x2, vi 3, vr a2, vr a486, vr a516, vr r537, vi 0, vi 1, vi 2, vr a567, un]) (D at_284) rfl rfl rfl ?_
          refine go_iload 288 (D at_286) rfl rfl ?_
          refine go_ifF 291 (D at_288) rfl (by decide) ?_
          refine go_aload 293 (D at_291) rfl rfl rfl ?_
          refine go_iconst 294 (v := 0) (D at_293) rfl rfl ?_
          refine go_aload 296 (D at_294) rfl rfl rfl ?_
          refine go_iload 298 (D at_296) rfl rfl ?_
          have K572 : Keep h535 h566 [] := ((Keep.refl h535 []).ext X569)
          have A573 := (A565.keep K572 nin0)
          refine go_caload 299 (i := 1) (v := (.int r18)) A573 (by decide) (by decide) rfl rfl (D at_298) rfl ?_
          have K577 : Keep h0 h515 [] := (K530.ext X518)
          have K578 : Keep h0 h531 [] := (K577.trans K532 (allS (Or.inr (Nat.le_trans K530.1 (Nat.le_of_eq g517))) all0))
          have K579 : Keep h0 h535 [] := (K578.trans K536 all0)
          refine go_stC 300 (i := 0) (x' := r18) (vs' := [(.int r18), (.int 0)]) A570 (Nat.le_trans O0.2.1 (Nat.le_trans K579.1 (Nat.le_of_eq g568))) (by decide) (by decide) rfl (nb rfl) (i2c_c8 f19) rfl (D at_299) rfl (fun h574 W575 A576 => ?_)
          refine go_iload 302 (D at_300) rfl rfl ?_
          refine go_iconst 303 (v := 1) (D at_302) rfl rfl ?_
          refine go_icF 306 (D at_303) rfl (by decide) ?_
          refine go_aload 308 (D at_306) rfl rfl rfl ?_
          refine go_iconst 309 (v := 1) (D at_308) rfl rfl ?_
          refine go_aload 311 (D at_309) rfl rfl rfl ?_
          refine go_iload 313 (D at_311) rfl rfl ?_
          refine go_iconst 314 (v := 1) (D at_313) rfl rfl ?_
          refine go_iadd 315 (z := (2 : Int32)) (D at_314) rfl (by decide) ?_
          have K580 : Keep h1 h12 [a2, a486, a516] := ((Keep.refl h1 [a2, a486, a516]).wr W13 (Or.inl (by simp)))
          have K581 : Keep h1 h20 [a2, a486, a516] := (K580.wr W21 (Or.inl (by simp)))
          have K582 : Keep h1 h28 [a2, a486, a516] := (K581.wr W29 (Or.inl (by simp)))
          have K583 : Keep h1 h36 [a2, a486, a516] := (K582.wr W37 (Or.inl (by simp)))
          have K584 : Keep h1 h44 [a2, a486, a516] := (K583.wr W45 (Or.inl (by simp)))
          have K585 : Keep h1 h485 [a2, a486, a516] := (K584.ext X488)
          have K586 : Keep h1 h493 [a2, a486, a516] := (K585.wr W494 (Or.inl (by simp)))
          have K587 : Keep h1 h508 [a2, a486, a516] := (K586.wr W509 (Or.inl (by simp)))
          have K588 : Keep h1 h512 [a2, a486, a516] := (K587.wr W513 (Or.inl (by simp)))
          have K589 : Keep h1 h515 [a2, a486, a516] := (K588.ext X518)
          have K590 : Keep h1 h531 [a2, a486, a516] := (K589.trans K532 (allS (Or.inl (by simp)) all0))
          have K591 : Keep h1 h535 [a2, a486, a516] := (K590.trans K536 all0)
          have A592 := (A573.other W575 (Nat.ne_of_lt (Nat.lt_of_lt_of_le (Nat.lt_of_lt_of_le A5.lt K591.1) (Nat.le_of_eq g568))))
          refine go_caload 316 (i := 2) (v := (.int r26)) A592 (by decide) (by decide) rfl rfl (D at_315) rfl ?_
          refine go_stC 317 (i := 1) (x' := r26) (vs' := [(.int r18), (.int r26)]) A576 (Nat.le_trans O0.2.1 (Nat.le_trans K579.1 (Nat.le_of_eq g568))) (by decide) (by decide) rfl (nb rfl) (i2c_c8 f27) rfl (D at_316) rfl (fun h593 W594 A595 => ?_)
          refine go_iload 319 (D at_317) rfl rfl ?_
          refine go_iconst 320 (v := 2) (D at_319) rfl rfl ?_
          refine go_icT 334 (D at_320) (by decide) rfl (by decide) ?_
          refine go_iload 336 (D at_334) rfl rfl ?_
          refine go_iconst 337 (v := 3) (D at_336) rfl rfl ?_
          refine go_icT 351 (D at_337) (by decide) rfl (by decide) ?_
          refine go_iload 353 (D at_351) rfl rfl ?_
          refine go_iconst 354 (v := 4) (D at_353) rfl rfl ?_
          refine go_icT 368 (D at_354) (by decide) rfl (by decide) ?_
          refine go_newO 371 (cells' := 8) (slots' := 27) (wk G 5 rfl) (wk G 6 rfl) (wk G 7 rfl) (D at_368) rfl rfl rfl (by decide) (by decide) (fun h596 a597 g598 X599 E600 D601 U602 => ?_)
          refine go_dup 372 (D at_371) rfl rfl ?_
          refine go_aload 374 (D at_372) rfl rfl rfl ?_
          have F603 := D601 (Or.inr (wk G 20 rfl)) (ty := (.array .byte)) (by decide)
          have F604 := D601 (Or.inr (wk G 21 rfl)) (ty := .byte) (by decide)
          have K605 : Keep h593 h596 [] := ((Keep.refl h593 []).ext X599)
          have A606 := (A595.keep K605 nin0)
          refine go_old (fun O607 => ?_)
          have K608 : Keep h0 h566 [] := (K579.ext X569)
          have K609 : Keep h0 h574 [] := (K608.wr W575 (Or.inr (Nat.le_trans K579.1 (Nat.le_of_eq g568))))
          have K610 : Keep h0 h593 [] := (K609.wr W594 (Or.inr (Nat.le_trans K579.1 (Nat.le_of_eq g568))))
          refine callI0 (cells' := 9) (slots' := 29) (Wd := 1) (argsL := [(.ref a567)]) (rest := [(.ref a597)]) (pay_new G O607 (cs := [r18, r26]) (n := 2) (Nat.le_trans O0.2.1 (Nat.le_trans K610.1 (Nat.le_of_eq g598))) E600 F603 F604 A606 rfl rfl (by decide) (by decide) (c8c f19 (c8c f27 c8n)) (by decide) (by decide)) rfl (wk G 8 rfl) (wk G 9 rfl) (wk G 10 rfl) (by decide) pd4 rfl rfl (by rw [hml]; rfl) (nb rfl) rfl rfl (by decide) (by decide) (allS (Nat.le_trans O0.2.1 (Nat.le_trans K610.1 (Nat.le_of_eq g598))) all0) (fun _ hal => (sfS (safe_null hal E600 F603) sf0)) (D at_374) (k_n 377 rfl ?_)
          rintro h611 S613 K612
          refine go_astore 379 (ls' := #[vi x0, vi x1, vi x2, vi 3, vr a2, vr a486, vr a516, vr r537, vi 0, vi 1, vi 2, vr a567, vr a597]) (D at_377) rfl rfl rfl ?_
          refine go_aload 381 (D at_379) rfl rfl rfl ?_
          refine go_nullF 384 (D at_381) rfl ?_
          refine go_aload 386 (D at_384) rfl rfl rfl ?_
          refine go_aload 388 (D at_386) rfl rfl rfl ?_
          have K614 : Keep h535 h574 [] := (K572.wr W575 (Or.inr (Nat.le_of_eq g568)))
          have K615 : Keep h535 h593 [] := (K614.wr W594 (Or.inr (Nat.le_of_eq g568)))
          have K616 : Keep h535 h596 [] := (K615.ext X599)
          have K617 : Keep h535 h611 [] := (K616.trans K612 (allS (Or.inr (Nat.le_trans K615.1 (Nat.le_of_eq g598))) all0))
          have S618 := (f539.keep K617)
          refine go_old (fun O619 => ?_)
          have E620 := (f539.exa.keep K617)
          refine callV0 (cells' := 9) (slots' := 29) (Wd := 0) (argsL := [(.ref a597)]) (rest := []) (pay_eq G O619 S618 S613 (by decide) (by decide)) E620 (wk G 88 rfl) (wk G 89 rfl) (wk G 91 rfl) (wk G 91 rfl) (wk G 90 rfl) (by decide) pd15 rfl rfl (by rw [hml]; rfl) (nb rfl) rfl rfl (by decide) (by decide) all0 (fun _ _ => sf0) (D at_388) (k_v 391 rfl ?_)
          rintro _ _ (⟨rfl, q621, rfl⟩ | ⟨rfl, q621, rfl⟩) -
          rotate_left 1
          · exact absurd rfl q621
          refine go_ifF 394 (D at_391) rfl (by decide) ?_
          refine go_iconst 395 (v := 1) (D at_394) rfl rfl ?_
          refine go_goto 399 (D at_395) (by decide) rfl ?_
          have K622 : Keep h0 h596 [] := (K610.ext X599)
          have K623 : Keep h0 h611 [] := (K622.trans K612 (allS (Or.inr (Nat.le_trans K610.1 (Nat.le_of_eq g598))) all0))
          refine go_ireturn hret hlk rfl (by simp) (D at_399) (by decide) (by decide) ⟨_, rfl, rfl⟩ K623
        · intro J555
          refine go_iload_n 236 (D at_235) rfl rfl ?_
          refine go_iconst 237 (v := 1) (D at_236) rfl rfl ?_
          refine go_icF 240 (D at_237) rfl (by decide) ?_
          refine go_aload 242 (D at_240) rfl rfl rfl ?_
          refine go_iconst 243 (v := 1) (D at_242) rfl rfl ?_
          have K624 : Keep h1 h12 [a2, a486] := ((Keep.refl h1 [a2, a486]).wr W13 (Or.inl (by simp)))
          have K625 : Keep h1 h20 [a2, a486] := (K624.wr W21 (Or.inl (by simp)))
          have K626 : Keep h1 h28 [a2, a486] := (K625.wr W29 (Or.inl (by simp)))
          have K627 : Keep h1 h36 [a2, a486] := (K626.wr W37 (Or.inl (by simp)))
          have K628 : Keep h1 h44 [a2, a486] := (K627.wr W45 (Or.inl (by simp)))
          have K629 : Keep h1 h485 [a2, a486] := (K628.ext X488)
          have K630 : Keep h1 h493 [a2, a486] := (K629.wr W494 (Or.inl (by simp)))
          have K631 : Keep h1 h508 [a2, a486] := (K630.wr W509 (Or.inl (by simp)))
          have K632 : Keep h1 h512 [a2, a486] := (K631.wr W513 (Or.inl (by simp)))
          have A633 := ((((A511.other W513 (Nat.ne_of_lt (Nat.lt_of_lt_of_le (Nat.lt_of_lt_of_le A5.lt K506.1) (Nat.le_of_eq g487)))).ext X518).keep K532 (ninS (Nat.ne_of_lt (Nat.lt_of_lt_of_le (Nat.lt_of_lt_of_le A5.lt K632.1) (Nat.le_of_eq g517))) nin0)).keep K536 nin0)
          refine go_caload 244 (i := 1) (v := (.int r18)) A633 (by decide) (by decide) rfl rfl (D at_243) rfl ?_
          refine go_bipush 246 (v := 46) (D at_244) rfl rfl ?_
          by_cases cz634 : r18 = (46 : Int32)
          · refine go_icF 249 (D at_246) rfl (XT.ii_ne_f cz634) ?_
            refine go_iconst 250 (v := 1) (D at_249) rfl rfl ?_
            refine go_istore 252 (ls' := #[vi x0, vi x1, vi x2, vi 3, vr a2, vr a486, vr a516, vr r537, vi 1, un, un, un, un]) (D at_250) rfl rfl ?_
            exact J555 (1 : Int32) trivial
          · refine go_icT 252 (D at_246) (by decide) rfl (XT.ii_ne_t cz634) ?_
            exact J555 d552 trivial
      · intro J553
        refine go_iload_n 219 (D at_218) rfl rfl ?_
        refine go_iconst 220 (v := 2) (D at_219) rfl rfl ?_
        refine go_icF 223 (D at_220) rfl (by decide) ?_
        refine go_aload 225 (D at_223) rfl rfl rfl ?_
        refine go_iconst 226 (v := 2) (D at_225) rfl rfl ?_
        have K635 : Keep h1 h12 [a2, a486] := ((Keep.refl h1 [a2, a486]).wr W13 (Or.inl (by simp)))
        have K636 : Keep h1 h20 [a2, a486] := (K635.wr W21 (Or.inl (by simp)))
        have K637 : Keep h1 h28 [a2, a486] := (K636.wr W29 (Or.inl (by simp)))
        have K638 : Keep h1 h36 [a2, a486] := (K637.wr W37 (Or.inl (by simp)))
        have K639 : Keep h1 h44 [a2, a486] := (K638.wr W45 (Or.inl (by simp)))
        have K640 : Keep h1 h485 [a2, a486] := (K639.ext X488)
        have K641 : Keep h1 h493 [a2, a486] := (K640.wr W494 (Or.inl (by simp)))
        have K642 : Keep h1 h508 [a2, a486] := (K641.wr W509 (Or.inl (by simp)))
        have K643 : Keep h1 h512 [a2, a486] := (K642.wr W513 (Or.inl (by simp)))
        have A644 := ((((A511.other W513 (Nat.ne_of_lt (Nat.lt_of_lt_of_le (Nat.lt_of_lt_of_le A5.lt K506.1) (Nat.le_of_eq g487)))).ext X518).keep K532 (ninS (Nat.ne_of_lt (Nat.lt_of_lt_of_le (Nat.lt_of_lt_of_le A5.lt K643.1) (Nat.le_of_eq g517))) nin0)).keep K536 nin0)
        refine go_caload 227 (i := 2) (v := (.int r26)) A644 (by decide) (by decide) rfl rfl (D at_226) rfl ?_
        refine go_bipush 229 (v := 46) (D at_227) rfl rfl ?_
        by_cases cz645 : r26 = (46 : Int32)
        · refine go_icF 232 (D at_229) rfl (XT.ii_ne_f cz645) ?_
          refine go_iconst 233 (v := 2) (D at_232) rfl rfl ?_
          refine go_istore 235 (ls' := #[vi x0, vi x1, vi x2, vi 3, vr a2, vr a486, vr a516, vr r537, vi 2, un, un, un, un]) (D at_233) rfl rfl ?_
          exact J553 (2 : Int32) trivial
        · refine go_icT 235 (D at_229) (by decide) rfl (XT.ii_ne_t cz645) ?_
          exact J553 (-1 : Int32) trivial
    · refine go_astore 181 (ls' := #[vi x0, vi x1, vi x2, vi 3, vr a2, vr a486, vr a516, vr r540, un, un, un, un, un]) (D at_179) rfl rfl rfl ?_
      refine go_iconst 182 (v := (-1)) (D at_181) rfl rfl ?_
      refine go_istore 184 (ls' := #[vi x0, vi x1, vi x2, vi 3, vr a2, vr a486, vr a516, vr r540, vi (-1 : Int32), un, un, un, un]) (D at_182) rfl rfl ?_
      refine go_iload_n 185 (D at_184) rfl rfl ?_
      refine go_iconst 186 (v := 4) (D at_185) rfl rfl ?_
      refine go_icT 201 (D at_186) (by decide) rfl (by decide) ?_
      refine go_iload_n 202 (D at_201) rfl rfl ?_
      refine go_iconst 203 (v := 3) (D at_202) rfl rfl ?_
      refine go_icT 218 (D at_203) (by decide) rfl (by decide) ?_
      refine go_cut (α := Int32) (P := fun q => True) (gf := fun q => mkF m_ 235 #[.val (.int x0), .val (.int x1), .val (.int x2), .val (.int 3), .val (.ref a2), .val (.ref a486), .val (.ref a516), .val (.ref r540), .val (.int q), .unset, .unset, .unset, .unset] []) ?_ ?_
      · rintro d646 -
        try dsimp only
        refine go_iload_n 236 (D at_235) rfl rfl ?_
        refine go_iconst 237 (v := 1) (D at_236) rfl rfl ?_
        refine go_icF 240 (D at_237) rfl (by decide) ?_
        refine go_aload 242 (D at_240) rfl rfl rfl ?_
        refine go_iconst 243 (v := 1) (D at_242) rfl rfl ?_
        have K648 : Keep h1 h12 [a2, a486] := ((Keep.refl h1 [a2, a486]).wr W13 (Or.inl (by simp)))
        have K649 : Keep h1 h20 [a2, a486] := (K648.wr W21 (Or.inl (by simp)))
        have K650 : Keep h1 h28 [a2, a486] := (K649.wr W29 (Or.inl (by simp)))
        have K651 : Keep h1 h36 [a2, a486] := (K650.wr W37 (Or.inl (by simp)))
        have K652 : Keep h1 h44 [a2, a486] := (K651.wr W45 (Or.inl (by simp)))
        have K653 : Keep h1 h485 [a2, a486] := (K652.ext X488)
        have K654 : Keep h1 h493 [a2, a486] := (K653.wr W494 (Or.inl (by simp)))
        have K655 : Keep h1 h508 [a2, a486] := (K654.wr W509 (Or.inl (by simp)))
        have K656 : Keep h1 h512 [a2, a486] := (K655.wr W513 (Or.inl (by simp)))
        have A657 := ((((A511.other W513 (Nat.ne_of_lt (Nat.lt_of_lt_of_le (Nat.lt_of_lt_of_le A5.lt K506.1) (Nat.le_of_eq g487)))).ext X518).keep K532 (ninS (Nat.ne_of_lt (Nat.lt_of_lt_of_le (Nat.lt_of_lt_of_le A5.lt K656.1) (Nat.le_of_eq g517))) nin0)).keep K536 nin0)
        refine go_caload 244 (i := 1) (v := (.int r18)) A657 (by decide) (by decide) rfl rfl (D at_243) rfl ?_
        refine go_bipush 246 (v := 46) (D at_244) rfl rfl ?_
        refine go_icF 249 (D at_246) rfl (XT.ii_ne_f f542) ?_
        refine go_iconst 250 (v := 1) (D at_249) rfl rfl ?_
        refine go_istore 252 (ls' := #[vi x0, vi x1, vi x2, vi 3, vr a2, vr a486, vr a516, vr r540, vi 1, un, un, un, un]) (D at_250) rfl rfl ?_
        refine go_iload_n 253 (D at_252) rfl rfl ?_
        refine go_ifF 256 (D at_253) rfl (by decide) ?_
        refine go_aload 258 (D at_256) rfl rfl rfl ?_
        refine go_iconst 259 (v := 0) (D at_258) rfl rfl ?_
        refine go_caload 260 (i := 0) (v := (.int r10)) A657 (by decide) (by decide) rfl rfl (D at_259) rfl ?_
        refine go_bipush 262 (v := 46) (D at_260) rfl rfl ?_
        refine go_icT 268 (D at_262) (by decide) rfl (XT.ii_ne_t f541) ?_
        refine go_iload 270 (D at_268) rfl rfl ?_
        refine go_iconst 271 (v := 1) (D at_270) rfl rfl ?_
        refine go_iadd 272 (z := (2 : Int32)) (D at_271) rfl (by decide) ?_
        refine go_istore 274 (ls' := #[vi x0, vi x1, vi x2, vi 3, vr a2, vr a486, vr a516, vr r540, vi 1, vi 2, un, un, un]) (D at_272) rfl rfl ?_
        refine go_iload_n 275 (D at_274) rfl rfl ?_
        refine go_iload 277 (D at_275) rfl rfl ?_
        refine go_isub 278 (z := (1 : Int32)) (D at_277) rfl (by decide) ?_
        refine go_istore 280 (ls' := #[vi x0, vi x1, vi x2, vi 3, vr a2, vr a486, vr a516, vr r540, vi 1, vi 2, vi 1, un, un]) (D at_278) rfl rfl ?_
        refine go_iload 282 (D at_280) rfl rfl ?_
        refine go_newP 284 (cells' := 7) (slots' := 22) (cap := 1) (vs := [(.int 0)]) (ty := .char) (dv := .int 0) (wk G 0 rfl) rfl rfl (D at_282) rfl (by decide) rfl (by decide) rfl rfl rfl (by decide) (by decide) (fun h658 a659 k663 g660 X661 A662 => ?_)
        refine go_astore 286 (ls' := #[vi x0, vi x1, vi x2, vi 3, vr a2, vr a486, vr a516, vr r540, vi 1, vi 2, vi 1, vr a659, un]) (D at_284) rfl rfl rfl ?_
        refine go_iload 288 (D at_286) rfl rfl ?_
        refine go_ifF 291 (D at_288) rfl (by decide) ?_
        refine go_aload 293 (D at_291) rfl rfl rfl ?_
        refine go_iconst 294 (v := 0) (D at_293) rfl rfl ?_
        refine go_aload 296 (D at_294) rfl rfl rfl ?_
        refine go_iload 298 (D at_296) rfl rfl ?_
        have K664 : Keep h535 h658 [] := ((Keep.refl h535 []).ext X661)
        have A665 := (A657.keep K664 nin0)
        refine go_caload 299 (i := 2) (v := (.int r26)) A665 (by decide) (by decide) rfl rfl (D at_298) rfl ?_
        have K669 : Keep h0 h515 [] := (K530.ext X518)
        have K670 : Keep h0 h531 [] := (K669.trans K532 (allS (Or.inr (Nat.le_trans K530.1 (Nat.le_of_eq g517))) all0))
        have K671 : Keep h0 h535 [] := (K670.trans K536 all0)
        refine go_stC 300 (i := 0) (x' := r26) (vs' := [(.int r26)]) A662 (Nat.le_trans O0.2.1 (Nat.le_trans K671.1 (Nat.le_of_eq g660))) (by decide) (by decide) rfl (nb rfl) (i2c_c8 f27) rfl (D at_299) rfl (fun h666 W667 A668 => ?_)
        refine go_iload 302 (D at_300) rfl rfl ?_
        refine go_iconst 303 (v := 1) (D at_302) rfl rfl ?_
        refine go_icT 317 (D at_303) (by decide) rfl (by decide) ?_
        refine go_iload 319 (D at_317) rfl rfl ?_
        refine go_iconst 320 (v := 2) (D at_319) rfl rfl ?_
        refine go_icT 334 (D at_320) (by decide) rfl (by decide) ?_
        refine go_iload 336 (D at_334) rfl rfl ?_
        refine go_iconst 337 (v := 3) (D at_336) rfl rfl ?_
        refine go_icT 351 (D at_337) (by decide) rfl (by decide) ?_
        refine go_iload 353 (D at_351) rfl rfl ?_
        refine go_iconst 354 (v := 4) (D at_353) rfl rfl ?_
        refine go_icT 368 (D at_354) (by decide) rfl (by decide) ?_
        refine go_newO 371 (cells' := 8) (slots' := 26) (wk G 5 rfl) (wk G 6 rfl) (wk G 7 rfl) (D at_368) rfl rfl rfl (by decide) (by decide) (fun h672 a673 g674 X675 E676 D677 U678 => ?_)
        refine go_dup 372 (D at_371) rfl rfl ?_
        refine go_aload 374 (D at_372) rfl rfl rfl ?_
        have F679 := D677 (Or.inr (wk G 20 rfl)) (ty := (.array .byte)) (by decide)
        have F680 := D677 (Or.inr (wk G 21 rfl)) (ty := .byte) (by decide)
        have K681 : Keep h666 h672 [] := ((Keep.refl h666 []).ext X675)
        have A682 := (A668.keep K681 nin0)
        refine go_old (fun O683 => ?_)
        have K684 : Keep h0 h658 [] := (K671.ext X661)
        have K685 : Keep h0 h666 [] := (K684.wr W667 (Or.inr (Nat.le_trans K671.1 (Nat.le_of_eq g660))))
        refine callI0 (cells' := 9) (slots' := 27) (Wd := 1) (argsL := [(.ref a659)]) (rest := [(.ref a673)]) (pay_new G O683 (cs := [r26]) (n := 1) (Nat.le_trans O0.2.1 (Nat.le_trans K685.1 (Nat.le_of_eq g674))) E676 F679 F680 A682 rfl rfl (by decide) (by decide) (c8c f27 c8n) (by decide) (by decide)) rfl (wk G 8 rfl) (wk G 9 rfl) (wk G 10 rfl) (by decide) pd4 rfl rfl (by rw [hml]; rfl) (nb rfl) rfl rfl (by decide) (by decide) (allS (Nat.le_trans O0.2.1 (Nat.le_trans K685.1 (Nat.le_of_eq g674))) all0) (fun _ hal => (sfS (safe_null hal E676 F679) sf0)) (D at_374) (k_n 377 rfl ?_)
        rintro h686 S688 K687
        refine go_astore 379 (ls' := #[vi x0, vi x1, vi x2, vi 3, vr a2, vr a486, vr a516, vr r540, vi 1, vi 2, vi 1, vr a659, vr a673]) (D at_377) rfl rfl rfl ?_
        refine go_aload 381 (D at_379) rfl rfl rfl ?_
        refine go_nullF 384 (D at_381) rfl ?_
        refine go_aload 386 (D at_384) rfl rfl rfl ?_
        refine go_aload 388 (D at_386) rfl rfl rfl ?_
        have K689 : Keep h535 h666 [] := (K664.wr W667 (Or.inr (Nat.le_of_eq g660)))
        have K690 : Keep h535 h672 [] := (K689.ext X675)
        have K691 : Keep h535 h686 [] := (K690.trans K687 (allS (Or.inr (Nat.le_trans K689.1 (Nat.le_of_eq g674))) all0))
        have S692 := (f543.keep K691)
        refine go_old (fun O693 => ?_)
        have E694 := (f543.exa.keep K691)
        refine callV0 (cells' := 9) (slots' := 27) (Wd := 0) (argsL := [(.ref a673)]) (rest := []) (pay_eq G O693 S692 S688 (by decide) (by decide)) E694 (wk G 88 rfl) (wk G 89 rfl) (wk G 91 rfl) (wk G 91 rfl) (wk G 90 rfl) (by decide) pd15 rfl rfl (by rw [hml]; rfl) (nb rfl) rfl rfl (by decide) (by decide) all0 (fun _ _ => sf0) (D at_388) (k_v 391 rfl ?_)
        rintro _ _ (⟨rfl, q695, rfl⟩ | ⟨rfl, q695, rfl⟩) -
        rotate_left 1
        · exact absurd rfl q695
        refine go_ifF 394 (D at_391) rfl (by decide) ?_
        refine go_iconst 395 (v := 1) (D at_394) rfl rfl ?_
        refine go_goto 399 (D at_395) (by decide) rfl ?_
        have K696 : Keep h0 h672 [] := (K685.ext X675)
        have K697 : Keep h0 h686 [] := (K696.trans K687 (allS (Or.inr (Nat.le_trans K685.1 (Nat.le_of_eq g674))) all0))
        refine go_ireturn hret hlk rfl (by simp) (D at_399) (by decide) (by decide) ⟨_, rfl, rfl⟩ K697
      · intro J647
        refine go_iload_n 219 (D at_218) rfl rfl ?_
        refine go_iconst 220 (v := 2) (D at_219) rfl rfl ?_
        refine go_icF 223 (D at_220) rfl (by decide) ?_
        refine go_aload 225 (D at_223) rfl rfl rfl ?_
        refine go_iconst 226 (v := 2) (D at_225) rfl rfl ?_
        have K698 : Keep h1 h12 [a2, a486] := ((Keep.refl h1 [a2, a486]).wr W13 (Or.inl (by simp)))
        have K699 : Keep h1 h20 [a2, a486] := (K698.wr W21 (Or.inl (by simp)))
        have K700 : Keep h1 h28 [a2, a486] := (K699.wr W29 (Or.inl (by simp)))
        have K701 : Keep h1 h36 [a2, a486] := (K700.wr W37 (Or.inl (by simp)))
        have K702 : Keep h1 h44 [a2, a486] := (K701.wr W45 (Or.inl (by simp)))
        have K703 : Keep h1 h485 [a2, a486] := (K702.ext X488)
        have K704 : Keep h1 h493 [a2, a486] := (K703.wr W494 (Or.inl (by simp)))
        have K705 : Keep h1 h508 [a2, a486] := (K704.wr W509 (Or.inl (by simp)))
        have K706 : Keep h1 h512 [a2, a486] := (K705.wr W513 (Or.inl (by simp)))
        have A707 := ((((A511.other W513 (Nat.ne_of_lt (Nat.lt_of_lt_of_le (Nat.lt_of_lt_of_le A5.lt K506.1) (Nat.le_of_eq g487)))).ext X518).keep K532 (ninS (Nat.ne_of_lt (Nat.lt_of_lt_of_le (Nat.lt_of_lt_of_le A5.lt K706.1) (Nat.le_of_eq g517))) nin0)).keep K536 nin0)
        refine go_caload 227 (i := 2) (v := (.int r26)) A707 (by decide) (by decide) rfl rfl (D at_226) rfl ?_
        refine go_bipush 229 (v := 46) (D at_227) rfl rfl ?_
        by_cases cz708 : r26 = (46 : Int32)
        · refine go_icF 232 (D at_229) rfl (XT.ii_ne_f cz708) ?_
          refine go_iconst 233 (v := 2) (D at_232) rfl rfl ?_
          refine go_istore 235 (ls' := #[vi x0, vi x1, vi x2, vi 3, vr a2, vr a486, vr a516, vr r540, vi 2, un, un, un, un]) (D at_233) rfl rfl ?_
          exact J647 (2 : Int32) trivial
        · refine go_icT 235 (D at_229) (by decide) rfl (XT.ii_ne_t cz708) ?_
          exact J647 (-1 : Int32) trivial
    · refine go_astore 181 (ls' := #[vi x0, vi x1, vi x2, vi 3, vr a2, vr a486, vr a516, vr r544, un, un, un, un, un]) (D at_179) rfl rfl rfl ?_
      refine go_iconst 182 (v := (-1)) (D at_181) rfl rfl ?_
      refine go_istore 184 (ls' := #[vi x0, vi x1, vi x2, vi 3, vr a2, vr a486, vr a516, vr r544, vi (-1 : Int32), un, un, un, un]) (D at_182) rfl rfl ?_
      refine go_iload_n 185 (D at_184) rfl rfl ?_
      refine go_iconst 186 (v := 4) (D at_185) rfl rfl ?_
      refine go_icT 201 (D at_186) (by decide) rfl (by decide) ?_
      refine go_iload_n 202 (D at_201) rfl rfl ?_
      refine go_iconst 203 (v := 3) (D at_202) rfl rfl ?_
      refine go_icT 218 (D at_203) (by decide) rfl (by decide) ?_
      refine go_iload_n 219 (D at_218) rfl rfl ?_
      refine go_iconst 220 (v := 2) (D at_219) rfl rfl ?_
      refine go_icF 223 (D at_220) rfl (by decide) ?_
      refine go_aload 225 (D at_223) rfl rfl rfl ?_
      refine go_iconst 226 (v := 2) (D at_225) rfl rfl ?_
      have K709 : Keep h1 h12 [a2, a486] := ((Keep.refl h1 [a2, a486]).wr W13 (Or.inl (by simp)))
      have K710 : Keep h1 h20 [a2, a486] := (K709.wr W21 (Or.inl (by simp)))
      have K711 : Keep h1 h28 [a2, a486] := (K710.wr W29 (Or.inl (by simp)))
      have K712 : Keep h1 h36 [a2, a486] := (K711.wr W37 (Or.inl (by simp)))
      have K713 : Keep h1 h44 [a2, a486] := (K712.wr W45 (Or.inl (by simp)))
      have K714 : Keep h1 h485 [a2, a486] := (K713.ext X488)
      have K715 : Keep h1 h493 [a2, a486] := (K714.wr W494 (Or.inl (by simp)))
      have K716 : Keep h1 h508 [a2, a486] := (K715.wr W509 (Or.inl (by simp)))
      have K717 : Keep h1 h512 [a2, a486] := (K716.wr W513 (Or.inl (by simp)))
      have A718 := ((((A511.other W513 (Nat.ne_of_lt (Nat.lt_of_lt_of_le (Nat.lt_of_lt_of_le A5.lt K506.1) (Nat.le_of_eq g487)))).ext X518).keep K532 (ninS (Nat.ne_of_lt (Nat.lt_of_lt_of_le (Nat.lt_of_lt_of_le A5.lt K717.1) (Nat.le_of_eq g517))) nin0)).keep K536 nin0)
      refine go_caload 227 (i := 2) (v := (.int r26)) A718 (by decide) (by decide) rfl rfl (D at_226) rfl ?_
      refine go_bipush 229 (v := 46) (D at_227) rfl rfl ?_
      refine go_icF 232 (D at_229) rfl (XT.ii_ne_f f547) ?_
      refine go_iconst 233 (v := 2) (D at_232) rfl rfl ?_
      refine go_istore 235 (ls' := #[vi x0, vi x1, vi x2, vi 3, vr a2, vr a486, vr a516, vr r544, vi 2, un, un, un, un]) (D at_233) rfl rfl ?_
      refine go_iload_n 236 (D at_235) rfl rfl ?_
      refine go_iconst 237 (v := 1) (D at_236) rfl rfl ?_
      refine go_icF 240 (D at_237) rfl (by decide) ?_
      refine go_aload 242 (D at_240) rfl rfl rfl ?_
      refine go_iconst 243 (v := 1) (D at_242) rfl rfl ?_
      refine go_caload 244 (i := 1) (v := (.int r18)) A718 (by decide) (by decide) rfl rfl (D at_243) rfl ?_
      refine go_bipush 246 (v := 46) (D at_244) rfl rfl ?_
      refine go_icT 252 (D at_246) (by decide) rfl (XT.ii_ne_t f546) ?_
      refine go_iload_n 253 (D at_252) rfl rfl ?_
      refine go_ifF 256 (D at_253) rfl (by decide) ?_
      refine go_aload 258 (D at_256) rfl rfl rfl ?_
      refine go_iconst 259 (v := 0) (D at_258) rfl rfl ?_
      refine go_caload 260 (i := 0) (v := (.int r10)) A718 (by decide) (by decide) rfl rfl (D at_259) rfl ?_
      refine go_bipush 262 (v := 46) (D at_260) rfl rfl ?_
      refine go_icT 268 (D at_262) (by decide) rfl (XT.ii_ne_t f545) ?_
      refine go_iload 270 (D at_268) rfl rfl ?_
      refine go_iconst 271 (v := 1) (D at_270) rfl rfl ?_
      refine go_iadd 272 (z := (3 : Int32)) (D at_271) rfl (by decide) ?_
      refine go_istore 274 (ls' := #[vi x0, vi x1, vi x2, vi 3, vr a2, vr a486, vr a516, vr r544, vi 2, vi 3, un, un, un]) (D at_272) rfl rfl ?_
      refine go_iload_n 275 (D at_274) rfl rfl ?_
      refine go_iload 277 (D at_275) rfl rfl ?_
      refine go_isub 278 (z := (0 : Int32)) (D at_277) rfl (by decide) ?_
      refine go_istore 280 (ls' := #[vi x0, vi x1, vi x2, vi 3, vr a2, vr a486, vr a516, vr r544, vi 2, vi 3, vi 0, un, un]) (D at_278) rfl rfl ?_
      refine go_iload 282 (D at_280) rfl rfl ?_
      refine go_newP 284 (cells' := 7) (slots' := 21) (cap := 0) (vs := []) (ty := .char) (dv := .int 0) (wk G 0 rfl) rfl rfl (D at_282) rfl (by decide) rfl (by decide) rfl rfl rfl (by decide) (by decide) (fun h719 a720 k724 g721 X722 A723 => ?_)
      refine go_astore 286 (ls' := #[vi x0, vi x1, vi x2, vi 3, vr a2, vr a486, vr a516, vr r544, vi 2, vi 3, vi 0, vr a720, un]) (D at_284) rfl rfl rfl ?_
      refine go_iload 288 (D at_286) rfl rfl ?_
      refine go_ifT 300 (D at_288) (by decide) rfl (by decide) ?_
      refine go_iload 302 (D at_300) rfl rfl ?_
      refine go_iconst 303 (v := 1) (D at_302) rfl rfl ?_
      refine go_icT 317 (D at_303) (by decide) rfl (by decide) ?_
      refine go_iload 319 (D at_317) rfl rfl ?_
      refine go_iconst 320 (v := 2) (D at_319) rfl rfl ?_
      refine go_icT 334 (D at_320) (by decide) rfl (by decide) ?_
      refine go_iload 336 (D at_334) rfl rfl ?_
      refine go_iconst 337 (v := 3) (D at_336) rfl rfl ?_
      refine go_icT 351 (D at_337) (by decide) rfl (by decide) ?_
      refine go_iload 353 (D at_351) rfl rfl ?_
      refine go_iconst 354 (v := 4) (D at_353) rfl rfl ?_
      refine go_icT 368 (D at_354) (by decide) rfl (by decide) ?_
      refine go_newO 371 (cells' := 8) (slots' := 25) (wk G 5 rfl) (wk G 6 rfl) (wk G 7 rfl) (D at_368) rfl rfl rfl (by decide) (by decide) (fun h725 a726 g727 X728 E729 D730 U731 => ?_)
      refine go_dup 372 (D at_371) rfl rfl ?_
      refine go_aload 374 (D at_372) rfl rfl rfl ?_
      have K732 : Keep h0 h515 [] := (K530.ext X518)
      have K733 : Keep h0 h531 [] := (K732.trans K532 (allS (Or.inr (Nat.le_trans K530.1 (Nat.le_of_eq g517))) all0))
      have K734 : Keep h0 h535 [] := (K733.trans K536 all0)
      have K735 : Keep h0 h719 [] := (K734.ext X722)
      have F736 := D730 (Or.inr (wk G 20 rfl)) (ty := (.array .byte)) (by decide)
      have F737 := D730 (Or.inr (wk G 21 rfl)) (ty := .byte) (by decide)
      have K738 : Keep h719 h725 [] := ((Keep.refl h719 []).ext X728)
      have A739 := (A723.keep K738 nin0)
      refine go_old (fun O740 => ?_)
      refine callIW0 rfl (cells' := 12) (slots' := 33) (Wd := 1) (argsL := [(.ref a720)]) (rest := [(.ref a726)]) (payW_of (a0 := a0) (c_new0 l G a726 a720 k724 h725 O740 E729 (Nat.le_trans O0.2.1 (Nat.le_trans K735.1 (Nat.le_of_eq g727))) F736 F737 A739) (wk G 10 rfl) (wk G 7 rfl) (by decide) (by decide) (ew1 G)) rfl (wk G 8 rfl) (wk G 9 rfl) (wk G 10 rfl) (by decide) pd4 rfl rfl (by rw [hml]; rfl) (nb rfl) rfl rfl (by decide) (by decide) (allS (Nat.le_trans O0.2.1 (Nat.le_trans K735.1 (Nat.le_of_eq g727))) all0) (D at_374) (k_n 377 rfl ?_)
      rintro  h741 f743 K742
      refine go_astore 379 (ls' := #[vi x0, vi x1, vi x2, vi 3, vr a2, vr a486, vr a516, vr r544, vi 2, vi 3, vi 0, vr a720, vr a726]) (D at_377) rfl rfl rfl ?_
      refine go_aload 381 (D at_379) rfl rfl rfl ?_
      refine go_nullF 384 (D at_381) rfl ?_
      refine go_aload 386 (D at_384) rfl rfl rfl ?_
      refine go_aload 388 (D at_386) rfl rfl rfl ?_
      have K744 : Keep h535 h719 [] := ((Keep.refl h535 []).ext X722)
      have K745 : Keep h535 h725 [] := (K744.ext X728)
      have K746 : Keep h535 h741 [] := (K745.trans K742 (allS (Or.inr (Nat.le_trans K744.1 (Nat.le_of_eq g727))) all0))
      have S747 := (f548.keep K746)
      refine go_old (fun O748 => ?_)
      have E749 := (f548.exa.keep K746)
      refine callV0 (cells' := 12) (slots' := 33) (Wd := 0) (argsL := [(.ref a726)]) (rest := []) (pay_eq G O748 S747 f743 (by decide) (by decide)) E749 (wk G 88 rfl) (wk G 89 rfl) (wk G 91 rfl) (wk G 91 rfl) (wk G 90 rfl) (by decide) pd15 rfl rfl (by rw [hml]; rfl) (nb rfl) rfl rfl (by decide) (by decide) all0 (fun _ _ => sf0) (D at_388) (k_v 391 rfl ?_)
      rintro _ _ (⟨rfl, q750, rfl⟩ | ⟨rfl, q750, rfl⟩) -
      rotate_left 1
      · exact absurd rfl q750
      refine go_ifF 394 (D at_391) rfl (by decide) ?_
      refine go_iconst 395 (v := 1) (D at_394) rfl rfl ?_
      refine go_goto 399 (D at_395) (by decide) rfl ?_
      have K751 : Keep h0 h725 [] := (K735.ext X728)
      have K752 : Keep h0 h741 [] := (K751.trans K742 (allS (Or.inr (Nat.le_trans K735.1 (Nat.le_of_eq g727))) all0))
      refine go_ireturn hret hlk rfl (by simp) (D at_399) (by decide) (by decide) ⟨_, rfl, rfl⟩ K752
    · refine go_astore 181 (ls' := #[vi x0, vi x1, vi x2, vi 3, vr a2, vr a486, vr a516, vr a516, un, un, un, un, un]) (D at_179) rfl rfl rfl ?_
      refine go_iconst 182 (v := (-1)) (D at_181) rfl rfl ?_
      refine go_istore 184 (ls' := #[vi x0, vi x1, vi x2, vi 3, vr a2, vr a486, vr a516, vr a516, vi (-1 : Int32), un, un, un, un]) (D at_182) rfl rfl ?_
      refine go_iload_n 185 (D at_184) rfl rfl ?_
      refine go_iconst 186 (v := 4) (D at_185) rfl rfl ?_
      refine go_icT 201 (D at_186) (by decide) rfl (by decide) ?_
      refine go_iload_n 202 (D at_201) rfl rfl ?_
      refine go_iconst 203 (v := 3) (D at_202) rfl rfl ?_
      refine go_icT 218 (D at_203) (by decide) rfl (by decide) ?_
      refine go_iload_n 219 (D at_218) rfl rfl ?_
      refine go_iconst 220 (v := 2) (D at_219) rfl rfl ?_
      refine go_icF 223 (D at_220) rfl (by decide) ?_
      refine go_aload 225 (D at_223) rfl rfl rfl ?_
      refine go_iconst 226 (v := 2) (D at_225) rfl rfl ?_
      have K753 : Keep h1 h12 [a2, a486] := ((Keep.refl h1 [a2, a486]).wr W13 (Or.inl (by simp)))
      have K754 : Keep h1 h20 [a2, a486] := (K753.wr W21 (Or.inl (by simp)))
      have K755 : Keep h1 h28 [a2, a486] := (K754.wr W29 (Or.inl (by simp)))
      have K756 : Keep h1 h36 [a2, a486] := (K755.wr W37 (Or.inl (by simp)))
      have K757 : Keep h1 h44 [a2, a486] := (K756.wr W45 (Or.inl (by simp)))
      have K758 : Keep h1 h485 [a2, a486] := (K757.ext X488)
      have K759 : Keep h1 h493 [a2, a486] := (K758.wr W494 (Or.inl (by simp)))
      have K760 : Keep h1 h508 [a2, a486] := (K759.wr W509 (Or.inl (by simp)))
      have K761 : Keep h1 h512 [a2, a486] := (K760.wr W513 (Or.inl (by simp)))
      have A762 := ((((A511.other W513 (Nat.ne_of_lt (Nat.lt_of_lt_of_le (Nat.lt_of_lt_of_le A5.lt K506.1) (Nat.le_of_eq g487)))).ext X518).keep K532 (ninS (Nat.ne_of_lt (Nat.lt_of_lt_of_le (Nat.lt_of_lt_of_le A5.lt K761.1) (Nat.le_of_eq g517))) nin0)).keep K536 nin0)
      refine go_caload 227 (i := 2) (v := (.int r26)) A762 (by decide) (by decide) rfl rfl (D at_226) rfl ?_
      refine go_bipush 229 (v := 46) (D at_227) rfl rfl ?_
      refine go_icT 235 (D at_229) (by decide) rfl (XT.ii_ne_t f551) ?_
      refine go_iload_n 236 (D at_235) rfl rfl ?_
      refine go_iconst 237 (v := 1) (D at_236) rfl rfl ?_
      refine go_icF 240 (D at_237) rfl (by decide) ?_
      refine go_aload 242 (D at_240) rfl rfl rfl ?_
      refine go_iconst 243 (v := 1) (D at_242) rfl rfl ?_
      refine go_caload 244 (i := 1) (v := (.int r18)) A762 (by decide) (by decide) rfl rfl (D at_243) rfl ?_
      refine go_bipush 246 (v := 46) (D at_244) rfl rfl ?_
      refine go_icT 252 (D at_246) (by decide) rfl (XT.ii_ne_t f550) ?_
      refine go_iload_n 253 (D at_252) rfl rfl ?_
      refine go_ifF 256 (D at_253) rfl (by decide) ?_
      refine go_aload 258 (D at_256) rfl rfl rfl ?_
      refine go_iconst 259 (v := 0) (D at_258) rfl rfl ?_
      refine go_caload 260 (i := 0) (v := (.int r10)) A762 (by decide) (by decide) rfl rfl (D at_259) rfl ?_
      refine go_bipush 262 (v := 46) (D at_260) rfl rfl ?_
      refine go_icT 268 (D at_262) (by decide) rfl (XT.ii_ne_t f549) ?_
      refine go_iload 270 (D at_268) rfl rfl ?_
      refine go_iconst 271 (v := 1) (D at_270) rfl rfl ?_
      refine go_iadd 272 (z := (0 : Int32)) (D at_271) rfl (by decide) ?_
      refine go_istore 274 (ls' := #[vi x0, vi x1, vi x2, vi 3, vr a2, vr a486, vr a516, vr a516, vi (-1 : Int32), vi 0, un, un, un]) (D at_272) rfl rfl ?_
      refine go_iload_n 275 (D at_274) rfl rfl ?_
      refine go_iload 277 (D at_275) rfl rfl ?_
      refine go_isub 278 (z := (3 : Int32)) (D at_277) rfl (by decide) ?_
      refine go_istore 280 (ls' := #[vi x0, vi x1, vi x2, vi 3, vr a2, vr a486, vr a516, vr a516, vi (-1 : Int32), vi 0, vi 3, un, un]) (D at_278) rfl rfl ?_
      refine go_iload 282 (D at_280) rfl rfl ?_
      refine go_newP 284 (cells' := 7) (slots' := 24) (cap := 3) (vs := [(.int 0), (.int 0), (.int 0)]) (ty := .char) (dv := .int 0) (wk G 0 rfl) rfl rfl (D at_282) rfl (by decide) rfl (by decide) rfl rfl rfl (by decide) (by decide) (fun h763 a764 k768 g765 X766 A767 => ?_)
      refine go_astore 286 (ls' := #[vi x0, vi x1, vi x2, vi 3, vr a2, vr a486, vr a516, vr a516, vi (-1 : Int32), vi 0, vi 3, vr a764, un]) (D at_284) rfl rfl rfl ?_
      refine go_iload 288 (D at_286) rfl rfl ?_
      refine go_ifF 291 (D at_288) rfl (by decide) ?_
      refine go_aload 293 (D at_291) rfl rfl rfl ?_
      refine go_iconst 294 (v := 0) (D at_293) rfl rfl ?_
      refine go_aload 296 (D at_294) rfl rfl rfl ?_
      refine go_iload 298 (D at_296) rfl rfl ?_
      have K769 : Keep h535 h763 [] := ((Keep.refl h535 []).ext X766)
      have A770 := (A762.keep K769 nin0)
      refine go_caload 299 (i := 0) (v := (.int r10)) A770 (by decide) (by decide) rfl rfl (D at_298) rfl ?_
      have K774 : Keep h0 h515 [] := (K530.ext X518)
      have K775 : Keep h0 h531 [] := (K774.trans K532 (allS (Or.inr (Nat.le_trans K530.1 (Nat.le_of_eq g517))) all0))
      have K776 : Keep h0 h535 [] := (K775.trans K536 all0)
      refine go_stC 300 (i := 0) (x' := r10) (vs' := [(.int r10), (.int 0), (.int 0)]) A767 (Nat.le_trans O0.2.1 (Nat.le_trans K776.1 (Nat.le_of_eq g765))) (by decide) (by decide) rfl (nb rfl) (i2c_c8 f11) rfl (D at_299) rfl (fun h771 W772 A773 => ?_)
      refine go_iload 302 (D at_300) rfl rfl ?_
      refine go_iconst 303 (v := 1) (D at_302) rfl rfl ?_
      refine go_icF 306 (D at_303) rfl (by decide) ?_
      refine go_aload 308 (D at_306) rfl rfl rfl ?_
      refine go_iconst 309 (v := 1) (D at_308) rfl rfl ?_
      refine go_aload 311 (D at_309) rfl rfl rfl ?_
      refine go_iload 313 (D at_311) rfl rfl ?_
      refine go_iconst 314 (v := 1) (D at_313) rfl rfl ?_
      refine go_iadd 315 (z := (1 : Int32)) (D at_314) rfl (by decide) ?_
      have K777 : Keep h1 h12 [a2, a486, a516] := ((Keep.refl h1 [a2, a486, a516]).wr W13 (Or.inl (by simp)))
      have K778 : Keep h1 h20 [a2, a486, a516] := (K777.wr W21 (Or.inl (by simp)))
      have K779 : Keep h1 h28 [a2, a486, a516] := (K778.wr W29 (Or.inl (by simp)))
      have K780 : Keep h1 h36 [a2, a486, a516] := (K779.wr W37 (Or.inl (by simp)))
      have K781 : Keep h1 h44 [a2, a486, a516] := (K780.wr W45 (Or.inl (by simp)))
      have K782 : Keep h1 h485 [a2, a486, a516] := (K781.ext X488)
      have K783 : Keep h1 h493 [a2, a486, a516] := (K782.wr W494 (Or.inl (by simp)))
      have K784 : Keep h1 h508 [a2, a486, a516] := (K783.wr W509 (Or.inl (by simp)))
      have K785 : Keep h1 h512 [a2, a486, a516] := (K784.wr W513 (Or.inl (by simp)))
      have K786 : Keep h1 h515 [a2, a486, a516] := (K785.ext X518)
      have K787 : Keep h1 h531 [a2, a486, a516] := (K786.trans K532 (allS (Or.inl (by simp)) all0))
      have K788 : Keep h1 h535 [a2, a486, a516] := (K787.trans K536 all0)
      have A789 := (A770.other W772 (Nat.ne_of_lt (Nat.lt_of_lt_of_le (Nat.lt_of_lt_of_le A5.lt K788.1) (Nat.le_of_eq g765))))
      refine go_caload 316 (i := 1) (v := (.int r18)) A789 (by decide) (by decide) rfl rfl (D at_315) rfl ?_
      refine go_stC 317 (i := 1) (x' := r18) (vs' := [(.int r10), (.int r18), (.int 0)]) A773 (Nat.le_trans O0.2.1 (Nat.le_trans K776.1 (Nat.le_of_eq g765))) (by decide) (by decide) rfl (nb rfl) (i2c_c8 f19) rfl (D at_316) rfl (fun h790 W791 A792 => ?_)
      refine go_iload 319 (D at_317) rfl rfl ?_
      refine go_iconst 320 (v := 2) (D at_319) rfl rfl ?_
      refine go_icF 323 (D at_320) rfl (by decide) ?_
      refine go_aload 325 (D at_323) rfl rfl rfl ?_
      refine go_iconst 326 (v := 2) (D at_325) rfl rfl ?_
      refine go_aload 328 (D at_326) rfl rfl rfl ?_
      refine go_iload 330 (D at_328) rfl rfl ?_
      refine go_iconst 331 (v := 2) (D at_330) rfl rfl ?_
      refine go_iadd 332 (z := (2 : Int32)) (D at_331) rfl (by decide) ?_
      have A793 := (A789.other W791 (Nat.ne_of_lt (Nat.lt_of_lt_of_le (Nat.lt_of_lt_of_le A5.lt K788.1) (Nat.le_of_eq g765))))
      refine go_caload 333 (i := 2) (v := (.int r26)) A793 (by decide) (by decide) rfl rfl (D at_332) rfl ?_
      refine go_stC 334 (i := 2) (x' := r26) (vs' := [(.int r10), (.int r18), (.int r26)]) A792 (Nat.le_trans O0.2.1 (Nat.le_trans K776.1 (Nat.le_of_eq g765))) (by decide) (by decide) rfl (nb rfl) (i2c_c8 f27) rfl (D at_333) rfl (fun h794 W795 A796 => ?_)
      refine go_iload 336 (D at_334) rfl rfl ?_
      refine go_iconst 337 (v := 3) (D at_336) rfl rfl ?_
      refine go_icT 351 (D at_337) (by decide) rfl (by decide) ?_
      refine go_iload 353 (D at_351) rfl rfl ?_
      refine go_iconst 354 (v := 4) (D at_353) rfl rfl ?_
      refine go_icT 368 (D at_354) (by decide) rfl (by decide) ?_
      refine go_newO 371 (cells' := 8) (slots' := 28) (wk G 5 rfl) (wk G 6 rfl) (wk G 7 rfl) (D at_368) rfl rfl rfl (by decide) (by decide) (fun h797 a798 g799 X800 E801 D802 U803 => ?_)
      refine go_dup 372 (D at_371) rfl rfl ?_
      refine go_aload 374 (D at_372) rfl rfl rfl ?_
      have F804 := D802 (Or.inr (wk G 20 rfl)) (ty := (.array .byte)) (by decide)
      have F805 := D802 (Or.inr (wk G 21 rfl)) (ty := .byte) (by decide)
      have K806 : Keep h794 h797 [] := ((Keep.refl h794 []).ext X800)
      have A807 := (A796.keep K806 nin0)
      refine go_old (fun O808 => ?_)
      have K809 : Keep h0 h763 [] := (K776.ext X766)
      have K810 : Keep h0 h771 [] := (K809.wr W772 (Or.inr (Nat.le_trans K776.1 (Nat.le_of_eq g765))))
      have K811 : Keep h0 h790 [] := (K810.wr W791 (Or.inr (Nat.le_trans K776.1 (Nat.le_of_eq g765))))
      have K812 : Keep h0 h794 [] := (K811.wr W795 (Or.inr (Nat.le_trans K776.1 (Nat.le_of_eq g765))))
      refine callI0 (cells' := 9) (slots' := 31) (Wd := 1) (argsL := [(.ref a764)]) (rest := [(.ref a798)]) (pay_new G O808 (cs := [r10, r18, r26]) (n := 3) (Nat.le_trans O0.2.1 (Nat.le_trans K812.1 (Nat.le_of_eq g799))) E801 F804 F805 A807 rfl rfl (by decide) (by decide) (c8c f11 (c8c f19 (c8c f27 c8n))) (by decide) (by decide)) rfl (wk G 8 rfl) (wk G 9 rfl) (wk G 10 rfl) (by decide) pd4 rfl rfl (by rw [hml]; rfl) (nb rfl) rfl rfl (by decide) (by decide) (allS (Nat.le_trans O0.2.1 (Nat.le_trans K812.1 (Nat.le_of_eq g799))) all0) (fun _ hal => (sfS (safe_null hal E801 F804) sf0)) (D at_374) (k_n 377 rfl ?_)
      rintro h813 S815 K814
      refine go_astore 379 (ls' := #[vi x0, vi x1, vi x2, vi 3, vr a2, vr a486, vr a516, vr a516, vi (-1 : Int32), vi 0, vi 3, vr a764, vr a798]) (D at_377) rfl rfl rfl ?_
      refine go_aload 381 (D at_379) rfl rfl rfl ?_
      refine go_nullF 384 (D at_381) rfl ?_
      refine go_aload 386 (D at_384) rfl rfl rfl ?_
      refine go_aload 388 (D at_386) rfl rfl rfl ?_
      have K816 : Keep h531 h535 [] := ((Keep.refl h531 []).trans K536 all0)
      have K817 : Keep h531 h763 [] := (K816.ext X766)
      have K818 : Keep h531 h771 [] := (K817.wr W772 (Or.inr (Nat.le_trans K816.1 (Nat.le_of_eq g765))))
      have K819 : Keep h531 h790 [] := (K818.wr W791 (Or.inr (Nat.le_trans K816.1 (Nat.le_of_eq g765))))
      have K820 : Keep h531 h794 [] := (K819.wr W795 (Or.inr (Nat.le_trans K816.1 (Nat.le_of_eq g765))))
      have K821 : Keep h531 h797 [] := (K820.ext X800)
      have K822 : Keep h531 h813 [] := (K821.trans K814 (allS (Or.inr (Nat.le_trans K820.1 (Nat.le_of_eq g799))) all0))
      have S823 := (S533.keep K822)
      refine go_old (fun O824 => ?_)
      have E825 := ((((((((E519.keep K532).keep K536).ext X766).wr W772).wr W791).wr W795).ext X800).keep K814)
      refine callV0 (cells' := 9) (slots' := 31) (Wd := 0) (argsL := [(.ref a798)]) (rest := []) (pay_eq G O824 S823 S815 (by decide) (by decide)) E825 (wk G 88 rfl) (wk G 89 rfl) (wk G 91 rfl) (wk G 91 rfl) (wk G 90 rfl) (by decide) pd15 rfl rfl (by rw [hml]; rfl) (nb rfl) rfl rfl (by decide) (by decide) all0 (fun _ _ => sf0) (D at_388) (k_v 391 rfl ?_)
      rintro _ _ (⟨rfl, q826, rfl⟩ | ⟨rfl, q826, rfl⟩) -
      rotate_left 1
      · exact absurd rfl q826
      refine go_ifF 394 (D at_391) rfl (by decide) ?_
      refine go_iconst 395 (v := 1) (D at_394) rfl rfl ?_
      refine go_goto 399 (D at_395) (by decide) rfl ?_
      have K827 : Keep h0 h797 [] := (K812.ext X800)
      have K828 : Keep h0 h813 [] := (K827.trans K814 (allS (Or.inr (Nat.le_trans K812.1 (Nat.le_of_eq g799))) all0))
      refine go_ireturn hret hlk rfl (by simp) (D at_399) (by decide) (by decide) ⟨_, rfl, rfl⟩ K828
  · rw [q47]
    refine go_iload_n 95 (D at_94) rfl rfl ?_
    refine go_newP 97 (cells' := 2) (slots' := 9) (cap := 4) (vs := [(.int 0), (.int 0), (.int 0), (.int 0)]) (ty := .char) (dv := .int 0) (wk G 0 rfl) rfl rfl (D at_95) rfl (by decide) rfl (by decide) rfl rfl rfl (by decide) (by decide) (fun h829 a830 k834 g831 X832 A833 => ?_)
    refine go_astore 99 (ls' := #[vi x0, vi x1, vi x2, vi 4, vr a2, vr a830, un, un, un, un, un, un, un]) (D at_97) rfl rfl rfl ?_
    refine go_iload_n 100 (D at_99) rfl rfl ?_
    refine go_ifF 103 (D at_100) rfl (by decide) ?_
    refine go_aload 105 (D at_103) rfl rfl rfl ?_
    refine go_iconst 106 (v := 0) (D at_105) rfl rfl ?_
    refine go_aload 108 (D at_106) rfl rfl rfl ?_
    refine go_iconst 109 (v := 0) (D at_108) rfl rfl ?_
    have K835 : Keep h44 h829 [] := ((Keep.refl h44 []).ext X832)
    have A836 := (A46.keep K835 nin0)
    refine go_caload 110 (i := 0) (v := (.int r10)) A836 (by decide) (by decide) rfl rfl (D at_109) rfl ?_
    have K840 : Keep h0 h1 [] := ((Keep.refl h0 []).ext X4)
    have K841 : Keep h0 h12 [] := (K840.wr W13 (Or.inr (Nat.le_of_eq g3)))
    have K842 : Keep h0 h20 [] := (K841.wr W21 (Or.inr (Nat.le_of_eq g3)))
    have K843 : Keep h0 h28 [] := (K842.wr W29 (Or.inr (Nat.le_of_eq g3)))
    have K844 : Keep h0 h36 [] := (K843.wr W37 (Or.inr (Nat.le_of_eq g3)))
    have K845 : Keep h0 h44 [] := (K844.wr W45 (Or.inr (Nat.le_of_eq g3)))
    refine go_stC 111 (i := 0) (x' := r10) (vs' := [(.int r10), (.int 0), (.int 0), (.int 0)]) A833 (Nat.le_trans O0.2.1 (Nat.le_trans K845.1 (Nat.le_of_eq g831))) (by decide) (by decide) rfl (nb rfl) (i2c_c8 f11) rfl (D at_110) rfl (fun h837 W838 A839 => ?_)
    refine go_iload_n 112 (D at_111) rfl rfl ?_
    refine go_iconst 113 (v := 1) (D at_112) rfl rfl ?_
    refine go_icF 116 (D at_113) rfl (by decide) ?_
    refine go_aload 118 (D at_116) rfl rfl rfl ?_
    refine go_iconst 119 (v := 1) (D at_118) rfl rfl ?_
    refine go_aload 121 (D at_119) rfl rfl rfl ?_
    refine go_iconst 122 (v := 1) (D at_121) rfl rfl ?_
    have K846 : Keep h1 h12 [a2] := ((Keep.refl h1 [a2]).wr W13 (Or.inl (by simp)))
    have K847 : Keep h1 h20 [a2] := (K846.wr W21 (Or.inl (by simp)))
    have K848 : Keep h1 h28 [a2] := (K847.wr W29 (Or.inl (by simp)))
    have K849 : Keep h1 h36 [a2] := (K848.wr W37 (Or.inl (by simp)))
    have K850 : Keep h1 h44 [a2] := (K849.wr W45 (Or.inl (by simp)))
    have A851 := (A836.other W838 (Nat.ne_of_lt (Nat.lt_of_lt_of_le (Nat.lt_of_lt_of_le A5.lt K850.1) (Nat.le_of_eq g831))))
    refine go_caload 123 (i := 1) (v := (.int r18)) A851 (by decide) (by decide) rfl rfl (D at_122) rfl ?_
    refine go_stC 124 (i := 1) (x' := r18) (vs' := [(.int r10), (.int r18), (.int 0), (.int 0)]) A839 (Nat.le_trans O0.2.1 (Nat.le_trans K845.1 (Nat.le_of_eq g831))) (by decide) (by decide) rfl (nb rfl) (i2c_c8 f19) rfl (D at_123) rfl (fun h852 W853 A854 => ?_)
    refine go_iload_n 125 (D at_124) rfl rfl ?_
    refine go_iconst 126 (v := 2) (D at_125) rfl rfl ?_
    refine go_icF 129 (D at_126) rfl (by decide) ?_
    refine go_aload 131 (D at_129) rfl rfl rfl ?_
    refine go_iconst 132 (v := 2) (D at_131) rfl rfl ?_
    refine go_aload 134 (D at_132) rfl rfl rfl ?_
    refine go_iconst 135 (v := 2) (D at_134) rfl rfl ?_
    have A855 := (A851.other W853 (Nat.ne_of_lt (Nat.lt_of_lt_of_le (Nat.lt_of_lt_of_le A5.lt K850.1) (Nat.le_of_eq g831))))
    refine go_caload 136 (i := 2) (v := (.int r26)) A855 (by decide) (by decide) rfl rfl (D at_135) rfl ?_
    refine go_stC 137 (i := 2) (x' := r26) (vs' := [(.int r10), (.int r18), (.int r26), (.int 0)]) A854 (Nat.le_trans O0.2.1 (Nat.le_trans K845.1 (Nat.le_of_eq g831))) (by decide) (by decide) rfl (nb rfl) (i2c_c8 f27) rfl (D at_136) rfl (fun h856 W857 A858 => ?_)
    refine go_iload_n 138 (D at_137) rfl rfl ?_
    refine go_iconst 139 (v := 3) (D at_138) rfl rfl ?_
    refine go_icF 142 (D at_139) rfl (by decide) ?_
    refine go_aload 144 (D at_142) rfl rfl rfl ?_
    refine go_iconst 145 (v := 3) (D at_144) rfl rfl ?_
    refine go_aload 147 (D at_145) rfl rfl rfl ?_
    refine go_iconst 148 (v := 3) (D at_147) rfl rfl ?_
    have A859 := (A855.other W857 (Nat.ne_of_lt (Nat.lt_of_lt_of_le (Nat.lt_of_lt_of_le A5.lt K850.1) (Nat.le_of_eq g831))))
    refine go_caload 149 (i := 3) (v := (.int r34)) A859 (by decide) (by decide) rfl rfl (D at_148) rfl ?_
    refine go_stC 150 (i := 3) (x' := r34) (vs' := [(.int r10), (.int r18), (.int r26), (.int r34)]) A858 (Nat.le_trans O0.2.1 (Nat.le_trans K845.1 (Nat.le_of_eq g831))) (by decide) (by decide) rfl (nb rfl) (i2c_c8 f35) rfl (D at_149) rfl (fun h860 W861 A862 => ?_)
    refine go_iload_n 151 (D at_150) rfl rfl ?_
    refine go_iconst 152 (v := 4) (D at_151) rfl rfl ?_
    refine go_icT 163 (D at_152) (by decide) rfl (by decide) ?_
    refine go_newO 166 (cells' := 3) (slots' := 13) (wk G 5 rfl) (wk G 6 rfl) (wk G 7 rfl) (D at_163) rfl rfl rfl (by decide) (by decide) (fun h863 a864 g865 X866 E867 D868 U869 => ?_)
    refine go_dup 167 (D at_166) rfl rfl ?_
    refine go_aload 169 (D at_167) rfl rfl rfl ?_
    have F870 := D868 (Or.inr (wk G 20 rfl)) (ty := (.array .byte)) (by decide)
    have F871 := D868 (Or.inr (wk G 21 rfl)) (ty := .byte) (by decide)
    have K872 : Keep h860 h863 [] := ((Keep.refl h860 []).ext X866)
    have A873 := (A862.keep K872 nin0)
    refine go_old (fun O874 => ?_)
    have K875 : Keep h0 h829 [] := (K845.ext X832)
    have K876 : Keep h0 h837 [] := (K875.wr W838 (Or.inr (Nat.le_trans K845.1 (Nat.le_of_eq g831))))
    have K877 : Keep h0 h852 [] := (K876.wr W853 (Or.inr (Nat.le_trans K845.1 (Nat.le_of_eq g831))))
    have K878 : Keep h0 h856 [] := (K877.wr W857 (Or.inr (Nat.le_trans K845.1 (Nat.le_of_eq g831))))
    have K879 : Keep h0 h860 [] := (K878.wr W861 (Or.inr (Nat.le_trans K845.1 (Nat.le_of_eq g831))))
    refine callI0 (cells' := 4) (slots' := 17) (Wd := 1) (argsL := [(.ref a830)]) (rest := [(.ref a864)]) (pay_new G O874 (cs := [r10, r18, r26, r34]) (n := 4) (Nat.le_trans O0.2.1 (Nat.le_trans K879.1 (Nat.le_of_eq g865))) E867 F870 F871 A873 rfl rfl (by decide) (by decide) (c8c f11 (c8c f19 (c8c f27 (c8c f35 c8n)))) (by decide) (by decide)) rfl (wk G 8 rfl) (wk G 9 rfl) (wk G 10 rfl) (by decide) pd4 rfl rfl (by rw [hml]; rfl) (nb rfl) rfl rfl (by decide) (by decide) (allS (Nat.le_trans O0.2.1 (Nat.le_trans K879.1 (Nat.le_of_eq g865))) all0) (fun _ hal => (sfS (safe_null hal E867 F870) sf0)) (D at_169) (k_n 172 rfl ?_)
    rintro h880 S882 K881
    refine go_astore 174 (ls' := #[vi x0, vi x1, vi x2, vi 4, vr a2, vr a830, vr a864, un, un, un, un, un, un]) (D at_172) rfl rfl rfl ?_
    refine go_aload 176 (D at_174) rfl rfl rfl ?_
    refine go_old (fun O883 => ?_)
    refine callSW0 rfl (cells' := 6) (slots' := 24) (Wd := 0) (argsL := [(.ref a864)]) (rest := []) (payW_of (a0 := a0) (c_unq4 l G a864 r10 r18 r26 r34 h880 O883 S882) (wk G 29 rfl) (wk G 28 rfl) (by decide) (by decide) (ew1 G)) (wk G 26 rfl) (wk G 27 rfl) (wk G 28 rfl) (wk G 29 rfl) (by decide) pd14 rfl rfl (by rw [hml]; rfl) (nb rfl) rfl rfl (by decide) (by decide) all0 (D at_176) (k_v 179 rfl ?_)
    rintro _ h884 (⟨r886, rfl, f887, f888⟩ | ⟨r889, rfl, f890, f891, f892⟩ | ⟨r893, rfl, f894, f895, f896, f897⟩ | ⟨r898, rfl, f899, f900, f901, f902, f903⟩ | ⟨rfl, f904, f905, f906, f907⟩) K885
    · refine go_astore 181 (ls' := #[vi x0, vi x1, vi x2, vi 4, vr a2, vr a830, vr a864, vr r886, un, un, un, un, un]) (D at_179) rfl rfl rfl ?_
      refine go_iconst 182 (v := (-1)) (D at_181) rfl rfl ?_
      refine go_istore 184 (ls' := #[vi x0, vi x1, vi x2, vi 4, vr a2, vr a830, vr a864, vr r886, vi (-1 : Int32), un, un, un, un]) (D at_182) rfl rfl ?_
      refine go_iload_n 185 (D at_184) rfl rfl ?_
      refine go_iconst 186 (v := 4) (D at_185) rfl rfl ?_
      refine go_icT 201 (D at_186) (by decide) rfl (by decide) ?_
      refine go_cut (α := Int32) (P := fun q => True) (gf := fun q => mkF m_ 218 #[.val (.int x0), .val (.int x1), .val (.int x2), .val (.int 4), .val (.ref a2), .val (.ref a830), .val (.ref a864), .val (.ref r886), .val (.int q), .unset, .unset, .unset, .unset] []) ?_ ?_
      · rintro d908 -
        try dsimp only
        refine go_cut (α := Int32) (P := fun q => True) (gf := fun q => mkF m_ 235 #[.val (.int x0), .val (.int x1), .val (.int x2), .val (.int 4), .val (.ref a2), .val (.ref a830), .val (.ref a864), .val (.ref r886), .val (.int q), .unset, .unset, .unset, .unset] []) ?_ ?_
        · rintro d910 -
          try dsimp only
          refine go_cut (α := Int32) (P := fun q => True) (gf := fun q => mkF m_ 252 #[.val (.int x0), .val (.int x1), .val (.int x2), .val (.int 4), .val (.ref a2), .val (.ref a830), .val (.ref a864), .val (.ref r886), .val (.int q), .unset, .unset, .unset, .unset] []) ?_ ?_
          · rintro d912 -
            try dsimp only
            refine go_iload_n 253 (D at_252) rfl rfl ?_
            refine go_ifF 256 (D at_253) rfl (by decide) ?_
            refine go_aload 258 (D at_256) rfl rfl rfl ?_
            refine go_iconst 259 (v := 0) (D at_258) rfl rfl ?_
            have K914 : Keep h1 h12 [a2, a830] := ((Keep.refl h1 [a2, a830]).wr W13 (Or.inl (by simp)))
            have K915 : Keep h1 h20 [a2, a830] := (K914.wr W21 (Or.inl (by simp)))
            have K916 : Keep h1 h28 [a2, a830] := (K915.wr W29 (Or.inl (by simp)))
            have K917 : Keep h1 h36 [a2, a830] := (K916.wr W37 (Or.inl (by simp)))
            have K918 : Keep h1 h44 [a2, a830] := (K917.wr W45 (Or.inl (by simp)))
            have K919 : Keep h1 h829 [a2, a830] := (K918.ext X832)
            have K920 : Keep h1 h837 [a2, a830] := (K919.wr W838 (Or.inl (by simp)))
            have K921 : Keep h1 h852 [a2, a830] := (K920.wr W853 (Or.inl (by simp)))
            have K922 : Keep h1 h856 [a2, a830] := (K921.wr W857 (Or.inl (by simp)))
            have K923 : Keep h1 h860 [a2, a830] := (K922.wr W861 (Or.inl (by simp)))
            have A924 := ((((A859.other W861 (Nat.ne_of_lt (Nat.lt_of_lt_of_le (Nat.lt_of_lt_of_le A5.lt K850.1) (Nat.le_of_eq g831)))).ext X866).keep K881 (ninS (Nat.ne_of_lt (Nat.lt_of_lt_of_le (Nat.lt_of_lt_of_le A5.lt K923.1) (Nat.le_of_eq g865))) nin0)).keep K885 nin0)
            refine go_caload 260 (i := 0) (v := (.int r10)) A924 (by decide) (by decide) rfl rfl (D at_259) rfl ?_
            refine go_bipush 262 (v := 46) (D at_260) rfl rfl ?_
            refine go_icF 265 (D at_262) rfl (XT.ii_ne_f f887) ?_
            refine go_iconst 266 (v := 0) (D at_265) rfl rfl ?_
            refine go_istore 268 (ls' := #[vi x0, vi x1, vi x2, vi 4, vr a2, vr a830, vr a864, vr r886, vi 0, un, un, un, un]) (D at_266) rfl rfl ?_
            refine go_iload 270 (D at_268) rfl rfl ?_
            refine go_iconst 271 (v := 1) (D at_270) rfl rfl ?_
            refine go_iadd 272 (z := (1 : Int32)) (D at_271) rfl (by decide) ?_
            refine go_istore 274 (ls' := #[vi x0, vi x1, vi x2, vi 4, vr a2, vr a830, vr a864, vr r886, vi 0, vi 1, un, un, un]) (D at_272) rfl rfl ?_
            refine go_iload_n 275 (D at_274) rfl rfl ?_
            refine go_iload 277 (D at_275) rfl rfl ?_
            refine go_isub 278 (z := (3 : Int32)) (D at_277) rfl (by decide) ?_
            refine go_istore 280 (ls' := #[vi x0, vi x1, vi x2, vi 4, vr a2, vr a830, vr a864, vr r886, vi 0, vi 1, vi 3, un, un]) (D at_278) rfl rfl ?_
            refine go_iload 282 (D at_280) rfl rfl ?_
            refine go_newP 284 (cells' := 7) (slots' := 27) (cap := 3) (vs := [(.int 0), (.int 0), (.int 0)]) (ty := .char) (dv := .int 0) (wk G 0 rfl) rfl rfl (D at_282) rfl (by decide) rfl (by decide) rfl rfl rfl (by decide) (by decide) (fun h925 a926 k930 g927 X928 A929 => ?_)
            refine go_astore 286 (ls' := #[vi x0, vi x1, vi x2, vi 4, vr a2, vr a830, vr a864, vr r886, vi 0, vi 1, vi 3, vr a926, un]) (D at_284) rfl rfl rfl ?_
            refine go_iload 288 (D at_286) rfl rfl ?_
            refine go_ifF 291 (D at_288) rfl (by decide) ?_
            refine go_aload 293 (D at_291) rfl rfl rfl ?_
            refine go_iconst 294 (v := 0) (D at_293) rfl rfl ?_
            refine go_aload 296 (D at_294) rfl rfl rfl ?_
            refine go_iload 298 (D at_296) rfl rfl ?_
            have K931 : Keep h884 h925 [] := ((Keep.refl h884 []).ext X928)
            have A932 := (A924.keep K931 nin0)
            refine go_caload 299 (i := 1) (v := (.int r18)) A932 (by decide) (by decide) rfl rfl (D at_298) rfl ?_
            have K936 : Keep h0 h863 [] := (K879.ext X866)
            have K937 : Keep h0 h880 [] := (K936.trans K881 (allS (Or.inr (Nat.le_trans K879.1 (Nat.le_of_eq g865))) all0))
            have K938 : Keep h0 h884 [] := (K937.trans K885 all0)
            refine go_stC 300 (i := 0) (x' := r18) (vs' := [(.int r18), (.int 0), (.int 0)]) A929 (Nat.le_trans O0.2.1 (Nat.le_trans K938.1 (Nat.le_of_eq g927))) (by decide) (by decide) rfl (nb rfl) (i2c_c8 f19) rfl (D at_299) rfl (fun h933 W934 A935 => ?_)
            refine go_iload 302 (D at_300) rfl rfl ?_
            refine go_iconst 303 (v := 1) (D at_302) rfl rfl ?_
            refine go_icF 306 (D at_303) rfl (by decide) ?_
            refine go_aload 308 (D at_306) rfl rfl rfl ?_
            refine go_iconst 309 (v := 1) (D at_308) rfl rfl ?_
            refine go_aload 311 (D at_309) rfl rfl rfl ?_
            refine go_iload 313 (D at_311) rfl rfl ?_
            refine go_iconst 314 (v := 1) (D at_313) rfl rfl ?_
            refine go_iadd 315 (z := (2 : Int32)) (D at_314) rfl (by decide) ?_
            have K939 : Keep h1 h12 [a2, a830, a864] := ((Keep.refl h1 [a2, a830, a864]).wr W13 (Or.inl (by simp)))
            have K940 : Keep h1 h20 [a2, a830, a864] := (K939.wr W21 (Or.inl (by simp)))
            have K941 : Keep h1 h28 [a2, a830, a864] := (K940.wr W29 (Or.inl (by simp)))
            have K942 : Keep h1 h36 [a2, a830, a864] := (K941.wr W37 (Or.inl (by simp)))
            have K943 : Keep h1 h44 [a2, a830, a864] := (K942.wr W45 (Or.inl (by simp)))
            have K944 : Keep h1 h829 [a2, a830, a864] := (K943.ext X832)
            have K945 : Keep h1 h837 [a2, a830, a864] := (K944.wr W838 (Or.inl (by simp)))
            have K946 : Keep h1 h852 [a2, a830, a864] := (K945.wr W853 (Or.inl (by simp)))
            have K947 : Keep h1 h856 [a2, a830, a864] := (K946.wr W857 (Or.inl (by simp)))
            have K948 : Keep h1 h860 [a2, a830, a864] := (K947.wr W861 (Or.inl (by simp)))
            have K949 : Keep h1 h863 [a2, a830, a864] := (K948.ext X866)
            have K950 : Keep h1 h880 [a2, a830, a864] := (K949.trans K881 (allS (Or.inl (by simp)) all0))
            have K951 : Keep h1 h884 [a2, a830, a864] := (K950.trans K885 all0)
            have A952 := (A932.other W934 (Nat.ne_of_lt (Nat.lt_of_lt_of_le (Nat.lt_of_lt_of_le A5.lt K951.1) (Nat.le_of_eq g927))))
            refine go_caload 316 (i := 2) (v := (.int r26)) A952 (by decide) (by decide) rfl rfl (D at_315) rfl ?_
            refine go_stC 317 (i := 1) (x' := r26) (vs' := [(.int r18), (.int r26), (.int 0)]) A935 (Nat.le_trans O0.2.1 (Nat.le_trans K938.1 (Nat.le_of_eq g927))) (by decide) (by decide) rfl (nb rfl) (i2c_c8 f27) rfl (D at_316) rfl (fun h953 W954 A955 => ?_)
            refine go_iload 319 (D at_317) rfl rfl ?_
            refine go_iconst 320 (v := 2) (D at_319) rfl rfl ?_
            refine go_icF 323 (D at_320) rfl (by decide) ?_
            refine go_aload 325 (D at_323) rfl rfl rfl ?_
            refine go_iconst 326 (v := 2) (D at_325) rfl rfl ?_
            refine go_aload 328 (D at_326) rfl rfl rfl ?_
            refine go_iload 330 (D at_328) rfl rfl ?_
            refine go_iconst 331 (v := 2) (D at_330) rfl rfl ?_
            refine go_iadd 332 (z := (3 : Int32)) (D at_331) rfl (by decide) ?_
            have A956 := (A952.other W954 (Nat.ne_of_lt (Nat.lt_of_lt_of_le (Nat.lt_of_lt_of_le A5.lt K951.1) (Nat.le_of_eq g927))))
            refine go_caload 333 (i := 3) (v := (.int r34)) A956 (by decide) (by decide) rfl rfl (D at_332) rfl ?_
            refine go_stC 334 (i := 2) (x' := r34) (vs' := [(.int r18), (.int r26), (.int r34)]) A955 (Nat.le_trans O0.2.1 (Nat.le_trans K938.1 (Nat.le_of_eq g927))) (by decide) (by decide) rfl (nb rfl) (i2c_c8 f35) rfl (D at_333) rfl (fun h957 W958 A959 => ?_)
            refine go_iload 336 (D at_334) rfl rfl ?_
            refine go_iconst 337 (v := 3) (D at_336) rfl rfl ?_
            refine go_icT 351 (D at_337) (by decide) rfl (by decide) ?_
            refine go_iload 353 (D at_351) rfl rfl ?_
            refine go_iconst 354 (v := 4) (D at_353) rfl rfl ?_
            refine go_icT 368 (D at_354) (by decide) rfl (by decide) ?_
            refine go_newO 371 (cells' := 8) (slots' := 31) (wk G 5 rfl) (wk G 6 rfl) (wk G 7 rfl) (D at_368) rfl rfl rfl (by decide) (by decide) (fun h960 a961 g962 X963 E964 D965 U966 => ?_)
            refine go_dup 372 (D at_371) rfl rfl ?_
            refine go_aload 374 (D at_372) rfl rfl rfl ?_
            have F967 := D965 (Or.inr (wk G 20 rfl)) (ty := (.array .byte)) (by decide)
            have F968 := D965 (Or.inr (wk G 21 rfl)) (ty := .byte) (by decide)
            have K969 : Keep h957 h960 [] := ((Keep.refl h957 []).ext X963)
            have A970 := (A959.keep K969 nin0)
            refine go_old (fun O971 => ?_)
            have K972 : Keep h0 h925 [] := (K938.ext X928)
            have K973 : Keep h0 h933 [] := (K972.wr W934 (Or.inr (Nat.le_trans K938.1 (Nat.le_of_eq g927))))
            have K974 : Keep h0 h953 [] := (K973.wr W954 (Or.inr (Nat.le_trans K938.1 (Nat.le_of_eq g927))))
            have K975 : Keep h0 h957 [] := (K974.wr W958 (Or.inr (Nat.le_trans K938.1 (Nat.le_of_eq g927))))
            refine callI0 (cells' := 9) (slots' := 34) (Wd := 1) (argsL := [(.ref a926)]) (rest := [(.ref a961)]) (pay_new G O971 (cs := [r18, r26, r34]) (n := 3) (Nat.le_trans O0.2.1 (Nat.le_trans K975.1 (Nat.le_of_eq g962))) E964 F967 F968 A970 rfl rfl (by decide) (by decide) (c8c f19 (c8c f27 (c8c f35 c8n))) (by decide) (by decide)) rfl (wk G 8 rfl) (wk G 9 rfl) (wk G 10 rfl) (by decide) pd4 rfl rfl (by rw [hml]; rfl) (nb rfl) rfl rfl (by decide) (by decide) (allS (Nat.le_trans O0.2.1 (Nat.le_trans K975.1 (Nat.le_of_eq g962))) all0) (fun _ hal => (sfS (safe_null hal E964 F967) sf0)) (D at_374) (k_n 377 rfl ?_)
            rintro h976 S978 K977
            refine go_astore 379 (ls' := #[vi x0, vi x1, vi x2, vi 4, vr a2, vr a830, vr a864, vr r886, vi 0, vi 1, vi 3, vr a926, vr a961]) (D at_377) rfl rfl rfl ?_
            refine go_aload 381 (D at_379) rfl rfl rfl ?_
            refine go_nullF 384 (D at_381) rfl ?_
            refine go_aload 386 (D at_384) rfl rfl rfl ?_
            refine go_aload 388 (D at_386) rfl rfl rfl ?_
            have K979 : Keep h884 h933 [] := (K931.wr W934 (Or.inr (Nat.le_of_eq g927)))
            have K980 : Keep h884 h953 [] := (K979.wr W954 (Or.inr (Nat.le_of_eq g927)))
            have K981 : Keep h884 h957 [] := (K980.wr W958 (Or.inr (Nat.le_of_eq g927)))
            have K982 : Keep h884 h960 [] := (K981.ext X963)
            have K983 : Keep h884 h976 [] := (K982.trans K977 (allS (Or.inr (Nat.le_trans K981.1 (Nat.le_of_eq g962))) all0))
            have S984 := (f888.keep K983)
            refine go_old (fun O985 => ?_)
            have E986 := (f888.exa.keep K983)
            refine callV0 (cells' := 9) (slots' := 34) (Wd := 0) (argsL := [(.ref a961)]) (rest := []) (pay_eq G O985 S984 S978 (by decide) (by decide)) E986 (wk G 88 rfl) (wk G 89 rfl) (wk G 91 rfl) (wk G 91 rfl) (wk G 90 rfl) (by decide) pd15 rfl rfl (by rw [hml]; rfl) (nb rfl) rfl rfl (by decide) (by decide) all0 (fun _ _ => sf0) (D at_388) (k_v 391 rfl ?_)
            rintro _ _ (⟨rfl, q987, rfl⟩ | ⟨rfl, q987, rfl⟩) -
            rotate_left 1
            · exact absurd rfl q987
            refine go_ifF 394 (D at_391) rfl (by decide) ?_
            refine go_iconst 395 (v := 1) (D at_394) rfl rfl ?_
            refine go_goto 399 (D at_395) (by decide) rfl ?_
            have K988 : Keep h0 h960 [] := (K975.ext X963)
            have K989 : Keep h0 h976 [] := (K988.trans K977 (allS (Or.inr (Nat.le_trans K975.1 (Nat.le_of_eq g962))) all0))
            refine go_ireturn hret hlk rfl (by simp) (D at_399) (by decide) (by decide) ⟨_, rfl, rfl⟩ K989
          · intro J913
            refine go_iload_n 236 (D at_235) rfl rfl ?_
            refine go_iconst 237 (v := 1) (D at_236) rfl rfl ?_
            refine go_icF 240 (D at_237) rfl (by decide) ?_
            refine go_aload 242 (D at_240) rfl rfl rfl ?_
            refine go_iconst 243 (v := 1) (D at_242) rfl rfl ?_
            have K990 : Keep h1 h12 [a2, a830] := ((Keep.refl h1 [a2, a830]).wr W13 (Or.inl (by simp)))
            have K991 : Keep h1 h20 [a2, a830] := (K990.wr W21 (Or.inl (by simp)))
            have K992 : Keep h1 h28 [a2, a830] := (K991.wr W29 (Or.inl (by simp)))
            have K993 : Keep h1 h36 [a2, a830] := (K992.wr W37 (Or.inl (by simp)))
            have K994 : Keep h1 h44 [a2, a830] := (K993.wr W45 (Or.inl (by simp)))
            have K995 : Keep h1 h829 [a2, a830] := (K994.ext X832)
            have K996 : Keep h1 h837 [a2, a830] := (K995.wr W838 (Or.inl (by simp)))
            have K997 : Keep h1 h852 [a2, a830] := (K996.wr W853 (Or.inl (by simp)))
            have K998 : Keep h1 h856 [a2, a830] := (K997.wr W857 (Or.inl (by simp)))
            have K999 : Keep h1 h860 [a2, a830] := (K998.wr W861 (Or.inl (by simp)))
            have A1000 := ((((A859.other W861 (Nat.ne_of_lt (Nat.lt_of_lt_of_le (Nat.lt_of_lt_of_le A5.lt K850.1) (Nat.le_of_eq g831)))).ext X866).keep K881 (ninS (Nat.ne_of_lt (Nat.lt_of_lt_of_le (Nat.lt_of_lt_of_le A5.lt K999.1) (Nat.le_of_eq g865))) nin0)).keep K885 nin0)
            refine go_caload 244 (i := 1) (v := (.int r18)) A1000 (by decide) (by decide) rfl rfl (D at_243) rfl ?_
            refine go_bipush 246 (v := 46) (D at_244) rfl rfl ?_
            by_cases cz1001 : r18 = (46 : Int32)
            · refine go_icF 249 (D at_246) rfl (XT.ii_ne_f cz1001) ?_
              refine go_iconst 250 (v := 1) (D at_249) rfl rfl ?_
              refine go_istore 252 (ls' := #[vi x0, vi x1, vi x2, vi 4, vr a2, vr a830, vr a864, vr r886, vi 1, un, un, un, un]) (D at_250) rfl rfl ?_
              exact J913 (1 : Int32) trivial
            · refine go_icT 252 (D at_246) (by decide) rfl (XT.ii_ne_t cz1001) ?_
              exact J913 d910 trivial
        · intro J911
          refine go_iload_n 219 (D at_218) rfl rfl ?_
          refine go_iconst 220 (v := 2) (D at_219) rfl rfl ?_
          refine go_icF 223 (D at_220) rfl (by decide) ?_
          refine go_aload 225 (D at_223) rfl rfl rfl ?_
          refine go_iconst 226 (v := 2) (D at_225) rfl rfl ?_
          have K1002 : Keep h1 h12 [a2, a830] := ((Keep.refl h1 [a2, a830]).wr W13 (Or.inl (by simp)))
          have K1003 : Keep h1 h20 [a2, a830] := (K1002.wr W21 (Or.inl (by simp)))
          have K1004 : Keep h1 h28 [a2, a830] := (K1003.wr W29 (Or.inl (by simp)))
          have K1005 : Keep h1 h36 [a2, a830] := (K1004.wr W37 (Or.inl (by simp)))
          have K1006 : Keep h1 h44 [a2, a830] := (K1005.wr W45 (Or.inl (by simp)))
          have K1007 : Keep h1 h829 [a2, a830] := (K1006.ext X832)
          have K1008 : Keep h1 h837 [a2, a830] := (K1007.wr W838 (Or.inl (by simp)))
          have K1009 : Keep h1 h852 [a2, a830] := (K1008.wr W853 (Or.inl (by simp)))
          have K1010 : Keep h1 h856 [a2, a830] := (K1009.wr W857 (Or.inl (by simp)))
          have K1011 : Keep h1 h860 [a2, a830] := (K1010.wr W861 (Or.inl (by simp)))
          have A1012 := ((((A859.other W861 (Nat.ne_of_lt (Nat.lt_of_lt_of_le (Nat.lt_of_lt_of_le A5.lt K850.1) (Nat.le_of_eq g831)))).ext X866).keep K881 (ninS (Nat.ne_of_lt (Nat.lt_of_lt_of_le (Nat.lt_of_lt_of_le A5.lt K1011.1) (Nat.le_of_eq g865))) nin0)).keep K885 nin0)
          refine go_caload 227 (i := 2) (v := (.int r26)) A1012 (by decide) (by decide) rfl rfl (D at_226) rfl ?_
          refine go_bipush 229 (v := 46) (D at_227) rfl rfl ?_
          by_cases cz1013 : r26 = (46 : Int32)
          · refine go_icF 232 (D at_229) rfl (XT.ii_ne_f cz1013) ?_
            refine go_iconst 233 (v := 2) (D at_232) rfl rfl ?_
            refine go_istore 235 (ls' := #[vi x0, vi x1, vi x2, vi 4, vr a2, vr a830, vr a864, vr r886, vi 2, un, un, un, un]) (D at_233) rfl rfl ?_
            exact J911 (2 : Int32) trivial
          · refine go_icT 235 (D at_229) (by decide) rfl (XT.ii_ne_t cz1013) ?_
            exact J911 d908 trivial
      · intro J909
        refine go_iload_n 202 (D at_201) rfl rfl ?_
        refine go_iconst 203 (v := 3) (D at_202) rfl rfl ?_
        refine go_icF 206 (D at_203) rfl (by decide) ?_
        refine go_aload 208 (D at_206) rfl rfl rfl ?_
        refine go_iconst 209 (v := 3) (D at_208) rfl rfl ?_
        have K1014 : Keep h1 h12 [a2, a830] := ((Keep.refl h1 [a2, a830]).wr W13 (Or.inl (by simp)))
        have K1015 : Keep h1 h20 [a2, a830] := (K1014.wr W21 (Or.inl (by simp)))
        have K1016 : Keep h1 h28 [a2, a830] := (K1015.wr W29 (Or.inl (by simp)))
        have K1017 : Keep h1 h36 [a2, a830] := (K1016.wr W37 (Or.inl (by simp)))
        have K1018 : Keep h1 h44 [a2, a830] := (K1017.wr W45 (Or.inl (by simp)))
        have K1019 : Keep h1 h829 [a2, a830] := (K1018.ext X832)
        have K1020 : Keep h1 h837 [a2, a830] := (K1019.wr W838 (Or.inl (by simp)))
        have K1021 : Keep h1 h852 [a2, a830] := (K1020.wr W853 (Or.inl (by simp)))
        have K1022 : Keep h1 h856 [a2, a830] := (K1021.wr W857 (Or.inl (by simp)))
        have K1023 : Keep h1 h860 [a2, a830] := (K1022.wr W861 (Or.inl (by simp)))
        have A1024 := ((((A859.other W861 (Nat.ne_of_lt (Nat.lt_of_lt_of_le (Nat.lt_of_lt_of_le A5.lt K850.1) (Nat.le_of_eq g831)))).ext X866).keep K881 (ninS (Nat.ne_of_lt (Nat.lt_of_lt_of_le (Nat.lt_of_lt_of_le A5.lt K1023.1) (Nat.le_of_eq g865))) nin0)).keep K885 nin0)
        refine go_caload 210 (i := 3) (v := (.int r34)) A1024 (by decide) (by decide) rfl rfl (D at_209) rfl ?_
        refine go_bipush 212 (v := 46) (D at_210) rfl rfl ?_
        by_cases cz1025 : r34 = (46 : Int32)
        · refine go_icF 215 (D at_212) rfl (XT.ii_ne_f cz1025) ?_
          refine go_iconst 216 (v := 3) (D at_215) rfl rfl ?_
          refine go_istore 218 (ls' := #[vi x0, vi x1, vi x2, vi 4, vr a2, vr a830, vr a864, vr r886, vi 3, un, un, un, un]) (D at_216) rfl rfl ?_
          exact J909 (3 : Int32) trivial
        · refine go_icT 218 (D at_212) (by decide) rfl (XT.ii_ne_t cz1025) ?_
          exact J909 (-1 : Int32) trivial
    · refine go_astore 181 (ls' := #[vi x0, vi x1, vi x2, vi 4, vr a2, vr a830, vr a864, vr r889, un, un, un, un, un]) (D at_179) rfl rfl rfl ?_
      refine go_iconst 182 (v := (-1)) (D at_181) rfl rfl ?_
      refine go_istore 184 (ls' := #[vi x0, vi x1, vi x2, vi 4, vr a2, vr a830, vr a864, vr r889, vi (-1 : Int32), un, un, un, un]) (D at_182) rfl rfl ?_
      refine go_iload_n 185 (D at_184) rfl rfl ?_
      refine go_iconst 186 (v := 4) (D at_185) rfl rfl ?_
      refine go_icT 201 (D at_186) (by decide) rfl (by decide) ?_
      refine go_cut (α := Int32) (P := fun q => True) (gf := fun q => mkF m_ 218 #[.val (.int x0), .val (.int x1), .val (.int x2), .val (.int 4), .val (.ref a2), .val (.ref a830), .val (.ref a864), .val (.ref r889), .val (.int q), .unset, .unset, .unset, .unset] []) ?_ ?_
      · rintro d1026 -
        try dsimp only
        refine go_cut (α := Int32) (P := fun q => True) (gf := fun q => mkF m_ 235 #[.val (.int x0), .val (.int x1), .val (.int x2), .val (.int 4), .val (.ref a2), .val (.ref a830), .val (.ref a864), .val (.ref r889), .val (.int q), .unset, .unset, .unset, .unset] []) ?_ ?_
        · rintro d1028 -
          try dsimp only
          refine go_iload_n 236 (D at_235) rfl rfl ?_
          refine go_iconst 237 (v := 1) (D at_236) rfl rfl ?_
          refine go_icF 240 (D at_237) rfl (by decide) ?_
          refine go_aload 242 (D at_240) rfl rfl rfl ?_
          refine go_iconst 243 (v := 1) (D at_242) rfl rfl ?_
          have K1030 : Keep h1 h12 [a2, a830] := ((Keep.refl h1 [a2, a830]).wr W13 (Or.inl (by simp)))
          have K1031 : Keep h1 h20 [a2, a830] := (K1030.wr W21 (Or.inl (by simp)))
          have K1032 : Keep h1 h28 [a2, a830] := (K1031.wr W29 (Or.inl (by simp)))
          have K1033 : Keep h1 h36 [a2, a830] := (K1032.wr W37 (Or.inl (by simp)))
          have K1034 : Keep h1 h44 [a2, a830] := (K1033.wr W45 (Or.inl (by simp)))
          have K1035 : Keep h1 h829 [a2, a830] := (K1034.ext X832)
          have K1036 : Keep h1 h837 [a2, a830] := (K1035.wr W838 (Or.inl (by simp)))
          have K1037 : Keep h1 h852 [a2, a830] := (K1036.wr W853 (Or.inl (by simp)))
          have K1038 : Keep h1 h856 [a2, a830] := (K1037.wr W857 (Or.inl (by simp)))
          have K1039 : Keep h1 h860 [a2, a830] := (K1038.wr W861 (Or.inl (by simp)))
          have A1040 := ((((A859.other W861 (Nat.ne_of_lt (Nat.lt_of_lt_of_le (Nat.lt_of_lt_of_le A5.lt K850.1) (Nat.le_of_eq g831)))).ext X866).keep K881 (ninS (Nat.ne_of_lt (Nat.lt_of_lt_of_le (Nat.lt_of_lt_of_le A5.lt K1039.1) (Nat.le_of_eq g865))) nin0)).keep K885 nin0)
          refine go_caload 244 (i := 1) (v := (.int r18)) A1040 (by decide) (by decide) rfl rfl (D at_243) rfl ?_
          refine go_bipush 246 (v := 46) (D at_244) rfl rfl ?_
          refine go_icF 249 (D at_246) rfl (XT.ii_ne_f f891) ?_
          refine go_iconst 250 (v := 1) (D at_249) rfl rfl ?_
          refine go_istore 252 (ls' := #[vi x0, vi x1, vi x2, vi 4, vr a2, vr a830, vr a864, vr r889, vi 1, un, un, un, un]) (D at_250) rfl rfl ?_
          refine go_iload_n 253 (D at_252) rfl rfl ?_
          refine go_ifF 256 (D at_253) rfl (by decide) ?_
          refine go_aload 258 (D at_256) rfl rfl rfl ?_
          refine go_iconst 259 (v := 0) (D at_258) rfl rfl ?_
          refine go_caload 260 (i := 0) (v := (.int r10)) A1040 (by decide) (by decide) rfl rfl (D at_259) rfl ?_
          refine go_bipush 262 (v := 46) (D at_260) rfl rfl ?_
          refine go_icT 268 (D at_262) (by decide) rfl (XT.ii_ne_t f890) ?_
          refine go_iload 270 (D at_268) rfl rfl ?_
          refine go_iconst 271 (v := 1) (D at_270) rfl rfl ?_
          refine go_iadd 272 (z := (2 : Int32)) (D at_271) rfl (by decide) ?_
          refine go_istore 274 (ls' := #[vi x0, vi x1, vi x2, vi 4, vr a2, vr a830, vr a864, vr r889, vi 1, vi 2, un, un, un]) (D at_272) rfl rfl ?_
          refine go_iload_n 275 (D at_274) rfl rfl ?_
          refine go_iload 277 (D at_275) rfl rfl ?_
          refine go_isub 278 (z := (2 : Int32)) (D at_277) rfl (by decide) ?_
          refine go_istore 280 (ls' := #[vi x0, vi x1, vi x2, vi 4, vr a2, vr a830, vr a864, vr r889, vi 1, vi 2, vi 2, un, un]) (D at_278) rfl rfl ?_
          refine go_iload 282 (D at_280) rfl rfl ?_
          refine go_newP 284 (cells' := 7) (slots' := 26) (cap := 2) (vs := [(.int 0), (.int 0)]) (ty := .char) (dv := .int 0) (wk G 0 rfl) rfl rfl (D at_282) rfl (by decide) rfl (by decide) rfl rfl rfl (by decide) (by decide) (fun h1041 a1042 k1046 g1043 X1044 A1045 => ?_)
          refine go_astore 286 (ls' := #[vi x0, vi x1, vi x2, vi 4, vr a2, vr a830, vr a864, vr r889, vi 1, vi 2, vi 2, vr a1042, un]) (D at_284) rfl rfl rfl ?_
          refine go_iload 288 (D at_286) rfl rfl ?_
          refine go_ifF 291 (D at_288) rfl (by decide) ?_
          refine go_aload 293 (D at_291) rfl rfl rfl ?_
          refine go_iconst 294 (v := 0) (D at_293) rfl rfl ?_
          refine go_aload 296 (D at_294) rfl rfl rfl ?_
          refine go_iload 298 (D at_296) rfl rfl ?_
          have K1047 : Keep h884 h1041 [] := ((Keep.refl h884 []).ext X1044)
          have A1048 := (A1040.keep K1047 nin0)
          refine go_caload 299 (i := 2) (v := (.int r26)) A1048 (by decide) (by decide) rfl rfl (D at_298) rfl ?_
          have K1052 : Keep h0 h863 [] := (K879.ext X866)
          have K1053 : Keep h0 h880 [] := (K1052.trans K881 (allS (Or.inr (Nat.le_trans K879.1 (Nat.le_of_eq g865))) all0))
          have K1054 : Keep h0 h884 [] := (K1053.trans K885 all0)
          refine go_stC 300 (i := 0) (x' := r26) (vs' := [(.int r26), (.int 0)]) A1045 (Nat.le_trans O0.2.1 (Nat.le_trans K1054.1 (Nat.le_of_eq g1043))) (by decide) (by decide) rfl (nb rfl) (i2c_c8 f27) rfl (D at_299) rfl (fun h1049 W1050 A1051 => ?_)
          refine go_iload 302 (D at_300) rfl rfl ?_
          refine go_iconst 303 (v := 1) (D at_302) rfl rfl ?_
          refine go_icF 306 (D at_303) rfl (by decide) ?_
          refine go_aload 308 (D at_306) rfl rfl rfl ?_
          refine go_iconst 309 (v := 1) (D at_308) rfl rfl ?_
          refine go_aload 311 (D at_309) rfl rfl rfl ?_
          refine go_iload 313 (D at_311) rfl rfl ?_
          refine go_iconst 314 (v := 1) (D at_313) rfl rfl ?_
          refine go_iadd 315 (z := (3 : Int32)) (D at_314) rfl (by decide) ?_
          have K1055 : Keep h1 h12 [a2, a830, a864] := ((Keep.refl h1 [a2, a830, a864]).wr W13 (Or.inl (by simp)))
          have K1056 : Keep h1 h20 [a2, a830, a864] := (K1055.wr W21 (Or.inl (by simp)))
          have K1057 : Keep h1 h28 [a2, a830, a864] := (K1056.wr W29 (Or.inl (by simp)))
          have K1058 : Keep h1 h36 [a2, a830, a864] := (K1057.wr W37 (Or.inl (by simp)))
          have K1059 : Keep h1 h44 [a2, a830, a864] := (K1058.wr W45 (Or.inl (by simp)))
          have K1060 : Keep h1 h829 [a2, a830, a864] := (K1059.ext X832)
          have K1061 : Keep h1 h837 [a2, a830, a864] := (K1060.wr W838 (Or.inl (by simp)))
          have K1062 : Keep h1 h852 [a2, a830, a864] := (K1061.wr W853 (Or.inl (by simp)))
          have K1063 : Keep h1 h856 [a2, a830, a864] := (K1062.wr W857 (Or.inl (by simp)))
          have K1064 : Keep h1 h860 [a2, a830, a864] := (K1063.wr W861 (Or.inl (by simp)))
          have K1065 : Keep h1 h863 [a2, a830, a864] := (K1064.ext X866)
          have K1066 : Keep h1 h880 [a2, a830, a864] := (K1065.trans K881 (allS (Or.inl (by simp)) all0))
          have K1067 : Keep h1 h884 [a2, a830, a864] := (K1066.trans K885 all0)
          have A1068 := (A1048.other W1050 (Nat.ne_of_lt (Nat.lt_of_lt_of_le (Nat.lt_of_lt_of_le A5.lt K1067.1) (Nat.le_of_eq g1043))))
          refine go_caload 316 (i := 3) (v := (.int r34)) A1068 (by decide) (by decide) rfl rfl (D at_315) rfl ?_
          refine go_stC 317 (i := 1) (x' := r34) (vs' := [(.int r26), (.int r34)]) A1051 (Nat.le_trans O0.2.1 (Nat.le_trans K1054.1 (Nat.le_of_eq g1043))) (by decide) (by decide) rfl (nb rfl) (i2c_c8 f35) rfl (D at_316) rfl (fun h1069 W1070 A1071 => ?_)
          refine go_iload 319 (D at_317) rfl rfl ?_
          refine go_iconst 320 (v := 2) (D at_319) rfl rfl ?_
          refine go_icT 334 (D at_320) (by decide) rfl (by decide) ?_
          refine go_iload 336 (D at_334) rfl rfl ?_
          refine go_iconst 337 (v := 3) (D at_336) rfl rfl ?_
          refine go_icT 351 (D at_337) (by decide) rfl (by decide) ?_
          refine go_iload 353 (D at_351) rfl rfl ?_
          refine go_iconst 354 (v := 4) (D at_353) rfl rfl ?_
          refine go_icT 368 (D at_354) (by decide) rfl (by decide) ?_
          refine go_newO 371 (cells' := 8) (slots' := 30) (wk G 5 rfl) (wk G 6 rfl) (wk G 7 rfl) (D at_368) rfl rfl rfl (by decide) (by decide) (fun h1072 a1073 g1074 X1075 E1076 D1077 U1078 => ?_)
          refine go_dup 372 (D at_371) rfl rfl ?_
          refine go_aload 374 (D at_372) rfl rfl rfl ?_
          have F1079 := D1077 (Or.inr (wk G 20 rfl)) (ty := (.array .byte)) (by decide)
          have F1080 := D1077 (Or.inr (wk G 21 rfl)) (ty := .byte) (by decide)
          have K1081 : Keep h1069 h1072 [] := ((Keep.refl h1069 []).ext X1075)
          have A1082 := (A1071.keep K1081 nin0)
          refine go_old (fun O1083 => ?_)
          have K1084 : Keep h0 h1041 [] := (K1054.ext X1044)
          have K1085 : Keep h0 h1049 [] := (K1084.wr W1050 (Or.inr (Nat.le_trans K1054.1 (Nat.le_of_eq g1043))))
          have K1086 : Keep h0 h1069 [] := (K1085.wr W1070 (Or.inr (Nat.le_trans K1054.1 (Nat.le_of_eq g1043))))
          refine callI0 (cells' := 9) (slots' := 32) (Wd := 1) (argsL := [(.ref a1042)]) (rest := [(.ref a1073)]) (pay_new G O1083 (cs := [r26, r34]) (n := 2) (Nat.le_trans O0.2.1 (Nat.le_trans K1086.1 (Nat.le_of_eq g1074))) E1076 F1079 F1080 A1082 rfl rfl (by decide) (by decide) (c8c f27 (c8c f35 c8n)) (by decide) (by decide)) rfl (wk G 8 rfl) (wk G 9 rfl) (wk G 10 rfl) (by decide) pd4 rfl rfl (by rw [hml]; rfl) (nb rfl) rfl rfl (by decide) (by decide) (allS (Nat.le_trans O0.2.1 (Nat.le_trans K1086.1 (Nat.le_of_eq g1074))) all0) (fun _ hal => (sfS (safe_null hal E1076 F1079) sf0)) (D at_374) (k_n 377 rfl ?_)
          rintro h1087 S1089 K1088
          refine go_astore 379 (ls' := #[vi x0, vi x1, vi x2, vi 4, vr a2, vr a830, vr a864, vr r889, vi 1, vi 2, vi 2, vr a1042, vr a1073]) (D at_377) rfl rfl rfl ?_
          refine go_aload 381 (D at_379) rfl rfl rfl ?_
          refine go_nullF 384 (D at_381) rfl ?_
          refine go_aload 386 (D at_384) rfl rfl rfl ?_
          refine go_aload 388 (D at_386) rfl rfl rfl ?_
          have K1090 : Keep h884 h1049 [] := (K1047.wr W1050 (Or.inr (Nat.le_of_eq g1043)))
          have K1091 : Keep h884 h1069 [] := (K1090.wr W1070 (Or.inr (Nat.le_of_eq g1043)))
          have K1092 : Keep h884 h1072 [] := (K1091.ext X1075)
          have K1093 : Keep h884 h1087 [] := (K1092.trans K1088 (allS (Or.inr (Nat.le_trans K1091.1 (Nat.le_of_eq g1074))) all0))
          have S1094 := (f892.keep K1093)
          refine go_old (fun O1095 => ?_)
          have E1096 := (f892.exa.keep K1093)
          refine callV0 (cells' := 9) (slots' := 32) (Wd := 0) (argsL := [(.ref a1073)]) (rest := []) (pay_eq G O1095 S1094 S1089 (by decide) (by decide)) E1096 (wk G 88 rfl) (wk G 89 rfl) (wk G 91 rfl) (wk G 91 rfl) (wk G 90 rfl) (by decide) pd15 rfl rfl (by rw [hml]; rfl) (nb rfl) rfl rfl (by decide) (by decide) all0 (fun _ _ => sf0) (D at_388) (k_v 391 rfl ?_)
          rintro _ _ (⟨rfl, q1097, rfl⟩ | ⟨rfl, q1097, rfl⟩) -
          rotate_left 1
          · exact absurd rfl q1097
          refine go_ifF 394 (D at_391) rfl (by decide) ?_
          refine go_iconst 395 (v := 1) (D at_394) rfl rfl ?_
          refine go_goto 399 (D at_395) (by decide) rfl ?_
          have K1098 : Keep h0 h1072 [] := (K1086.ext X1075)
          have K1099 : Keep h0 h1087 [] := (K1098.trans K1088 (allS (Or.inr (Nat.le_trans K1086.1 (Nat.le_of_eq g1074))) all0))
          refine go_ireturn hret hlk rfl (by simp) (D at_399) (by decide) (by decide) ⟨_, rfl, rfl⟩ K1099
        · intro J1029
          refine go_iload_n 219 (D at_218) rfl rfl ?_
          refine go_iconst 220 (v := 2) (D at_219) rfl rfl ?_
          refine go_icF 223 (D at_220) rfl (by decide) ?_
          refine go_aload 225 (D at_223) rfl rfl rfl ?_
          refine go_iconst 226 (v := 2) (D at_225) rfl rfl ?_
          have K1100 : Keep h1 h12 [a2, a830] := ((Keep.refl h1 [a2, a830]).wr W13 (Or.inl (by simp)))
          have K1101 : Keep h1 h20 [a2, a830] := (K1100.wr W21 (Or.inl (by simp)))
          have K1102 : Keep h1 h28 [a2, a830] := (K1101.wr W29 (Or.inl (by simp)))
          have K1103 : Keep h1 h36 [a2, a830] := (K1102.wr W37 (Or.inl (by simp)))
          have K1104 : Keep h1 h44 [a2, a830] := (K1103.wr W45 (Or.inl (by simp)))
          have K1105 : Keep h1 h829 [a2, a830] := (K1104.ext X832)
          have K1106 : Keep h1 h837 [a2, a830] := (K1105.wr W838 (Or.inl (by simp)))
          have K1107 : Keep h1 h852 [a2, a830] := (K1106.wr W853 (Or.inl (by simp)))
          have K1108 : Keep h1 h856 [a2, a830] := (K1107.wr W857 (Or.inl (by simp)))
          have K1109 : Keep h1 h860 [a2, a830] := (K1108.wr W861 (Or.inl (by simp)))
          have A1110 := ((((A859.other W861 (Nat.ne_of_lt (Nat.lt_of_lt_of_le (Nat.lt_of_lt_of_le A5.lt K850.1) (Nat.le_of_eq g831)))).ext X866).keep K881 (ninS (Nat.ne_of_lt (Nat.lt_of_lt_of_le (Nat.lt_of_lt_of_le A5.lt K1109.1) (Nat.le_of_eq g865))) nin0)).keep K885 nin0)
          refine go_caload 227 (i := 2) (v := (.int r26)) A1110 (by decide) (by decide) rfl rfl (D at_226) rfl ?_
          refine go_bipush 229 (v := 46) (D at_227) rfl rfl ?_
          by_cases cz1111 : r26 = (46 : Int32)
          · refine go_icF 232 (D at_229) rfl (XT.ii_ne_f cz1111) ?_
            refine go_iconst 233 (v := 2) (D at_232) rfl rfl ?_
            refine go_istore 235 (ls' := #[vi x0, vi x1, vi x2, vi 4, vr a2, vr a830, vr a864, vr r889, vi 2, un, un, un, un]) (D at_233) rfl rfl ?_
            exact J1029 (2 : Int32) trivial
          · refine go_icT 235 (D at_229) (by decide) rfl (XT.ii_ne_t cz1111) ?_
            exact J1029 d1026 trivial
      · intro J1027
        refine go_iload_n 202 (D at_201) rfl rfl ?_
        refine go_iconst 203 (v := 3) (D at_202) rfl rfl ?_
        refine go_icF 206 (D at_203) rfl (by decide) ?_
        refine go_aload 208 (D at_206) rfl rfl rfl ?_
        refine go_iconst 209 (v := 3) (D at_208) rfl rfl ?_
        have K1112 : Keep h1 h12 [a2, a830] := ((Keep.refl h1 [a2, a830]).wr W13 (Or.inl (by simp)))
        have K1113 : Keep h1 h20 [a2, a830] := (K1112.wr W21 (Or.inl (by simp)))
        have K1114 : Keep h1 h28 [a2, a830] := (K1113.wr W29 (Or.inl (by simp)))
        have K1115 : Keep h1 h36 [a2, a830] := (K1114.wr W37 (Or.inl (by simp)))
        have K1116 : Keep h1 h44 [a2, a830] := (K1115.wr W45 (Or.inl (by simp)))
        have K1117 : Keep h1 h829 [a2, a830] := (K1116.ext X832)
        have K1118 : Keep h1 h837 [a2, a830] := (K1117.wr W838 (Or.inl (by simp)))
        have K1119 : Keep h1 h852 [a2, a830] := (K1118.wr W853 (Or.inl (by simp)))
        have K1120 : Keep h1 h856 [a2, a830] := (K1119.wr W857 (Or.inl (by simp)))
        have K1121 : Keep h1 h860 [a2, a830] := (K1120.wr W861 (Or.inl (by simp)))
        have A1122 := ((((A859.other W861 (Nat.ne_of_lt (Nat.lt_of_lt_of_le (Nat.lt_of_lt_of_le A5.lt K850.1) (Nat.le_of_eq g831)))).ext X866).keep K881 (ninS (Nat.ne_of_lt (Nat.lt_of_lt_of_le (Nat.lt_of_lt_of_le A5.lt K1121.1) (Nat.le_of_eq g865))) nin0)).keep K885 nin0)
        refine go_caload 210 (i := 3) (v := (.int r34)) A1122 (by decide) (by decide) rfl rfl (D at_209) rfl ?_
        refine go_bipush 212 (v := 46) (D at_210) rfl rfl ?_
        by_cases cz1123 : r34 = (46 : Int32)
        · refine go_icF 215 (D at_212) rfl (XT.ii_ne_f cz1123) ?_
          refine go_iconst 216 (v := 3) (D at_215) rfl rfl ?_
          refine go_istore 218 (ls' := #[vi x0, vi x1, vi x2, vi 4, vr a2, vr a830, vr a864, vr r889, vi 3, un, un, un, un]) (D at_216) rfl rfl ?_
          exact J1027 (3 : Int32) trivial
        · refine go_icT 218 (D at_212) (by decide) rfl (XT.ii_ne_t cz1123) ?_
          exact J1027 (-1 : Int32) trivial
    · refine go_astore 181 (ls' := #[vi x0, vi x1, vi x2, vi 4, vr a2, vr a830, vr a864, vr r893, un, un, un, un, un]) (D at_179) rfl rfl rfl ?_
      refine go_iconst 182 (v := (-1)) (D at_181) rfl rfl ?_
      refine go_istore 184 (ls' := #[vi x0, vi x1, vi x2, vi 4, vr a2, vr a830, vr a864, vr r893, vi (-1 : Int32), un, un, un, un]) (D at_182) rfl rfl ?_
      refine go_iload_n 185 (D at_184) rfl rfl ?_
      refine go_iconst 186 (v := 4) (D at_185) rfl rfl ?_
      refine go_icT 201 (D at_186) (by decide) rfl (by decide) ?_
      refine go_cut (α := Int32) (P := fun q => True) (gf := fun q => mkF m_ 218 #[.val (.int x0), .val (.int x1), .val (.int x2), .val (.int 4), .val (.ref a2), .val (.ref a830), .val (.ref a864), .val (.ref r893), .val (.int q), .unset, .unset, .unset, .unset] []) ?_ ?_
      · rintro d1124 -
        try dsimp only
        refine go_iload_n 219 (D at_218) rfl rfl ?_
        refine go_iconst 220 (v := 2) (D at_219) rfl rfl ?_
        refine go_icF 223 (D at_220) rfl (by decide) ?_
        refine go_aload 225 (D at_223) rfl rfl rfl ?_
        refine go_iconst 226 (v := 2) (D at_225) rfl rfl ?_
        have K1126 : Keep h1 h12 [a2, a830] := ((Keep.refl h1 [a2, a830]).wr W13 (Or.inl (by simp)))
        have K1127 : Keep h1 h20 [a2, a830] := (K1126.wr W21 (Or.inl (by simp)))
        have K1128 : Keep h1 h28 [a2, a830] := (K1127.wr W29 (Or.inl (by simp)))
        have K1129 : Keep h1 h36 [a2, a830] := (K1128.wr W37 (Or.inl (by simp)))
        have K1130 : Keep h1 h44 [a2, a830] := (K1129.wr W45 (Or.inl (by simp)))
        have K1131 : Keep h1 h829 [a2, a830] := (K1130.ext X832)
        have K1132 : Keep h1 h837 [a2, a830] := (K1131.wr W838 (Or.inl (by simp)))
        have K1133 : Keep h1 h852 [a2, a830] := (K1132.wr W853 (Or.inl (by simp)))
        have K1134 : Keep h1 h856 [a2, a830] := (K1133.wr W857 (Or.inl (by simp)))
        have K1135 : Keep h1 h860 [a2, a830] := (K1134.wr W861 (Or.inl (by simp)))
        have A1136 := ((((A859.other W861 (Nat.ne_of_lt (Nat.lt_of_lt_of_le (Nat.lt_of_lt_of_le A5.lt K850.1) (Nat.le_of_eq g831)))).ext X866).keep K881 (ninS (Nat.ne_of_lt (Nat.lt_of_lt_of_le (Nat.lt_of_lt_of_le A5.lt K1135.1) (Nat.le_of_eq g865))) nin0)).keep K885 nin0)
        refine go_caload 227 (i := 2) (v := (.int r26)) A1136 (by decide) (by decide) rfl rfl (D at_226) rfl ?_
        refine go_bipush 229 (v := 46) (D at_227) rfl rfl ?_
        refine go_icF 232 (D at_229) rfl (XT.ii_ne_f f896) ?_
        refine go_iconst 233 (v := 2) (D at_232) rfl rfl ?_
        refine go_istore 235 (ls' := #[vi x0, vi x1, vi x2, vi 4, vr a2, vr a830, vr a864, vr r893, vi 2, un, un, un, un]) (D at_233) rfl rfl ?_
        refine go_iload_n 236 (D at_235) rfl rfl ?_
        refine go_iconst 237 (v := 1) (D at_236) rfl rfl ?_
        refine go_icF 240 (D at_237) rfl (by decide) ?_
        refine go_aload 242 (D at_240) rfl rfl rfl ?_
        refine go_iconst 243 (v := 1) (D at_242) rfl rfl ?_
        refine go_caload 244 (i := 1) (v := (.int r18)) A1136 (by decide) (by decide) rfl rfl (D at_243) rfl ?_
        refine go_bipush 246 (v := 46) (D at_244) rfl rfl ?_
        refine go_icT 252 (D at_246) (by decide) rfl (XT.ii_ne_t f895) ?_
        refine go_iload_n 253 (D at_252) rfl rfl ?_
        refine go_ifF 256 (D at_253) rfl (by decide) ?_
        refine go_aload 258 (D at_256) rfl rfl rfl ?_
        refine go_iconst 259 (v := 0) (D at_258) rfl rfl ?_
        refine go_caload 260 (i := 0) (v := (.int r10)) A1136 (by decide) (by decide) rfl rfl (D at_259) rfl ?_
        refine go_bipush 262 (v := 46) (D at_260) rfl rfl ?_
        refine go_icT 268 (D at_262) (by decide) rfl (XT.ii_ne_t f894) ?_
        refine go_iload 270 (D at_268) rfl rfl ?_
        refine go_iconst 271 (v := 1) (D at_270) rfl rfl ?_
        refine go_iadd 272 (z := (3 : Int32)) (D at_271) rfl (by decide) ?_
        refine go_istore 274 (ls' := #[vi x0, vi x1, vi x2, vi 4, vr a2, vr a830, vr a864, vr r893, vi 2, vi 3, un, un, un]) (D at_272) rfl rfl ?_
        refine go_iload_n 275 (D at_274) rfl rfl ?_
        refine go_iload 277 (D at_275) rfl rfl ?_
        refine go_isub 278 (z := (1 : Int32)) (D at_277) rfl (by decide) ?_
        refine go_istore 280 (ls' := #[vi x0, vi x1, vi x2, vi 4, vr a2, vr a830, vr a864, vr r893, vi 2, vi 3, vi 1, un, un]) (D at_278) rfl rfl ?_
        refine go_iload 282 (D at_280) rfl rfl ?_
        refine go_newP 284 (cells' := 7) (slots' := 25) (cap := 1) (vs := [(.int 0)]) (ty := .char) (dv := .int 0) (wk G 0 rfl) rfl rfl (D at_282) rfl (by decide) rfl (by decide) rfl rfl rfl (by decide) (by decide) (fun h1137 a1138 k1142 g1139 X1140 A1141 => ?_)
        refine go_astore 286 (ls' := #[vi x0, vi x1, vi x2, vi 4, vr a2, vr a830, vr a864, vr r893, vi 2, vi 3, vi 1, vr a1138, un]) (D at_284) rfl rfl rfl ?_
        refine go_iload 288 (D at_286) rfl rfl ?_
        refine go_ifF 291 (D at_288) rfl (by decide) ?_
        refine go_aload 293 (D at_291) rfl rfl rfl ?_
        refine go_iconst 294 (v := 0) (D at_293) rfl rfl ?_
        refine go_aload 296 (D at_294) rfl rfl rfl ?_
        refine go_iload 298 (D at_296) rfl rfl ?_
        have K1143 : Keep h884 h1137 [] := ((Keep.refl h884 []).ext X1140)
        have A1144 := (A1136.keep K1143 nin0)
        refine go_caload 299 (i := 3) (v := (.int r34)) A1144 (by decide) (by decide) rfl rfl (D at_298) rfl ?_
        have K1148 : Keep h0 h863 [] := (K879.ext X866)
        have K1149 : Keep h0 h880 [] := (K1148.trans K881 (allS (Or.inr (Nat.le_trans K879.1 (Nat.le_of_eq g865))) all0))
        have K1150 : Keep h0 h884 [] := (K1149.trans K885 all0)
        refine go_stC 300 (i := 0) (x' := r34) (vs' := [(.int r34)]) A1141 (Nat.le_trans O0.2.1 (Nat.le_trans K1150.1 (Nat.le_of_eq g1139))) (by decide) (by decide) rfl (nb rfl) (i2c_c8 f35) rfl (D at_299) rfl (fun h1145 W1146 A1147 => ?_)
        refine go_iload 302 (D at_300) rfl rfl ?_
        refine go_iconst 303 (v := 1) (D at_302) rfl rfl ?_
        refine go_icT 317 (D at_303) (by decide) rfl (by decide) ?_
        refine go_iload 319 (D at_317) rfl rfl ?_
        refine go_iconst 320 (v := 2) (D at_319) rfl rfl ?_
        refine go_icT 334 (D at_320) (by decide) rfl (by decide) ?_
        refine go_iload 336 (D at_334) rfl rfl ?_
        refine go_iconst 337 (v := 3) (D at_336) rfl rfl ?_
        refine go_icT 351 (D at_337) (by decide) rfl (by decide) ?_
        refine go_iload 353 (D at_351) rfl rfl ?_
        refine go_iconst 354 (v := 4) (D at_353) rfl rfl ?_
        refine go_icT 368 (D at_354) (by decide) rfl (by decide) ?_
        refine go_newO 371 (cells' := 8) (slots' := 29) (wk G 5 rfl) (wk G 6 rfl) (wk G 7 rfl) (D at_368) rfl rfl rfl (by decide) (by decide) (fun h1151 a1152 g1153 X1154 E1155 D1156 U1157 => ?_)
        refine go_dup 372 (D at_371) rfl rfl ?_
        refine go_aload 374 (D at_372) rfl rfl rfl ?_
        have F1158 := D1156 (Or.inr (wk G 20 rfl)) (ty := (.array .byte)) (by decide)
        have F1159 := D1156 (Or.inr (wk G 21 rfl)) (ty := .byte) (by decide)
        have K1160 : Keep h1145 h1151 [] := ((Keep.refl h1145 []).ext X1154)
        have A1161 := (A1147.keep K1160 nin0)
        refine go_old (fun O1162 => ?_)
        have K1163 : Keep h0 h1137 [] := (K1150.ext X1140)
        have K1164 : Keep h0 h1145 [] := (K1163.wr W1146 (Or.inr (Nat.le_trans K1150.1 (Nat.le_of_eq g1139))))
        refine callI0 (cells' := 9) (slots' := 30) (Wd := 1) (argsL := [(.ref a1138)]) (rest := [(.ref a1152)]) (pay_new G O1162 (cs := [r34]) (n := 1) (Nat.le_trans O0.2.1 (Nat.le_trans K1164.1 (Nat.le_of_eq g1153))) E1155 F1158 F1159 A1161 rfl rfl (by decide) (by decide) (c8c f35 c8n) (by decide) (by decide)) rfl (wk G 8 rfl) (wk G 9 rfl) (wk G 10 rfl) (by decide) pd4 rfl rfl (by rw [hml]; rfl) (nb rfl) rfl rfl (by decide) (by decide) (allS (Nat.le_trans O0.2.1 (Nat.le_trans K1164.1 (Nat.le_of_eq g1153))) all0) (fun _ hal => (sfS (safe_null hal E1155 F1158) sf0)) (D at_374) (k_n 377 rfl ?_)
        rintro h1165 S1167 K1166
        refine go_astore 379 (ls' := #[vi x0, vi x1, vi x2, vi 4, vr a2, vr a830, vr a864, vr r893, vi 2, vi 3, vi 1, vr a1138, vr a1152]) (D at_377) rfl rfl rfl ?_
        refine go_aload 381 (D at_379) rfl rfl rfl ?_
        refine go_nullF 384 (D at_381) rfl ?_
        refine go_aload 386 (D at_384) rfl rfl rfl ?_
        refine go_aload 388 (D at_386) rfl rfl rfl ?_
        have K1168 : Keep h884 h1145 [] := (K1143.wr W1146 (Or.inr (Nat.le_of_eq g1139)))
        have K1169 : Keep h884 h1151 [] := (K1168.ext X1154)
        have K1170 : Keep h884 h1165 [] := (K1169.trans K1166 (allS (Or.inr (Nat.le_trans K1168.1 (Nat.le_of_eq g1153))) all0))
        have S1171 := (f897.keep K1170)
        refine go_old (fun O1172 => ?_)
        have E1173 := (f897.exa.keep K1170)
        refine callV0 (cells' := 9) (slots' := 30) (Wd := 0) (argsL := [(.ref a1152)]) (rest := []) (pay_eq G O1172 S1171 S1167 (by decide) (by decide)) E1173 (wk G 88 rfl) (wk G 89 rfl) (wk G 91 rfl) (wk G 91 rfl) (wk G 90 rfl) (by decide) pd15 rfl rfl (by rw [hml]; rfl) (nb rfl) rfl rfl (by decide) (by decide) all0 (fun _ _ => sf0) (D at_388) (k_v 391 rfl ?_)
        rintro _ _ (⟨rfl, q1174, rfl⟩ | ⟨rfl, q1174, rfl⟩) -
        rotate_left 1
        · exact absurd rfl q1174
        refine go_ifF 394 (D at_391) rfl (by decide) ?_
        refine go_iconst 395 (v := 1) (D at_394) rfl rfl ?_
        refine go_goto 399 (D at_395) (by decide) rfl ?_
        have K1175 : Keep h0 h1151 [] := (K1164.ext X1154)
        have K1176 : Keep h0 h1165 [] := (K1175.trans K1166 (allS (Or.inr (Nat.le_trans K1164.1 (Nat.le_of_eq g1153))) all0))
        refine go_ireturn hret hlk rfl (by simp) (D at_399) (by decide) (by decide) ⟨_, rfl, rfl⟩ K1176
      · intro J1125
        refine go_iload_n 202 (D at_201) rfl rfl ?_
        refine go_iconst 203 (v := 3) (D at_202) rfl rfl ?_
        refine go_icF 206 (D at_203) rfl (by decide) ?_
        refine go_aload 208 (D at_206) rfl rfl rfl ?_
        refine go_iconst 209 (v := 3) (D at_208) rfl rfl ?_
        have K1177 : Keep h1 h12 [a2, a830] := ((Keep.refl h1 [a2, a830]).wr W13 (Or.inl (by simp)))
        have K1178 : Keep h1 h20 [a2, a830] := (K1177.wr W21 (Or.inl (by simp)))
        have K1179 : Keep h1 h28 [a2, a830] := (K1178.wr W29 (Or.inl (by simp)))
        have K1180 : Keep h1 h36 [a2, a830] := (K1179.wr W37 (Or.inl (by simp)))
        have K1181 : Keep h1 h44 [a2, a830] := (K1180.wr W45 (Or.inl (by simp)))
        have K1182 : Keep h1 h829 [a2, a830] := (K1181.ext X832)
        have K1183 : Keep h1 h837 [a2, a830] := (K1182.wr W838 (Or.inl (by simp)))
        have K1184 : Keep h1 h852 [a2, a830] := (K1183.wr W853 (Or.inl (by simp)))
        have K1185 : Keep h1 h856 [a2, a830] := (K1184.wr W857 (Or.inl (by simp)))
        have K1186 : Keep h1 h860 [a2, a830] := (K1185.wr W861 (Or.inl (by simp)))
        have A1187 := ((((A859.other W861 (Nat.ne_of_lt (Nat.lt_of_lt_of_le (Nat.lt_of_lt_of_le A5.lt K850.1) (Nat.le_of_eq g831)))).ext X866).keep K881 (ninS (Nat.ne_of_lt (Nat.lt_of_lt_of_le (Nat.lt_of_lt_of_le A5.lt K1186.1) (Nat.le_of_eq g865))) nin0)).keep K885 nin0)
        refine go_caload 210 (i := 3) (v := (.int r34)) A1187 (by decide) (by decide) rfl rfl (D at_209) rfl ?_
        refine go_bipush 212 (v := 46) (D at_210) rfl rfl ?_
        by_cases cz1188 : r34 = (46 : Int32)
        · refine go_icF 215 (D at_212) rfl (XT.ii_ne_f cz1188) ?_
          refine go_iconst 216 (v := 3) (D at_215) rfl rfl ?_
          refine go_istore 218 (ls' := #[vi x0, vi x1, vi x2, vi 4, vr a2, vr a830, vr a864, vr r893, vi 3, un, un, un, un]) (D at_216) rfl rfl ?_
          exact J1125 (3 : Int32) trivial
        · refine go_icT 218 (D at_212) (by decide) rfl (XT.ii_ne_t cz1188) ?_
          exact J1125 (-1 : Int32) trivial
    · refine go_astore 181 (ls' := #[vi x0, vi x1, vi x2, vi 4, vr a2, vr a830, vr a864, vr r898, un, un, un, un, un]) (D at_179) rfl rfl rfl ?_
      refine go_iconst 182 (v := (-1)) (D at_181) rfl rfl ?_
      refine go_istore 184 (ls' := #[vi x0, vi x1, vi x2, vi 4, vr a2, vr a830, vr a864, vr r898, vi (-1 : Int32), un, un, un, un]) (D at_182) rfl rfl ?_
      refine go_iload_n 185 (D at_184) rfl rfl ?_
      refine go_iconst 186 (v := 4) (D at_185) rfl rfl ?_
      refine go_icT 201 (D at_186) (by decide) rfl (by decide) ?_
      refine go_iload_n 202 (D at_201) rfl rfl ?_
      refine go_iconst 203 (v := 3) (D at_202) rfl rfl ?_
      refine go_icF 206 (D at_203) rfl (by decide) ?_
      refine go_aload 208 (D at_206) rfl rfl rfl ?_
      refine go_iconst 209 (v := 3) (D at_208) rfl rfl ?_
      have K1189 : Keep h1 h12 [a2, a830] := ((Keep.refl h1 [a2, a830]).wr W13 (Or.inl (by simp)))
      have K1190 : Keep h1 h20 [a2, a830] := (K1189.wr W21 (Or.inl (by simp)))
      have K1191 : Keep h1 h28 [a2, a830] := (K1190.wr W29 (Or.inl (by simp)))
      have K1192 : Keep h1 h36 [a2, a830] := (K1191.wr W37 (Or.inl (by simp)))
      have K1193 : Keep h1 h44 [a2, a830] := (K1192.wr W45 (Or.inl (by simp)))
      have K1194 : Keep h1 h829 [a2, a830] := (K1193.ext X832)
      have K1195 : Keep h1 h837 [a2, a830] := (K1194.wr W838 (Or.inl (by simp)))
      have K1196 : Keep h1 h852 [a2, a830] := (K1195.wr W853 (Or.inl (by simp)))
      have K1197 : Keep h1 h856 [a2, a830] := (K1196.wr W857 (Or.inl (by simp)))
      have K1198 : Keep h1 h860 [a2, a830] := (K1197.wr W861 (Or.inl (by simp)))
      have A1199 := ((((A859.other W861 (Nat.ne_of_lt (Nat.lt_of_lt_of_le (Nat.lt_of_lt_of_le A5.lt K850.1) (Nat.le_of_eq g831)))).ext X866).keep K881 (ninS (Nat.ne_of_lt (Nat.lt_of_lt_of_le (Nat.lt_of_lt_of_le A5.lt K1198.1) (Nat.le_of_eq g865))) nin0)).keep K885 nin0)
      refine go_caload 210 (i := 3) (v := (.int r34)) A1199 (by decide) (by decide) rfl rfl (D at_209) rfl ?_
      refine go_bipush 212 (v := 46) (D at_210) rfl rfl ?_
      refine go_icF 215 (D at_212) rfl (XT.ii_ne_f f902) ?_
      refine go_iconst 216 (v := 3) (D at_215) rfl rfl ?_
      refine go_istore 218 (ls' := #[vi x0, vi x1, vi x2, vi 4, vr a2, vr a830, vr a864, vr r898, vi 3, un, un, un, un]) (D at_216) rfl rfl ?_
      refine go_iload_n 219 (D at_218) rfl rfl ?_
      refine go_iconst 220 (v := 2) (D at_219) rfl rfl ?_
      refine go_icF 223 (D at_220) rfl (by decide) ?_
      refine go_aload 225 (D at_223) rfl rfl rfl ?_
      refine go_iconst 226 (v := 2) (D at_225) rfl rfl ?_
      refine go_caload 227 (i := 2) (v := (.int r26)) A1199 (by decide) (by decide) rfl rfl (D at_226) rfl ?_
      refine go_bipush 229 (v := 46) (D at_227) rfl rfl ?_
      refine go_icT 235 (D at_229) (by decide) rfl (XT.ii_ne_t f901) ?_
      refine go_iload_n 236 (D at_235) rfl rfl ?_
      refine go_iconst 237 (v := 1) (D at_236) rfl rfl ?_
      refine go_icF 240 (D at_237) rfl (by decide) ?_
      refine go_aload 242 (D at_240) rfl rfl rfl ?_
      refine go_iconst 243 (v := 1) (D at_242) rfl rfl ?_
      refine go_caload 244 (i := 1) (v := (.int r18)) A1199 (by decide) (by decide) rfl rfl (D at_243) rfl ?_
      refine go_bipush 246 (v := 46) (D at_244) rfl rfl ?_
      refine go_icT 252 (D at_246) (by decide) rfl (XT.ii_ne_t f900) ?_
      refine go_iload_n 253 (D at_252) rfl rfl ?_
      refine go_ifF 256 (D at_253) rfl (by decide) ?_
      refine go_aload 258 (D at_256) rfl rfl rfl ?_
      refine go_iconst 259 (v := 0) (D at_258) rfl rfl ?_
      refine go_caload 260 (i := 0) (v := (.int r10)) A1199 (by decide) (by decide) rfl rfl (D at_259) rfl ?_
      refine go_bipush 262 (v := 46) (D at_260) rfl rfl ?_
      refine go_icT 268 (D at_262) (by decide) rfl (XT.ii_ne_t f899) ?_
      refine go_iload 270 (D at_268) rfl rfl ?_
      refine go_iconst 271 (v := 1) (D at_270) rfl rfl ?_
      refine go_iadd 272 (z := (4 : Int32)) (D at_271) rfl (by decide) ?_
      refine go_istore 274 (ls' := #[vi x0, vi x1, vi x2, vi 4, vr a2, vr a830, vr a864, vr r898, vi 3, vi 4, un, un, un]) (D at_272) rfl rfl ?_
      refine go_iload_n 275 (D at_274) rfl rfl ?_
      refine go_iload 277 (D at_275) rfl rfl ?_
      refine go_isub 278 (z := (0 : Int32)) (D at_277) rfl (by decide) ?_
      refine go_istore 280 (ls' := #[vi x0, vi x1, vi x2, vi 4, vr a2, vr a830, vr a864, vr r898, vi 3, vi 4, vi 0, un, un]) (D at_278) rfl rfl ?_
      refine go_iload 282 (D at_280) rfl rfl ?_
      refine go_newP 284 (cells' := 7) (slots' := 24) (cap := 0) (vs := []) (ty := .char) (dv := .int 0) (wk G 0 rfl) rfl rfl (D at_282) rfl (by decide) rfl (by decide) rfl rfl rfl (by decide) (by decide) (fun h1200 a1201 k1205 g1202 X1203 A1204 => ?_)
      refine go_astore 286 (ls' := #[vi x0, vi x1, vi x2, vi 4, vr a2, vr a830, vr a864, vr r898, vi 3, vi 4, vi 0, vr a1201, un]) (D at_284) rfl rfl rfl ?_
      refine go_iload 288 (D at_286) rfl rfl ?_
      refine go_ifT 300 (D at_288) (by decide) rfl (by decide) ?_
      refine go_iload 302 (D at_300) rfl rfl ?_
      refine go_iconst 303 (v := 1) (D at_302) rfl rfl ?_
      refine go_icT 317 (D at_303) (by decide) rfl (by decide) ?_
      refine go_iload 319 (D at_317) rfl rfl ?_
      refine go_iconst 320 (v := 2) (D at_319) rfl rfl ?_
      refine go_icT 334 (D at_320) (by decide) rfl (by decide) ?_
      refine go_iload 336 (D at_334) rfl rfl ?_
      refine go_iconst 337 (v := 3) (D at_336) rfl rfl ?_
      refine go_icT 351 (D at_337) (by decide) rfl (by decide) ?_
      refine go_iload 353 (D at_351) rfl rfl ?_
      refine go_iconst 354 (v := 4) (D at_353) rfl rfl ?_
      refine go_icT 368 (D at_354) (by decide) rfl (by decide) ?_
      refine go_newO 371 (cells' := 8) (slots' := 28) (wk G 5 rfl) (wk G 6 rfl) (wk G 7 rfl) (D at_368) rfl rfl rfl (by decide) (by decide) (fun h1206 a1207 g1208 X1209 E1210 D1211 U1212 => ?_)
      refine go_dup 372 (D at_371) rfl rfl ?_
      refine go_aload 374 (D at_372) rfl rfl rfl ?_
      have K1213 : Keep h0 h863 [] := (K879.ext X866)
      have K1214 : Keep h0 h880 [] := (K1213.trans K881 (allS (Or.inr (Nat.le_trans K879.1 (Nat.le_of_eq g865))) all0))
      have K1215 : Keep h0 h884 [] := (K1214.trans K885 all0)
      have K1216 : Keep h0 h1200 [] := (K1215.ext X1203)
      have F1217 := D1211 (Or.inr (wk G 20 rfl)) (ty := (.array .byte)) (by decide)
      have F1218 := D1211 (Or.inr (wk G 21 rfl)) (ty := .byte) (by decide)
      have K1219 : Keep h1200 h1206 [] := ((Keep.refl h1200 []).ext X1209)
      have A1220 := (A1204.keep K1219 nin0)
      refine go_old (fun O1221 => ?_)
      refine callIW0 rfl (cells' := 12) (slots' := 36) (Wd := 1) (argsL := [(.ref a1201)]) (rest := [(.ref a1207)]) (payW_of (a0 := a0) (c_new0 l G a1207 a1201 k1205 h1206 O1221 E1210 (Nat.le_trans O0.2.1 (Nat.le_trans K1216.1 (Nat.le_of_eq g1208))) F1217 F1218 A1220) (wk G 10 rfl) (wk G 7 rfl) (by decide) (by decide) (ew1 G)) rfl (wk G 8 rfl) (wk G 9 rfl) (wk G 10 rfl) (by decide) pd4 rfl rfl (by rw [hml]; rfl) (nb rfl) rfl rfl (by decide) (by decide) (allS (Nat.le_trans O0.2.1 (Nat.le_trans K1216.1 (Nat.le_of_eq g1208))) all0) (D at_374) (k_n 377 rfl ?_)
      rintro  h1222 f1224 K1223
      refine go_astore 379 (ls' := #[vi x0, vi x1, vi x2, vi 4, vr a2, vr a830, vr a864, vr r898, vi 3, vi 4, vi 0, vr a1201, vr a1207]) (D at_377) rfl rfl rfl ?_
      refine go_aload 381 (D at_379) rfl rfl rfl ?_
      refine go_nullF 384 (D at_381) rfl ?_
      refine go_aload 386 (D at_384) rfl rfl rfl ?_
      refine go_aload 388 (D at_386) rfl rfl rfl ?_
      have K1225 : Keep h884 h1200 [] := ((Keep.refl h884 []).ext X1203)
      have K1226 : Keep h884 h1206 [] := (K1225.ext X1209)
      have K1227 : Keep h884 h1222 [] := (K1226.trans K1223 (allS (Or.inr (Nat.le_trans K1225.1 (Nat.le_of_eq g1208))) all0))
      have S1228 := (f903.keep K1227)
      refine go_old (fun O1229 => ?_)
      have E1230 := (f903.exa.keep K1227)
      refine callV0 (cells' := 12) (slots' := 36) (Wd := 0) (argsL := [(.ref a1207)]) (rest := []) (pay_eq G O1229 S1228 f1224 (by decide) (by decide)) E1230 (wk G 88 rfl) (wk G 89 rfl) (wk G 91 rfl) (wk G 91 rfl) (wk G 90 rfl) (by decide) pd15 rfl rfl (by rw [hml]; rfl) (nb rfl) rfl rfl (by decide) (by decide) all0 (fun _ _ => sf0) (D at_388) (k_v 391 rfl ?_)
      rintro _ _ (⟨rfl, q1231, rfl⟩ | ⟨rfl, q1231, rfl⟩) -
      rotate_left 1
      · exact absurd rfl q1231
      refine go_ifF 394 (D at_391) rfl (by decide) ?_
      refine go_iconst 395 (v := 1) (D at_394) rfl rfl ?_
      refine go_goto 399 (D at_395) (by decide) rfl ?_
      have K1232 : Keep h0 h1206 [] := (K1216.ext X1209)
      have K1233 : Keep h0 h1222 [] := (K1232.trans K1223 (allS (Or.inr (Nat.le_trans K1216.1 (Nat.le_of_eq g1208))) all0))
      refine go_ireturn hret hlk rfl (by simp) (D at_399) (by decide) (by decide) ⟨_, rfl, rfl⟩ K1233
    · refine go_astore 181 (ls' := #[vi x0, vi x1, vi x2, vi 4, vr a2, vr a830, vr a864, vr a864, un, un, un, un, un]) (D at_179) rfl rfl rfl ?_
      refine go_iconst 182 (v := (-1)) (D at_181) rfl rfl ?_
      refine go_istore 184 (ls' := #[vi x0, vi x1, vi x2, vi 4, vr a2, vr a830, vr a864, vr a864, vi (-1 : Int32), un, un, un, un]) (D at_182) rfl rfl ?_
      refine go_iload_n 185 (D at_184) rfl rfl ?_
      refine go_iconst 186 (v := 4) (D at_185) rfl rfl ?_
      refine go_icT 201 (D at_186) (by decide) rfl (by decide) ?_
      refine go_iload_n 202 (D at_201) rfl rfl ?_
      refine go_iconst 203 (v := 3) (D at_202) rfl rfl ?_
      refine go_icF 206 (D at_203) rfl (by decide) ?_
      refine go_aload 208 (D at_206) rfl rfl rfl ?_
      refine go_iconst 209 (v := 3) (D at_208) rfl rfl ?_
      have K1234 : Keep h1 h12 [a2, a830] := ((Keep.refl h1 [a2, a830]).wr W13 (Or.inl (by simp)))
      have K1235 : Keep h1 h20 [a2, a830] := (K1234.wr W21 (Or.inl (by simp)))
      have K1236 : Keep h1 h28 [a2, a830] := (K1235.wr W29 (Or.inl (by simp)))
      have K1237 : Keep h1 h36 [a2, a830] := (K1236.wr W37 (Or.inl (by simp)))
      have K1238 : Keep h1 h44 [a2, a830] := (K1237.wr W45 (Or.inl (by simp)))
      have K1239 : Keep h1 h829 [a2, a830] := (K1238.ext X832)
      have K1240 : Keep h1 h837 [a2, a830] := (K1239.wr W838 (Or.inl (by simp)))
      have K1241 : Keep h1 h852 [a2, a830] := (K1240.wr W853 (Or.inl (by simp)))
      have K1242 : Keep h1 h856 [a2, a830] := (K1241.wr W857 (Or.inl (by simp)))
      have K1243 : Keep h1 h860 [a2, a830] := (K1242.wr W861 (Or.inl (by simp)))
      have A1244 := ((((A859.other W861 (Nat.ne_of_lt (Nat.lt_of_lt_of_le (Nat.lt_of_lt_of_le A5.lt K850.1) (Nat.le_of_eq g831)))).ext X866).keep K881 (ninS (Nat.ne_of_lt (Nat.lt_of_lt_of_le (Nat.lt_of_lt_of_le A5.lt K1243.1) (Nat.le_of_eq g865))) nin0)).keep K885 nin0)
      refine go_caload 210 (i := 3) (v := (.int r34)) A1244 (by decide) (by decide) rfl rfl (D at_209) rfl ?_
      refine go_bipush 212 (v := 46) (D at_210) rfl rfl ?_
      refine go_icT 218 (D at_212) (by decide) rfl (XT.ii_ne_t f907) ?_
      refine go_iload_n 219 (D at_218) rfl rfl ?_
      refine go_iconst 220 (v := 2) (D at_219) rfl rfl ?_
      refine go_icF 223 (D at_220) rfl (by decide) ?_
      refine go_aload 225 (D at_223) rfl rfl rfl ?_
      refine go_iconst 226 (v := 2) (D at_225) rfl rfl ?_
      refine go_caload 227 (i := 2) (v := (.int r26)) A1244 (by decide) (by decide) rfl rfl (D at_226) rfl ?_
      refine go_bipush 229 (v := 46) (D at_227) rfl rfl ?_
      refine go_icT 235 (D at_229) (by decide) rfl (XT.ii_ne_t f906) ?_
      refine go_iload_n 236 (D at_235) rfl rfl ?_
      refine go_iconst 237 (v := 1) (D at_236) rfl rfl ?_
      refine go_icF 240 (D at_237) rfl (by decide) ?_
      refine go_aload 242 (D at_240) rfl rfl rfl ?_
      refine go_iconst 243 (v := 1) (D at_242) rfl rfl ?_
      refine go_caload 244 (i := 1) (v := (.int r18)) A1244 (by decide) (by decide) rfl rfl (D at_243) rfl ?_
      refine go_bipush 246 (v := 46) (D at_244) rfl rfl ?_
      refine go_icT 252 (D at_246) (by decide) rfl (XT.ii_ne_t f905) ?_
      refine go_iload_n 253 (D at_252) rfl rfl ?_
      refine go_ifF 256 (D at_253) rfl (by decide) ?_
      refine go_aload 258 (D at_256) rfl rfl rfl ?_
      refine go_iconst 259 (v := 0) (D at_258) rfl rfl ?_
      refine go_caload 260 (i := 0) (v := (.int r10)) A1244 (by decide) (by decide) rfl rfl (D at_259) rfl ?_
      refine go_bipush 262 (v := 46) (D at_260) rfl rfl ?_
      refine go_icT 268 (D at_262) (by decide) rfl (XT.ii_ne_t f904) ?_
      refine go_iload 270 (D at_268) rfl rfl ?_
      refine go_iconst 271 (v := 1) (D at_270) rfl rfl ?_
      refine go_iadd 272 (z := (0 : Int32)) (D at_271) rfl (by decide) ?_
      refine go_istore 274 (ls' := #[vi x0, vi x1, vi x2, vi 4, vr a2, vr a830, vr a864, vr a864, vi (-1 : Int32), vi 0, un, un, un]) (D at_272) rfl rfl ?_
      refine go_iload_n 275 (D at_274) rfl rfl ?_
      refine go_iload 277 (D at_275) rfl rfl ?_
      refine go_isub 278 (z := (4 : Int32)) (D at_277) rfl (by decide) ?_
      refine go_istore 280 (ls' := #[vi x0, vi x1, vi x2, vi 4, vr a2, vr a830, vr a864, vr a864, vi (-1 : Int32), vi 0, vi 4, un, un]) (D at_278) rfl rfl ?_
      refine go_iload 282 (D at_280) rfl rfl ?_
      refine go_newP 284 (cells' := 7) (slots' := 28) (cap := 4) (vs := [(.int 0), (.int 0), (.int 0), (.int 0)]) (ty := .char) (dv := .int 0) (wk G 0 rfl) rfl rfl (D at_282) rfl (by decide) rfl (by decide) rfl rfl rfl (by decide) (by decide) (fun h1245 a1246 k1250 g1247 X1248 A1249 => ?_)
      refine go_astore 286 (ls' := #[vi x0, vi x1, vi x2, vi 4, vr a2, vr a830, vr a864, vr a864, vi (-1 : Int32), vi 0, vi 4, vr a1246, un]) (D at_284) rfl rfl rfl ?_
      refine go_iload 288 (D at_286) rfl rfl ?_
      refine go_ifF 291 (D at_288) rfl (by decide) ?_
      refine go_aload 293 (D at_291) rfl rfl rfl ?_
      refine go_iconst 294 (v := 0) (D at_293) rfl rfl ?_
      refine go_aload 296 (D at_294) rfl rfl rfl ?_
      refine go_iload 298 (D at_296) rfl rfl ?_
      have K1251 : Keep h884 h1245 [] := ((Keep.refl h884 []).ext X1248)
      have A1252 := (A1244.keep K1251 nin0)
      refine go_caload 299 (i := 0) (v := (.int r10)) A1252 (by decide) (by decide) rfl rfl (D at_298) rfl ?_
      have K1256 : Keep h0 h863 [] := (K879.ext X866)
      have K1257 : Keep h0 h880 [] := (K1256.trans K881 (allS (Or.inr (Nat.le_trans K879.1 (Nat.le_of_eq g865))) all0))
      have K1258 : Keep h0 h884 [] := (K1257.trans K885 all0)
      refine go_stC 300 (i := 0) (x' := r10) (vs' := [(.int r10), (.int 0), (.int 0), (.int 0)]) A1249 (Nat.le_trans O0.2.1 (Nat.le_trans K1258.1 (Nat.le_of_eq g1247))) (by decide) (by decide) rfl (nb rfl) (i2c_c8 f11) rfl (D at_299) rfl (fun h1253 W1254 A1255 => ?_)
      refine go_iload 302 (D at_300) rfl rfl ?_
      refine go_iconst 303 (v := 1) (D at_302) rfl rfl ?_
      refine go_icF 306 (D at_303) rfl (by decide) ?_
      refine go_aload 308 (D at_306) rfl rfl rfl ?_
      refine go_iconst 309 (v := 1) (D at_308) rfl rfl ?_
      refine go_aload 311 (D at_309) rfl rfl rfl ?_
      refine go_iload 313 (D at_311) rfl rfl ?_
      refine go_iconst 314 (v := 1) (D at_313) rfl rfl ?_
      refine go_iadd 315 (z := (1 : Int32)) (D at_314) rfl (by decide) ?_
      have K1259 : Keep h1 h12 [a2, a830, a864] := ((Keep.refl h1 [a2, a830, a864]).wr W13 (Or.inl (by simp)))
      have K1260 : Keep h1 h20 [a2, a830, a864] := (K1259.wr W21 (Or.inl (by simp)))
      have K1261 : Keep h1 h28 [a2, a830, a864] := (K1260.wr W29 (Or.inl (by simp)))
      have K1262 : Keep h1 h36 [a2, a830, a864] := (K1261.wr W37 (Or.inl (by simp)))
      have K1263 : Keep h1 h44 [a2, a830, a864] := (K1262.wr W45 (Or.inl (by simp)))
      have K1264 : Keep h1 h829 [a2, a830, a864] := (K1263.ext X832)
      have K1265 : Keep h1 h837 [a2, a830, a864] := (K1264.wr W838 (Or.inl (by simp)))
      have K1266 : Keep h1 h852 [a2, a830, a864] := (K1265.wr W853 (Or.inl (by simp)))
      have K1267 : Keep h1 h856 [a2, a830, a864] := (K1266.wr W857 (Or.inl (by simp)))
      have K1268 : Keep h1 h860 [a2, a830, a864] := (K1267.wr W861 (Or.inl (by simp)))
      have K1269 : Keep h1 h863 [a2, a830, a864] := (K1268.ext X866)
      have K1270 : Keep h1 h880 [a2, a830, a864] := (K1269.trans K881 (allS (Or.inl (by simp)) all0))
      have K1271 : Keep h1 h884 [a2, a830, a864] := (K1270.trans K885 all0)
      have A1272 := (A1252.other W1254 (Nat.ne_of_lt (Nat.lt_of_lt_of_le (Nat.lt_of_lt_of_le A5.lt K1271.1) (Nat.le_of_eq g1247))))
      refine go_caload 316 (i := 1) (v := (.int r18)) A1272 (by decide) (by decide) rfl rfl (D at_315) rfl ?_
      refine go_stC 317 (i := 1) (x' := r18) (vs' := [(.int r10), (.int r18), (.int 0), (.int 0)]) A1255 (Nat.le_trans O0.2.1 (Nat.le_trans K1258.1 (Nat.le_of_eq g1247))) (by decide) (by decide) rfl (nb rfl) (i2c_c8 f19) rfl (D at_316) rfl (fun h1273 W1274 A1275 => ?_)
      refine go_iload 319 (D at_317) rfl rfl ?_
      refine go_iconst 320 (v := 2) (D at_319) rfl rfl ?_
      refine go_icF 323 (D at_320) rfl (by decide) ?_
      refine go_aload 325 (D at_323) rfl rfl rfl ?_
      refine go_iconst 326 (v := 2) (D at_325) rfl rfl ?_
      refine go_aload 328 (D at_326) rfl rfl rfl ?_
      refine go_iload 330 (D at_328) rfl rfl ?_
      refine go_iconst 331 (v := 2) (D at_330) rfl rfl ?_
      refine go_iadd 332 (z := (2 : Int32)) (D at_331) rfl (by decide) ?_
      have A1276 := (A1272.other W1274 (Nat.ne_of_lt (Nat.lt_of_lt_of_le (Nat.lt_of_lt_of_le A5.lt K1271.1) (Nat.le_of_eq g1247))))
      refine go_caload 333 (i := 2) (v := (.int r26)) A1276 (by decide) (by decide) rfl rfl (D at_332) rfl ?_
      refine go_stC 334 (i := 2) (x' := r26) (vs' := [(.int r10), (.int r18), (.int r26), (.int 0)]) A1275 (Nat.le_trans O0.2.1 (Nat.le_trans K1258.1 (Nat.le_of_eq g1247))) (by decide) (by decide) rfl (nb rfl) (i2c_c8 f27) rfl (D at_333) rfl (fun h1277 W1278 A1279 => ?_)
      refine go_iload 336 (D at_334) rfl rfl ?_
      refine go_iconst 337 (v := 3) (D at_336) rfl rfl ?_
      refine go_icF 340 (D at_337) rfl (by decide) ?_
      refine go_aload 342 (D at_340) rfl rfl rfl ?_
      refine go_iconst 343 (v := 3) (D at_342) rfl rfl ?_
      refine go_aload 345 (D at_343) rfl rfl rfl ?_
      refine go_iload 347 (D at_345) rfl rfl ?_
      refine go_iconst 348 (v := 3) (D at_347) rfl rfl ?_
      refine go_iadd 349 (z := (3 : Int32)) (D at_348) rfl (by decide) ?_
      have A1280 := (A1276.other W1278 (Nat.ne_of_lt (Nat.lt_of_lt_of_le (Nat.lt_of_lt_of_le A5.lt K1271.1) (Nat.le_of_eq g1247))))
      refine go_caload 350 (i := 3) (v := (.int r34)) A1280 (by decide) (by decide) rfl rfl (D at_349) rfl ?_
      refine go_stC 351 (i := 3) (x' := r34) (vs' := [(.int r10), (.int r18), (.int r26), (.int r34)]) A1279 (Nat.le_trans O0.2.1 (Nat.le_trans K1258.1 (Nat.le_of_eq g1247))) (by decide) (by decide) rfl (nb rfl) (i2c_c8 f35) rfl (D at_350) rfl (fun h1281 W1282 A1283 => ?_)
      refine go_iload 353 (D at_351) rfl rfl ?_
      refine go_iconst 354 (v := 4) (D at_353) rfl rfl ?_
      refine go_icT 368 (D at_354) (by decide) rfl (by decide) ?_
      refine go_newO 371 (cells' := 8) (slots' := 32) (wk G 5 rfl) (wk G 6 rfl) (wk G 7 rfl) (D at_368) rfl rfl rfl (by decide) (by decide) (fun h1284 a1285 g1286 X1287 E1288 D1289 U1290 => ?_)
      refine go_dup 372 (D at_371) rfl rfl ?_
      refine go_aload 374 (D at_372) rfl rfl rfl ?_
      have F1291 := D1289 (Or.inr (wk G 20 rfl)) (ty := (.array .byte)) (by decide)
      have F1292 := D1289 (Or.inr (wk G 21 rfl)) (ty := .byte) (by decide)
      have K1293 : Keep h1281 h1284 [] := ((Keep.refl h1281 []).ext X1287)
      have A1294 := (A1283.keep K1293 nin0)
      refine go_old (fun O1295 => ?_)
      have K1296 : Keep h0 h1245 [] := (K1258.ext X1248)
      have K1297 : Keep h0 h1253 [] := (K1296.wr W1254 (Or.inr (Nat.le_trans K1258.1 (Nat.le_of_eq g1247))))
      have K1298 : Keep h0 h1273 [] := (K1297.wr W1274 (Or.inr (Nat.le_trans K1258.1 (Nat.le_of_eq g1247))))
      have K1299 : Keep h0 h1277 [] := (K1298.wr W1278 (Or.inr (Nat.le_trans K1258.1 (Nat.le_of_eq g1247))))
      have K1300 : Keep h0 h1281 [] := (K1299.wr W1282 (Or.inr (Nat.le_trans K1258.1 (Nat.le_of_eq g1247))))
      refine callI0 (cells' := 9) (slots' := 36) (Wd := 1) (argsL := [(.ref a1246)]) (rest := [(.ref a1285)]) (pay_new G O1295 (cs := [r10, r18, r26, r34]) (n := 4) (Nat.le_trans O0.2.1 (Nat.le_trans K1300.1 (Nat.le_of_eq g1286))) E1288 F1291 F1292 A1294 rfl rfl (by decide) (by decide) (c8c f11 (c8c f19 (c8c f27 (c8c f35 c8n)))) (by decide) (by decide)) rfl (wk G 8 rfl) (wk G 9 rfl) (wk G 10 rfl) (by decide) pd4 rfl rfl (by rw [hml]; rfl) (nb rfl) rfl rfl (by decide) (by decide) (allS (Nat.le_trans O0.2.1 (Nat.le_trans K1300.1 (Nat.le_of_eq g1286))) all0) (fun _ hal => (sfS (safe_null hal E1288 F1291) sf0)) (D at_374) (k_n 377 rfl ?_)
      rintro h1301 S1303 K1302
      refine go_astore 379 (ls' := #[vi x0, vi x1, vi x2, vi 4, vr a2, vr a830, vr a864, vr a864, vi (-1 : Int32), vi 0, vi 4, vr a1246, vr a1285]) (D at_377) rfl rfl rfl ?_
      refine go_aload 381 (D at_379) rfl rfl rfl ?_
      refine go_nullF 384 (D at_381) rfl ?_
      refine go_aload 386 (D at_384) rfl rfl rfl ?_
      refine go_aload 388 (D at_386) rfl rfl rfl ?_
      have K1304 : Keep h880 h884 [] := ((Keep.refl h880 []).trans K885 all0)
      have K1305 : Keep h880 h1245 [] := (K1304.ext X1248)
      have K1306 : Keep h880 h1253 [] := (K1305.wr W1254 (Or.inr (Nat.le_trans K1304.1 (Nat.le_of_eq g1247))))
      have K1307 : Keep h880 h1273 [] := (K1306.wr W1274 (Or.inr (Nat.le_trans K1304.1 (Nat.le_of_eq g1247))))
      have K1308 : Keep h880 h1277 [] := (K1307.wr W1278 (Or.inr (Nat.le_trans K1304.1 (Nat.le_of_eq g1247))))
      have K1309 : Keep h880 h1281 [] := (K1308.wr W1282 (Or.inr (Nat.le_trans K1304.1 (Nat.le_of_eq g1247))))
      have K1310 : Keep h880 h1284 [] := (K1309.ext X1287)
      have K1311 : Keep h880 h1301 [] := (K1310.trans K1302 (allS (Or.inr (Nat.le_trans K1309.1 (Nat.le_of_eq g1286))) all0))
      have S1312 := (S882.keep K1311)
      refine go_old (fun O1313 => ?_)
      have E1314 := (((((((((E867.keep K881).keep K885).ext X1248).wr W1254).wr W1274).wr W1278).wr W1282).ext X1287).keep K1302)
      refine callV0 (cells' := 9) (slots' := 36) (Wd := 0) (argsL := [(.ref a1285)]) (rest := []) (pay_eq G O1313 S1312 S1303 (by decide) (by decide)) E1314 (wk G 88 rfl) (wk G 89 rfl) (wk G 91 rfl) (wk G 91 rfl) (wk G 90 rfl) (by decide) pd15 rfl rfl (by rw [hml]; rfl) (nb rfl) rfl rfl (by decide) (by decide) all0 (fun _ _ => sf0) (D at_388) (k_v 391 rfl ?_)
      rintro _ _ (⟨rfl, q1315, rfl⟩ | ⟨rfl, q1315, rfl⟩) -
      rotate_left 1
      · exact absurd rfl q1315
      refine go_ifF 394 (D at_391) rfl (by decide) ?_
      refine go_iconst 395 (v := 1) (D at_394) rfl rfl ?_
      refine go_goto 399 (D at_395) (by decide) rfl ?_
      have K1316 : Keep h0 h1284 [] := (K1300.ext X1287)
      have K1317 : Keep h0 h1301 [] := (K1316.trans K1302 (allS (Or.inr (Nat.le_trans K1300.1 (Nat.le_of_eq g1286))) all0))
      refine go_ireturn hret hlk rfl (by simp) (D at_399) (by decide) (by decide) ⟨_, rfl, rfl⟩ K1317
  · rw [q47]
    refine go_iload_n 95 (D at_94) rfl rfl ?_
    refine go_newP 97 (cells' := 2) (slots' := 10) (cap := 5) (vs := [(.int 0), (.int 0), (.int 0), (.int 0), (.int 0)]) (ty := .char) (dv := .int 0) (wk G 0 rfl) rfl rfl (D at_95) rfl (by decide) rfl (by decide) rfl rfl rfl (by decide) (by decide) (fun h1318 a1319 k1323 g1320 X1321 A1322 => ?_)
    refine go_astore 99 (ls' := #[vi x0, vi x1, vi x2, vi 5, vr a2, vr a1319, un, un, un, un, un, un, un]) (D at_97) rfl rfl rfl ?_
    refine go_iload_n 100 (D at_99) rfl rfl ?_
    refine go_ifF 103 (D at_100) rfl (by decide) ?_
    refine go_aload 105 (D at_103) rfl rfl rfl ?_
    refine go_iconst 106 (v := 0) (D at_105) rfl rfl ?_
    refine go_aload 108 (D at_106) rfl rfl rfl ?_
    refine go_iconst 109 (v := 0) (D at_108) rfl rfl ?_
    have K1324 : Keep h44 h1318 [] := ((Keep.refl h44 []).ext X1321)
    have A1325 := (A46.keep K1324 nin0)
    refine go_caload 110 (i := 0) (v := (.int r10)) A1325 (by decide) (by decide) rfl rfl (D at_109) rfl ?_
    have K1329 : Keep h0 h1 [] := ((Keep.refl h0 []).ext X4)
    have K1330 : Keep h0 h12 [] := (K1329.wr W13 (Or.inr (Nat.le_of_eq g3)))
    have K1331 : Keep h0 h20 [] := (K1330.wr W21 (Or.inr (Nat.le_of_eq g3)))
    have K1332 : Keep h0 h28 [] := (K1331.wr W29 (Or.inr (Nat.le_of_eq g3)))
    have K1333 : Keep h0 h36 [] := (K1332.wr W37 (Or.inr (Nat.le_of_eq g3)))
    have K1334 : Keep h0 h44 [] := (K1333.wr W45 (Or.inr (Nat.le_of_eq g3)))
    refine go_stC 111 (i := 0) (x' := r10) (vs' := [(.int r10), (.int 0), (.int 0), (.int 0), (.int 0)]) A1322 (Nat.le_trans O0.2.1 (Nat.le_trans K1334.1 (Nat.le_of_eq g1320))) (by decide) (by decide) rfl (nb rfl) (i2c_c8 f11) rfl (D at_110) rfl (fun h1326 W1327 A1328 => ?_)
    refine go_iload_n 112 (D at_111) rfl rfl ?_
    refine go_iconst 113 (v := 1) (D at_112) rfl rfl ?_
    refine go_icF 116 (D at_113) rfl (by decide) ?_
    refine go_aload 118 (D at_116) rfl rfl rfl ?_
    refine go_iconst 119 (v := 1) (D at_118) rfl rfl ?_
    refine go_aload 121 (D at_119) rfl rfl rfl ?_
    refine go_iconst 122 (v := 1) (D at_121) rfl rfl ?_
    have K1335 : Keep h1 h12 [a2] := ((Keep.refl h1 [a2]).wr W13 (Or.inl (by simp)))
    have K1336 : Keep h1 h20 [a2] := (K1335.wr W21 (Or.inl (by simp)))
    have K1337 : Keep h1 h28 [a2] := (K1336.wr W29 (Or.inl (by simp)))
    have K1338 : Keep h1 h36 [a2] := (K1337.wr W37 (Or.inl (by simp)))
    have K1339 : Keep h1 h44 [a2] := (K1338.wr W45 (Or.inl (by simp)))
    have A1340 := (A1325.other W1327 (Nat.ne_of_lt (Nat.lt_of_lt_of_le (Nat.lt_of_lt_of_le A5.lt K1339.1) (Nat.le_of_eq g1320))))
    refine go_caload 123 (i := 1) (v := (.int r18)) A1340 (by decide) (by decide) rfl rfl (D at_122) rfl ?_
    refine go_stC 124 (i := 1) (x' := r18) (vs' := [(.int r10), (.int r18), (.int 0), (.int 0), (.int 0)]) A1328 (Nat.le_trans O0.2.1 (Nat.le_trans K1334.1 (Nat.le_of_eq g1320))) (by decide) (by decide) rfl (nb rfl) (i2c_c8 f19) rfl (D at_123) rfl (fun h1341 W1342 A1343 => ?_)
    refine go_iload_n 125 (D at_124) rfl rfl ?_
    refine go_iconst 126 (v := 2) (D at_125) rfl rfl ?_
    refine go_icF 129 (D at_126) rfl (by decide) ?_
    refine go_aload 131 (D at_129) rfl rfl rfl ?_
    refine go_iconst 132 (v := 2) (D at_131) rfl rfl ?_
    refine go_aload 134 (D at_132) rfl rfl rfl ?_
    refine go_iconst 135 (v := 2) (D at_134) rfl rfl ?_
    have A1344 := (A1340.other W1342 (Nat.ne_of_lt (Nat.lt_of_lt_of_le (Nat.lt_of_lt_of_le A5.lt K1339.1) (Nat.le_of_eq g1320))))
    refine go_caload 136 (i := 2) (v := (.int r26)) A1344 (by decide) (by decide) rfl rfl (D at_135) rfl ?_
    refine go_stC 137 (i := 2) (x' := r26) (vs' := [(.int r10), (.int r18), (.int r26), (.int 0), (.int 0)]) A1343 (Nat.le_trans O0.2.1 (Nat.le_trans K1334.1 (Nat.le_of_eq g1320))) (by decide) (by decide) rfl (nb rfl) (i2c_c8 f27) rfl (D at_136) rfl (fun h1345 W1346 A1347 => ?_)
    refine go_iload_n 138 (D at_137) rfl rfl ?_
    refine go_iconst 139 (v := 3) (D at_138) rfl rfl ?_
    refine go_icF 142 (D at_139) rfl (by decide) ?_
    refine go_aload 144 (D at_142) rfl rfl rfl ?_
    refine go_iconst 145 (v := 3) (D at_144) rfl rfl ?_
    refine go_aload 147 (D at_145) rfl rfl rfl ?_
    refine go_iconst 148 (v := 3) (D at_147) rfl rfl ?_
    have A1348 := (A1344.other W1346 (Nat.ne_of_lt (Nat.lt_of_lt_of_le (Nat.lt_of_lt_of_le A5.lt K1339.1) (Nat.le_of_eq g1320))))
    refine go_caload 149 (i := 3) (v := (.int r34)) A1348 (by decide) (by decide) rfl rfl (D at_148) rfl ?_
    refine go_stC 150 (i := 3) (x' := r34) (vs' := [(.int r10), (.int r18), (.int r26), (.int r34), (.int 0)]) A1347 (Nat.le_trans O0.2.1 (Nat.le_trans K1334.1 (Nat.le_of_eq g1320))) (by decide) (by decide) rfl (nb rfl) (i2c_c8 f35) rfl (D at_149) rfl (fun h1349 W1350 A1351 => ?_)
    refine go_iload_n 151 (D at_150) rfl rfl ?_
    refine go_iconst 152 (v := 4) (D at_151) rfl rfl ?_
    refine go_icF 155 (D at_152) rfl (by decide) ?_
    refine go_aload 157 (D at_155) rfl rfl rfl ?_
    refine go_iconst 158 (v := 4) (D at_157) rfl rfl ?_
    refine go_aload 160 (D at_158) rfl rfl rfl ?_
    refine go_iconst 161 (v := 4) (D at_160) rfl rfl ?_
    have A1352 := (A1348.other W1350 (Nat.ne_of_lt (Nat.lt_of_lt_of_le (Nat.lt_of_lt_of_le A5.lt K1339.1) (Nat.le_of_eq g1320))))
    refine go_caload 162 (i := 4) (v := (.int r42)) A1352 (by decide) (by decide) rfl rfl (D at_161) rfl ?_
    refine go_stC 163 (i := 4) (x' := r42) (vs' := [(.int r10), (.int r18), (.int r26), (.int r34), (.int r42)]) A1351 (Nat.le_trans O0.2.1 (Nat.le_trans K1334.1 (Nat.le_of_eq g1320))) (by decide) (by decide) rfl (nb rfl) (i2c_c8 f43) rfl (D at_162) rfl (fun h1353 W1354 A1355 => ?_)
    refine go_newO 166 (cells' := 3) (slots' := 14) (wk G 5 rfl) (wk G 6 rfl) (wk G 7 rfl) (D at_163) rfl rfl rfl (by decide) (by decide) (fun h1356 a1357 g1358 X1359 E1360 D1361 U1362 => ?_)
    refine go_dup 167 (D at_166) rfl rfl ?_
    refine go_aload 169 (D at_167) rfl rfl rfl ?_
    have F1363 := D1361 (Or.inr (wk G 20 rfl)) (ty := (.array .byte)) (by decide)
    have F1364 := D1361 (Or.inr (wk G 21 rfl)) (ty := .byte) (by decide)
    have K1365 : Keep h1353 h1356 [] := ((Keep.refl h1353 []).ext X1359)
    have A1366 := (A1355.keep K1365 nin0)
    refine go_old (fun O1367 => ?_)
    have K1368 : Keep h0 h1318 [] := (K1334.ext X1321)
    have K1369 : Keep h0 h1326 [] := (K1368.wr W1327 (Or.inr (Nat.le_trans K1334.1 (Nat.le_of_eq g1320))))
    have K1370 : Keep h0 h1341 [] := (K1369.wr W1342 (Or.inr (Nat.le_trans K1334.1 (Nat.le_of_eq g1320))))
    have K1371 : Keep h0 h1345 [] := (K1370.wr W1346 (Or.inr (Nat.le_trans K1334.1 (Nat.le_of_eq g1320))))
    have K1372 : Keep h0 h1349 [] := (K1371.wr W1350 (Or.inr (Nat.le_trans K1334.1 (Nat.le_of_eq g1320))))
    have K1373 : Keep h0 h1353 [] := (K1372.wr W1354 (Or.inr (Nat.le_trans K1334.1 (Nat.le_of_eq g1320))))
    refine callI0 (cells' := 4) (slots' := 19) (Wd := 1) (argsL := [(.ref a1319)]) (rest := [(.ref a1357)]) (pay_new G O1367 (cs := [r10, r18, r26, r34, r42]) (n := 5) (Nat.le_trans O0.2.1 (Nat.le_trans K1373.1 (Nat.le_of_eq g1358))) E1360 F1363 F1364 A1366 rfl rfl (by decide) (by decide) (c8c f11 (c8c f19 (c8c f27 (c8c f35 (c8c f43 c8n))))) (by decide) (by decide)) rfl (wk G 8 rfl) (wk G 9 rfl) (wk G 10 rfl) (by decide) pd4 rfl rfl (by rw [hml]; rfl) (nb rfl) rfl rfl (by decide) (by decide) (allS (Nat.le_trans O0.2.1 (Nat.le_trans K1373.1 (Nat.le_of_eq g1358))) all0) (fun _ hal => (sfS (safe_null hal E1360 F1363) sf0)) (D at_169) (k_n 172 rfl ?_)
    rintro h1374 S1376 K1375
    refine go_astore 174 (ls' := #[vi x0, vi x1, vi x2, vi 5, vr a2, vr a1319, vr a1357, un, un, un, un, un, un]) (D at_172) rfl rfl rfl ?_
    refine go_aload 176 (D at_174) rfl rfl rfl ?_
    refine go_old (fun O1377 => ?_)
    refine callSW0 rfl (cells' := 6) (slots' := 27) (Wd := 0) (argsL := [(.ref a1357)]) (rest := []) (payW_of (a0 := a0) (c_unq5 l G a1357 r10 r18 r26 r34 r42 h1374 O1377 S1376) (wk G 29 rfl) (wk G 28 rfl) (by decide) (by decide) (ew1 G)) (wk G 26 rfl) (wk G 27 rfl) (wk G 28 rfl) (wk G 29 rfl) (by decide) pd14 rfl rfl (by rw [hml]; rfl) (nb rfl) rfl rfl (by decide) (by decide) all0 (D at_176) (k_v 179 rfl ?_)
    rintro _ h1378 (⟨r1380, rfl, f1381, f1382⟩ | ⟨r1383, rfl, f1384, f1385, f1386⟩ | ⟨r1387, rfl, f1388, f1389, f1390, f1391⟩ | ⟨r1392, rfl, f1393, f1394, f1395, f1396, f1397⟩ | ⟨r1398, rfl, f1399, f1400, f1401, f1402, f1403, f1404⟩ | ⟨rfl, f1405, f1406, f1407, f1408, f1409⟩) K1379
    · refine go_astore 181 (ls' := #[vi x0, vi x1, vi x2, vi 5, vr a2, vr a1319, vr a1357, vr r1380, un, un, un, un, un]) (D at_179) rfl rfl rfl ?_
      refine go_iconst 182 (v := (-1)) (D at_181) rfl rfl ?_
      refine go_istore 184 (ls' := #[vi x0, vi x1, vi x2, vi 5, vr a2, vr a1319, vr a1357, vr r1380, vi (-1 : Int32), un, un, un, un]) (D at_182) rfl rfl ?_
      refine go_cut (α := Int32) (P := fun q => True) (gf := fun q => mkF m_ 201 #[.val (.int x0), .val (.int x1), .val (.int x2), .val (.int 5), .val (.ref a2), .val (.ref a1319), .val (.ref a1357), .val (.ref r1380), .val (.int q), .unset, .unset, .unset, .unset] []) ?_ ?_
      · rintro d1410 -
        try dsimp only
        refine go_cut (α := Int32) (P := fun q => True) (gf := fun q => mkF m_ 218 #[.val (.int x0), .val (.int x1), .val (.int x2), .val (.int 5), .val (.ref a2), .val (.ref a1319), .val (.ref a1357), .val (.ref r1380), .val (.int q), .unset, .unset, .unset, .unset] []) ?_ ?_
        · rintro d1412 -
          try dsimp only
          refine go_cut (α := Int32) (P := fun q => True) (gf := fun q => mkF m_ 235 #[.val (.int x0), .val (.int x1), .val (.int x2), .val (.int 5), .val (.ref a2), .val (.ref a1319), .val (.ref a1357), .val (.ref r1380), .val (.int q), .unset, .unset, .unset, .unset] []) ?_ ?_
          · rintro d1414 -
            try dsimp only
            refine go_cut (α := Int32) (P := fun q => True) (gf := fun q => mkF m_ 252 #[.val (.int x0), .val (.int x1), .val (.int x2), .val (.int 5), .val (.ref a2), .val (.ref a1319), .val (.ref a1357), .val (.ref r1380), .val (.int q), .unset, .unset, .unset, .unset] []) ?_ ?_
            · rintro d1416 -
              try dsimp only
              refine go_iload_n 253 (D at_252) rfl rfl ?_
              refine go_ifF 256 (D at_253) rfl (by decide) ?_
              refine go_aload 258 (D at_256) rfl rfl rfl ?_
              refine go_iconst 259 (v := 0) (D at_258) rfl rfl ?_
              have K1418 : Keep h1 h12 [a2, a1319] := ((Keep.refl h1 [a2, a1319]).wr W13 (Or.inl (by simp)))
              have K1419 : Keep h1 h20 [a2, a1319] := (K1418.wr W21 (Or.inl (by simp)))
              have K1420 : Keep h1 h28 [a2, a1319] := (K1419.wr W29 (Or.inl (by simp)))
              have K1421 : Keep h1 h36 [a2, a1319] := (K1420.wr W37 (Or.inl (by simp)))
              have K1422 : Keep h1 h44 [a2, a1319] := (K1421.wr W45 (Or.inl (by simp)))
              have K1423 : Keep h1 h1318 [a2, a1319] := (K1422.ext X1321)
              have K1424 : Keep h1 h1326 [a2, a1319] := (K1423.wr W1327 (Or.inl (by simp)))
              have K1425 : Keep h1 h1341 [a2, a1319] := (K1424.wr W1342 (Or.inl (by simp)))
              have K1426 : Keep h1 h1345 [a2, a1319] := (K1425.wr W1346 (Or.inl (by simp)))
              have K1427 : Keep h1 h1349 [a2, a1319] := (K1426.wr W1350 (Or.inl (by simp)))
              have K1428 : Keep h1 h1353 [a2, a1319] := (K1427.wr W1354 (Or.inl (by simp)))
              have A1429 := ((((A1352.other W1354 (Nat.ne_of_lt (Nat.lt_of_lt_of_le (Nat.lt_of_lt_of_le A5.lt K1339.1) (Nat.le_of_eq g1320)))).ext X1359).keep K1375 (ninS (Nat.ne_of_lt (Nat.lt_of_lt_of_le (Nat.lt_of_lt_of_le A5.lt K1428.1) (Nat.le_of_eq g1358))) nin0)).keep K1379 nin0)
              refine go_caload 260 (i := 0) (v := (.int r10)) A1429 (by decide) (by decide) rfl rfl (D at_259) rfl ?_
              refine go_bipush 262 (v := 46) (D at_260) rfl rfl ?_
              refine go_icF 265 (D at_262) rfl (XT.ii_ne_f f1381) ?_
              refine go_iconst 266 (v := 0) (D at_265) rfl rfl ?_
              refine go_istore 268 (ls' := #[vi x0, vi x1, vi x2, vi 5, vr a2, vr a1319, vr a1357, vr r1380, vi 0, un, un, un, un]) (D at_266) rfl rfl ?_
              refine go_iload 270 (D at_268) rfl rfl ?_
              refine go_iconst 271 (v := 1) (D at_270) rfl rfl ?_
              refine go_iadd 272 (z := (1 : Int32)) (D at_271) rfl (by decide) ?_
              refine go_istore 274 (ls' := #[vi x0, vi x1, vi x2, vi 5, vr a2, vr a1319, vr a1357, vr r1380, vi 0, vi 1, un, un, un]) (D at_272) rfl rfl ?_
              refine go_iload_n 275 (D at_274) rfl rfl ?_
              refine go_iload 277 (D at_275) rfl rfl ?_
              refine go_isub 278 (z := (4 : Int32)) (D at_277) rfl (by decide) ?_
              refine go_istore 280 (ls' := #[vi x0, vi x1, vi x2, vi 5, vr a2, vr a1319, vr a1357, vr r1380, vi 0, vi 1, vi 4, un, un]) (D at_278) rfl rfl ?_
              refine go_iload 282 (D at_280) rfl rfl ?_
              refine go_newP 284 (cells' := 7) (slots' := 31) (cap := 4) (vs := [(.int 0), (.int 0), (.int 0), (.int 0)]) (ty := .char) (dv := .int 0) (wk G 0 rfl) rfl rfl (D at_282) rfl (by decide) rfl (by decide) rfl rfl rfl (by decide) (by decide) (fun h1430 a1431 k1435 g1432 X1433 A1434 => ?_)
              refine go_astore 286 (ls' := #[vi x0, vi x1, vi x2, vi 5, vr a2, vr a1319, vr a1357, vr r1380, vi 0, vi 1, vi 4, vr a1431, un]) (D at_284) rfl rfl rfl ?_
              refine go_iload 288 (D at_286) rfl rfl ?_
              refine go_ifF 291 (D at_288) rfl (by decide) ?_
              refine go_aload 293 (D at_291) rfl rfl rfl ?_
              refine go_iconst 294 (v := 0) (D at_293) rfl rfl ?_
              refine go_aload 296 (D at_294) rfl rfl rfl ?_
              refine go_iload 298 (D at_296) rfl rfl ?_
              have K1436 : Keep h1378 h1430 [] := ((Keep.refl h1378 []).ext X1433)
              have A1437 := (A1429.keep K1436 nin0)
              refine go_caload 299 (i := 1) (v := (.int r18)) A1437 (by decide) (by decide) rfl rfl (D at_298) rfl ?_
              have K1441 : Keep h0 h1356 [] := (K1373.ext X1359)
              have K1442 : Keep h0 h1374 [] := (K1441.trans K1375 (allS (Or.inr (Nat.le_trans K1373.1 (Nat.le_of_eq g1358))) all0))
              have K1443 : Keep h0 h1378 [] := (K1442.trans K1379 all0)
              refine go_stC 300 (i := 0) (x' := r18) (vs' := [(.int r18), (.int 0), (.int 0), (.int 0)]) A1434 (Nat.le_trans O0.2.1 (Nat.le_trans K1443.1 (Nat.le_of_eq g1432))) (by decide) (by decide) rfl (nb rfl) (i2c_c8 f19) rfl (D at_299) rfl (fun h1438 W1439 A1440 => ?_)
              refine go_iload 302 (D at_300) rfl rfl ?_
              refine go_iconst 303 (v := 1) (D at_302) rfl rfl ?_
              refine go_icF 306 (D at_303) rfl (by decide) ?_
              refine go_aload 308 (D at_306) rfl rfl rfl ?_
              refine go_iconst 309 (v := 1) (D at_308) rfl rfl ?_
              refine go_aload 311 (D at_309) rfl rfl rfl ?_
              refine go_iload 313 (D at_311) rfl rfl ?_
              refine go_iconst 314 (v := 1) (D at_313) rfl rfl ?_
              refine go_iadd 315 (z := (2 : Int32)) (D at_314) rfl (by decide) ?_
              have K1444 : Keep h1 h12 [a2, a1319, a1357] := ((Keep.refl h1 [a2, a1319, a1357]).wr W13 (Or.inl (by simp)))
              have K1445 : Keep h1 h20 [a2, a1319, a1357] := (K1444.wr W21 (Or.inl (by simp)))
              have K1446 : Keep h1 h28 [a2, a1319, a1357] := (K1445.wr W29 (Or.inl (by simp)))
              have K1447 : Keep h1 h36 [a2, a1319, a1357] := (K1446.wr W37 (Or.inl (by simp)))
              have K1448 : Keep h1 h44 [a2, a1319, a1357] := (K1447.wr W45 (Or.inl (by simp)))
              have K1449 : Keep h1 h1318 [a2, a1319, a1357] := (K1448.ext X1321)
              have K1450 : Keep h1 h1326 [a2, a1319, a1357] := (K1449.wr W1327 (Or.inl (by simp)))
              have K1451 : Keep h1 h1341 [a2, a1319, a1357] := (K1450.wr W1342 (Or.inl (by simp)))
              have K1452 : Keep h1 h1345 [a2, a1319, a1357] := (K1451.wr W1346 (Or.inl (by simp)))
              have K1453 : Keep h1 h1349 [a2, a1319, a1357] := (K1452.wr W1350 (Or.inl (by simp)))
              have K1454 : Keep h1 h1353 [a2, a1319, a1357] := (K1453.wr W1354 (Or.inl (by simp)))
              have K1455 : Keep h1 h1356 [a2, a1319, a1357] := (K1454.ext X1359)
              have K1456 : Keep h1 h1374 [a2, a1319, a1357] := (K1455.trans K1375 (allS (Or.inl (by simp)) all0))
              have K1457 : Keep h1 h1378 [a2, a1319, a1357] := (K1456.trans K1379 all0)
              have A1458 := (A1437.other W1439 (Nat.ne_of_lt (Nat.lt_of_lt_of_le (Nat.lt_of_lt_of_le A5.lt K1457.1) (Nat.le_of_eq g1432))))
              refine go_caload 316 (i := 2) (v := (.int r26)) A1458 (by decide) (by decide) rfl rfl (D at_315) rfl ?_
              refine go_stC 317 (i := 1) (x' := r26) (vs' := [(.int r18), (.int r26), (.int 0), (.int 0)]) A1440 (Nat.le_trans O0.2.1 (Nat.le_trans K1443.1 (Nat.le_of_eq g1432))) (by decide) (by decide) rfl (nb rfl) (i2c_c8 f27) rfl (D at_316) rfl (fun h1459 W1460 A1461 => ?_)
              refine go_iload 319 (D at_317) rfl rfl ?_
              refine go_iconst 320 (v := 2) (D at_319) rfl rfl ?_
              refine go_icF 323 (D at_320) rfl (by decide) ?_
              refine go_aload 325 (D at_323) rfl rfl rfl ?_
              refine go_iconst 326 (v := 2) (D at_325) rfl rfl ?_
              refine go_aload 328 (D at_326) rfl rfl rfl ?_
              refine go_iload 330 (D at_328) rfl rfl ?_
              refine go_iconst 331 (v := 2) (D at_330) rfl rfl ?_
              refine go_iadd 332 (z := (3 : Int32)) (D at_331) rfl (by decide) ?_
              have A1462 := (A1458.other W1460 (Nat.ne_of_lt (Nat.lt_of_lt_of_le (Nat.lt_of_lt_of_le A5.lt K1457.1) (Nat.le_of_eq g1432))))
              refine go_caload 333 (i := 3) (v := (.int r34)) A1462 (by decide) (by decide) rfl rfl (D at_332) rfl ?_
              refine go_stC 334 (i := 2) (x' := r34) (vs' := [(.int r18), (.int r26), (.int r34), (.int 0)]) A1461 (Nat.le_trans O0.2.1 (Nat.le_trans K1443.1 (Nat.le_of_eq g1432))) (by decide) (by decide) rfl (nb rfl) (i2c_c8 f35) rfl (D at_333) rfl (fun h1463 W1464 A1465 => ?_)
              refine go_iload 336 (D at_334) rfl rfl ?_
              refine go_iconst 337 (v := 3) (D at_336) rfl rfl ?_
              refine go_icF 340 (D at_337) rfl (by decide) ?_
              refine go_aload 342 (D at_340) rfl rfl rfl ?_
              refine go_iconst 343 (v := 3) (D at_342) rfl rfl ?_
              refine go_aload 345 (D at_343) rfl rfl rfl ?_
              refine go_iload 347 (D at_345) rfl rfl ?_
              refine go_iconst 348 (v := 3) (D at_347) rfl rfl ?_
              refine go_iadd 349 (z := (4 : Int32)) (D at_348) rfl (by decide) ?_
              have A1466 := (A1462.other W1464 (Nat.ne_of_lt (Nat.lt_of_lt_of_le (Nat.lt_of_lt_of_le A5.lt K1457.1) (Nat.le_of_eq g1432))))
              refine go_caload 350 (i := 4) (v := (.int r42)) A1466 (by decide) (by decide) rfl rfl (D at_349) rfl ?_
              refine go_stC 351 (i := 3) (x' := r42) (vs' := [(.int r18), (.int r26), (.int r34), (.int r42)]) A1465 (Nat.le_trans O0.2.1 (Nat.le_trans K1443.1 (Nat.le_of_eq g1432))) (by decide) (by decide) rfl (nb rfl) (i2c_c8 f43) rfl (D at_350) rfl (fun h1467 W1468 A1469 => ?_)
              refine go_iload 353 (D at_351) rfl rfl ?_
              refine go_iconst 354 (v := 4) (D at_353) rfl rfl ?_
              refine go_icT 368 (D at_354) (by decide) rfl (by decide) ?_
              refine go_newO 371 (cells' := 8) (slots' := 35) (wk G 5 rfl) (wk G 6 rfl) (wk G 7 rfl) (D at_368) rfl rfl rfl (by decide) (by decide) (fun h1470 a1471 g1472 X1473 E1474 D1475 U1476 => ?_)
              refine go_dup 372 (D at_371) rfl rfl ?_
              refine go_aload 374 (D at_372) rfl rfl rfl ?_
              have F1477 := D1475 (Or.inr (wk G 20 rfl)) (ty := (.array .byte)) (by decide)
              have F1478 := D1475 (Or.inr (wk G 21 rfl)) (ty := .byte) (by decide)
              have K1479 : Keep h1467 h1470 [] := ((Keep.refl h1467 []).ext X1473)
              have A1480 := (A1469.keep K1479 nin0)
              refine go_old (fun O1481 => ?_)
              have K1482 : Keep h0 h1430 [] := (K1443.ext X1433)
              have K1483 : Keep h0 h1438 [] := (K1482.wr W1439 (Or.inr (Nat.le_trans K1443.1 (Nat.le_of_eq g1432))))
              have K1484 : Keep h0 h1459 [] := (K1483.wr W1460 (Or.inr (Nat.le_trans K1443.1 (Nat.le_of_eq g1432))))
              have K1485 : Keep h0 h1463 [] := (K1484.wr W1464 (Or.inr (Nat.le_trans K1443.1 (Nat.le_of_eq g1432))))
              have K1486 : Keep h0 h1467 [] := (K1485.wr W1468 (Or.inr (Nat.le_trans K1443.1 (Nat.le_of_eq g1432))))
              refine callI0 (cells' := 9) (slots' := 39) (Wd := 1) (argsL := [(.ref a1431)]) (rest := [(.ref a1471)]) (pay_new G O1481 (cs := [r18, r26, r34, r42]) (n := 4) (Nat.le_trans O0.2.1 (Nat.le_trans K1486.1 (Nat.le_of_eq g1472))) E1474 F1477 F1478 A1480 rfl rfl (by decide) (by decide) (c8c f19 (c8c f27 (c8c f35 (c8c f43 c8n)))) (by decide) (by decide)) rfl (wk G 8 rfl) (wk G 9 rfl) (wk G 10 rfl) (by decide) pd4 rfl rfl (by rw [hml]; rfl) (nb rfl) rfl rfl (by decide) (by decide) (allS (Nat.le_trans O0.2.1 (Nat.le_trans K1486.1 (Nat.le_of_eq g1472))) all0) (fun _ hal => (sfS (safe_null hal E1474 F1477) sf0)) (D at_374) (k_n 377 rfl ?_)
              rintro h1487 S1489 K1488
              refine go_astore 379 (ls' := #[vi x0, vi x1, vi x2, vi 5, vr a2, vr a1319, vr a1357, vr r1380, vi 0, vi 1, vi 4, vr a1431, vr a1471]) (D at_377) rfl rfl rfl ?_
              refine go_aload 381 (D at_379) rfl rfl rfl ?_
              refine go_nullF 384 (D at_381) rfl ?_
              refine go_aload 386 (D at_384) rfl rfl rfl ?_
              refine go_aload 388 (D at_386) rfl rfl rfl ?_
              have K1490 : Keep h1378 h1438 [] := (K1436.wr W1439 (Or.inr (Nat.le_of_eq g1432)))
              have K1491 : Keep h1378 h1459 [] := (K1490.wr W1460 (Or.inr (Nat.le_of_eq g1432)))
              have K1492 : Keep h1378 h1463 [] := (K1491.wr W1464 (Or.inr (Nat.le_of_eq g1432)))
              have K1493 : Keep h1378 h1467 [] := (K1492.wr W1468 (Or.inr (Nat.le_of_eq g1432)))
              have K1494 : Keep h1378 h1470 [] := (K1493.ext X1473)
              have K1495 : Keep h1378 h1487 [] := (K1494.trans K1488 (allS (Or.inr (Nat.le_trans K1493.1 (Nat.le_of_eq g1472))) all0))
              have S1496 := (f1382.keep K1495)
              refine go_old (fun O1497 => ?_)
              have E1498 := (f1382.exa.keep K1495)
              refine callV0 (cells' := 9) (slots' := 39) (Wd := 0) (argsL := [(.ref a1471)]) (rest := []) (pay_eq G O1497 S1496 S1489 (by decide) (by decide)) E1498 (wk G 88 rfl) (wk G 89 rfl) (wk G 91 rfl) (wk G 91 rfl) (wk G 90 rfl) (by decide) pd15 rfl rfl (by rw [hml]; rfl) (nb rfl) rfl rfl (by decide) (by decide) all0 (fun _ _ => sf0) (D at_388) (k_v 391 rfl ?_)
              rintro _ _ (⟨rfl, q1499, rfl⟩ | ⟨rfl, q1499, rfl⟩) -
              rotate_left 1
              · exact absurd rfl q1499
              refine go_ifF 394 (D at_391) rfl (by decide) ?_
              refine go_iconst 395 (v := 1) (D at_394) rfl rfl ?_
              refine go_goto 399 (D at_395) (by decide) rfl ?_
              have K1500 : Keep h0 h1470 [] := (K1486.ext X1473)
              have K1501 : Keep h0 h1487 [] := (K1500.trans K1488 (allS (Or.inr (Nat.le_trans K1486.1 (Nat.le_of_eq g1472))) all0))
              refine go_ireturn hret hlk rfl (by simp) (D at_399) (by decide) (by decide) ⟨_, rfl, rfl⟩ K1501
            · intro J1417
              refine go_iload_n 236 (D at_235) rfl rfl ?_
              refine go_iconst 237 (v := 1) (D at_236) rfl rfl ?_
              refine go_icF 240 (D at_237) rfl (by decide) ?_
              refine go_aload 242 (D at_240) rfl rfl rfl ?_
              refine go_iconst 243 (v := 1) (D at_242) rfl rfl ?_
              have K1502 : Keep h1 h12 [a2, a1319] := ((Keep.refl h1 [a2, a1319]).wr W13 (Or.inl (by simp)))
              have K1503 : Keep h1 h20 [a2, a1319] := (K1502.wr W21 (Or.inl (by simp)))
              have K1504 : Keep h1 h28 [a2, a1319] := (K1503.wr W29 (Or.inl (by simp)))
              have K1505 : Keep h1 h36 [a2, a1319] := (K1504.wr W37 (Or.inl (by simp)))
              have K1506 : Keep h1 h44 [a2, a1319] := (K1505.wr W45 (Or.inl (by simp)))
              have K1507 : Keep h1 h1318 [a2, a1319] := (K1506.ext X1321)
              have K1508 : Keep h1 h1326 [a2, a1319] := (K1507.wr W1327 (Or.inl (by simp)))
              have K1509 : Keep h1 h1341 [a2, a1319] := (K1508.wr W1342 (Or.inl (by simp)))
              have K1510 : Keep h1 h1345 [a2, a1319] := (K1509.wr W1346 (Or.inl (by simp)))
              have K1511 : Keep h1 h1349 [a2, a1319] := (K1510.wr W1350 (Or.inl (by simp)))
              have K1512 : Keep h1 h1353 [a2, a1319] := (K1511.wr W1354 (Or.inl (by simp)))
              have A1513 := ((((A1352.other W1354 (Nat.ne_of_lt (Nat.lt_of_lt_of_le (Nat.lt_of_lt_of_le A5.lt K1339.1) (Nat.le_of_eq g1320)))).ext X1359).keep K1375 (ninS (Nat.ne_of_lt (Nat.lt_of_lt_of_le (Nat.lt_of_lt_of_le A5.lt K1512.1) (Nat.le_of_eq g1358))) nin0)).keep K1379 nin0)
              refine go_caload 244 (i := 1) (v := (.int r18)) A1513 (by decide) (by decide) rfl rfl (D at_243) rfl ?_
              refine go_bipush 246 (v := 46) (D at_244) rfl rfl ?_
              by_cases cz1514 : r18 = (46 : Int32)
              · refine go_icF 249 (D at_246) rfl (XT.ii_ne_f cz1514) ?_
                refine go_iconst 250 (v := 1) (D at_249) rfl rfl ?_
                refine go_istore 252 (ls' := #[vi x0, vi x1, vi x2, vi 5, vr a2, vr a1319, vr a1357, vr r1380, vi 1, un, un, un, un]) (D at_250) rfl rfl ?_
                exact J1417 (1 : Int32) trivial
              · refine go_icT 252 (D at_246) (by decide) rfl (XT.ii_ne_t cz1514) ?_
                exact J1417 d1414 trivial
          · intro J1415
            refine go_iload_n 219 (D at_218) rfl rfl ?_
            refine go_iconst 220 (v := 2) (D at_219) rfl rfl ?_
            refine go_icF 223 (D at_220) rfl (by decide) ?_
            refine go_aload 225 (D at_223) rfl rfl rfl ?_
            refine go_iconst 226 (v := 2) (D at_225) rfl rfl ?_
            have K1515 : Keep h1 h12 [a2, a1319] := ((Keep.refl h1 [a2, a1319]).wr W13 (Or.inl (by simp)))
            have K1516 : Keep h1 h20 [a2, a1319] := (K1515.wr W21 (Or.inl (by simp)))
            have K1517 : Keep h1 h28 [a2, a1319] := (K1516.wr W29 (Or.inl (by simp)))
            have K1518 : Keep h1 h36 [a2, a1319] := (K1517.wr W37 (Or.inl (by simp)))
            have K1519 : Keep h1 h44 [a2, a1319] := (K1518.wr W45 (Or.inl (by simp)))
            have K1520 : Keep h1 h1318 [a2, a1319] := (K1519.ext X1321)
            have K1521 : Keep h1 h1326 [a2, a1319] := (K1520.wr W1327 (Or.inl (by simp)))
            have K1522 : Keep h1 h1341 [a2, a1319] := (K1521.wr W1342 (Or.inl (by simp)))
            have K1523 : Keep h1 h1345 [a2, a1319] := (K1522.wr W1346 (Or.inl (by simp)))
            have K1524 : Keep h1 h1349 [a2, a1319] := (K1523.wr W1350 (Or.inl (by simp)))
            have K1525 : Keep h1 h1353 [a2, a1319] := (K1524.wr W1354 (Or.inl (by simp)))
            have A1526 := ((((A1352.other W1354 (Nat.ne_of_lt (Nat.lt_of_lt_of_le (Nat.lt_of_lt_of_le A5.lt K1339.1) (Nat.le_of_eq g1320)))).ext X1359).keep K1375 (ninS (Nat.ne_of_lt (Nat.lt_of_lt_of_le (Nat.lt_of_lt_of_le A5.lt K1525.1) (Nat.le_of_eq g1358))) nin0)).keep K1379 nin0)
            refine go_caload 227 (i := 2) (v := (.int r26)) A1526 (by decide) (by decide) rfl rfl (D at_226) rfl ?_
            refine go_bipush 229 (v := 46) (D at_227) rfl rfl ?_
            by_cases cz1527 : r26 = (46 : Int32)
            · refine go_icF 232 (D at_229) rfl (XT.ii_ne_f cz1527) ?_
              refine go_iconst 233 (v := 2) (D at_232) rfl rfl ?_
              refine go_istore 235 (ls' := #[vi x0, vi x1, vi x2, vi 5, vr a2, vr a1319, vr a1357, vr r1380, vi 2, un, un, un, un]) (D at_233) rfl rfl ?_
              exact J1415 (2 : Int32) trivial
            · refine go_icT 235 (D at_229) (by decide) rfl (XT.ii_ne_t cz1527) ?_
              exact J1415 d1412 trivial
        · intro J1413
          refine go_iload_n 202 (D at_201) rfl rfl ?_
          refine go_iconst 203 (v := 3) (D at_202) rfl rfl ?_
          refine go_icF 206 (D at_203) rfl (by decide) ?_
          refine go_aload 208 (D at_206) rfl rfl rfl ?_
          refine go_iconst 209 (v := 3) (D at_208) rfl rfl ?_
          have K1528 : Keep h1 h12 [a2, a1319] := ((Keep.refl h1 [a2, a1319]).wr W13 (Or.inl (by simp)))
          have K1529 : Keep h1 h20 [a2, a1319] := (K1528.wr W21 (Or.inl (by simp)))
          have K1530 : Keep h1 h28 [a2, a1319] := (K1529.wr W29 (Or.inl (by simp)))
          have K1531 : Keep h1 h36 [a2, a1319] := (K1530.wr W37 (Or.inl (by simp)))
          have K1532 : Keep h1 h44 [a2, a1319] := (K1531.wr W45 (Or.inl (by simp)))
          have K1533 : Keep h1 h1318 [a2, a1319] := (K1532.ext X1321)
          have K1534 : Keep h1 h1326 [a2, a1319] := (K1533.wr W1327 (Or.inl (by simp)))
          have K1535 : Keep h1 h1341 [a2, a1319] := (K1534.wr W1342 (Or.inl (by simp)))
          have K1536 : Keep h1 h1345 [a2, a1319] := (K1535.wr W1346 (Or.inl (by simp)))
          have K1537 : Keep h1 h1349 [a2, a1319] := (K1536.wr W1350 (Or.inl (by simp)))
          have K1538 : Keep h1 h1353 [a2, a1319] := (K1537.wr W1354 (Or.inl (by simp)))
          have A1539 := ((((A1352.other W1354 (Nat.ne_of_lt (Nat.lt_of_lt_of_le (Nat.lt_of_lt_of_le A5.lt K1339.1) (Nat.le_of_eq g1320)))).ext X1359).keep K1375 (ninS (Nat.ne_of_lt (Nat.lt_of_lt_of_le (Nat.lt_of_lt_of_le A5.lt K1538.1) (Nat.le_of_eq g1358))) nin0)).keep K1379 nin0)
          refine go_caload 210 (i := 3) (v := (.int r34)) A1539 (by decide) (by decide) rfl rfl (D at_209) rfl ?_
          refine go_bipush 212 (v := 46) (D at_210) rfl rfl ?_
          by_cases cz1540 : r34 = (46 : Int32)
          · refine go_icF 215 (D at_212) rfl (XT.ii_ne_f cz1540) ?_
            refine go_iconst 216 (v := 3) (D at_215) rfl rfl ?_
            refine go_istore 218 (ls' := #[vi x0, vi x1, vi x2, vi 5, vr a2, vr a1319, vr a1357, vr r1380, vi 3, un, un, un, un]) (D at_216) rfl rfl ?_
            exact J1413 (3 : Int32) trivial
          · refine go_icT 218 (D at_212) (by decide) rfl (XT.ii_ne_t cz1540) ?_
            exact J1413 d1410 trivial
      · intro J1411
        refine go_iload_n 185 (D at_184) rfl rfl ?_
        refine go_iconst 186 (v := 4) (D at_185) rfl rfl ?_
        refine go_icF 189 (D at_186) rfl (by decide) ?_
        refine go_aload 191 (D at_189) rfl rfl rfl ?_
        refine go_iconst 192 (v := 4) (D at_191) rfl rfl ?_
        have K1541 : Keep h1 h12 [a2, a1319] := ((Keep.refl h1 [a2, a1319]).wr W13 (Or.inl (by simp)))
        have K1542 : Keep h1 h20 [a2, a1319] := (K1541.wr W21 (Or.inl (by simp)))
        have K1543 : Keep h1 h28 [a2, a1319] := (K1542.wr W29 (Or.inl (by simp)))
        have K1544 : Keep h1 h36 [a2, a1319] := (K1543.wr W37 (Or.inl (by simp)))
        have K1545 : Keep h1 h44 [a2, a1319] := (K1544.wr W45 (Or.inl (by simp)))
        have K1546 : Keep h1 h1318 [a2, a1319] := (K1545.ext X1321)
        have K1547 : Keep h1 h1326 [a2, a1319] := (K1546.wr W1327 (Or.inl (by simp)))
        have K1548 : Keep h1 h1341 [a2, a1319] := (K1547.wr W1342 (Or.inl (by simp)))
        have K1549 : Keep h1 h1345 [a2, a1319] := (K1548.wr W1346 (Or.inl (by simp)))
        have K1550 : Keep h1 h1349 [a2, a1319] := (K1549.wr W1350 (Or.inl (by simp)))
        have K1551 : Keep h1 h1353 [a2, a1319] := (K1550.wr W1354 (Or.inl (by simp)))
        have A1552 := ((((A1352.other W1354 (Nat.ne_of_lt (Nat.lt_of_lt_of_le (Nat.lt_of_lt_of_le A5.lt K1339.1) (Nat.le_of_eq g1320)))).ext X1359).keep K1375 (ninS (Nat.ne_of_lt (Nat.lt_of_lt_of_le (Nat.lt_of_lt_of_le A5.lt K1551.1) (Nat.le_of_eq g1358))) nin0)).keep K1379 nin0)
        refine go_caload 193 (i := 4) (v := (.int r42)) A1552 (by decide) (by decide) rfl rfl (D at_192) rfl ?_
        refine go_bipush 195 (v := 46) (D at_193) rfl rfl ?_
        by_cases cz1553 : r42 = (46 : Int32)
        · refine go_icF 198 (D at_195) rfl (XT.ii_ne_f cz1553) ?_
          refine go_iconst 199 (v := 4) (D at_198) rfl rfl ?_
          refine go_istore 201 (ls' := #[vi x0, vi x1, vi x2, vi 5, vr a2, vr a1319, vr a1357, vr r1380, vi 4, un, un, un, un]) (D at_199) rfl rfl ?_
          exact J1411 (4 : Int32) trivial
        · refine go_icT 201 (D at_195) (by decide) rfl (XT.ii_ne_t cz1553) ?_
          exact J1411 (-1 : Int32) trivial
    · refine go_astore 181 (ls' := #[vi x0, vi x1, vi x2, vi 5, vr a2, vr a1319, vr a1357, vr r1383, un, un, un, un, un]) (D at_179) rfl rfl rfl ?_
      refine go_iconst 182 (v := (-1)) (D at_181) rfl rfl ?_
      refine go_istore 184 (ls' := #[vi x0, vi x1, vi x2, vi 5, vr a2, vr a1319, vr a1357, vr r1383, vi (-1 : Int32), un, un, un, un]) (D at_182) rfl rfl ?_
      refine go_cut (α := Int32) (P := fun q => True) (gf := fun q => mkF m_ 201 #[.val (.int x0), .val (.int x1), .val (.int x2), .val (.int 5), .val (.ref a2), .val (.ref a1319), .val (.ref a1357), .val (.ref r1383), .val (.int q), .unset, .unset, .unset, .unset] []) ?_ ?_
      · rintro d1554 -
        try dsimp only
        refine go_cut (α := Int32) (P := fun q => True) (gf := fun q => mkF m_ 218 #[.val (.int x0), .val (.int x1), .val (.int x2), .val (.int 5), .val (.ref a2), .val (.ref a1319), .val (.ref a1357), .val (.ref r1383), .val (.int q), .unset, .unset, .unset, .unset] []) ?_ ?_
        · rintro d1556 -
          try dsimp only
          refine go_cut (α := Int32) (P := fun q => True) (gf := fun q => mkF m_ 235 #[.val (.int x0), .val (.int x1), .val (.int x2), .val (.int 5), .val (.ref a2), .val (.ref a1319), .val (.ref a1357), .val (.ref r1383), .val (.int q), .unset, .unset, .unset, .unset] []) ?_ ?_
          · rintro d1558 -
            try dsimp only
            refine go_iload_n 236 (D at_235) rfl rfl ?_
            refine go_iconst 237 (v := 1) (D at_236) rfl rfl ?_
            refine go_icF 240 (D at_237) rfl (by decide) ?_
            refine go_aload 242 (D at_240) rfl rfl rfl ?_
            refine go_iconst 243 (v := 1) (D at_242) rfl rfl ?_
            have K1560 : Keep h1 h12 [a2, a1319] := ((Keep.refl h1 [a2, a1319]).wr W13 (Or.inl (by simp)))
            have K1561 : Keep h1 h20 [a2, a1319] := (K1560.wr W21 (Or.inl (by simp)))
            have K1562 : Keep h1 h28 [a2, a1319] := (K1561.wr W29 (Or.inl (by simp)))
            have K1563 : Keep h1 h36 [a2, a1319] := (K1562.wr W37 (Or.inl (by simp)))
            have K1564 : Keep h1 h44 [a2, a1319] := (K1563.wr W45 (Or.inl (by simp)))
            have K1565 : Keep h1 h1318 [a2, a1319] := (K1564.ext X1321)
            have K1566 : Keep h1 h1326 [a2, a1319] := (K1565.wr W1327 (Or.inl (by simp)))
            have K1567 : Keep h1 h1341 [a2, a1319] := (K1566.wr W1342 (Or.inl (by simp)))
            have K1568 : Keep h1 h1345 [a2, a1319] := (K1567.wr W1346 (Or.inl (by simp)))
            have K1569 : Keep h1 h1349 [a2, a1319] := (K1568.wr W1350 (Or.inl (by simp)))
            have K1570 : Keep h1 h1353 [a2, a1319] := (K1569.wr W1354 (Or.inl (by simp)))
            have A1571 := ((((A1352.other W1354 (Nat.ne_of_lt (Nat.lt_of_lt_of_le (Nat.lt_of_lt_of_le A5.lt K1339.1) (Nat.le_of_eq g1320)))).ext X1359).keep K1375 (ninS (Nat.ne_of_lt (Nat.lt_of_lt_of_le (Nat.lt_of_lt_of_le A5.lt K1570.1) (Nat.le_of_eq g1358))) nin0)).keep K1379 nin0)
            refine go_caload 244 (i := 1) (v := (.int r18)) A1571 (by decide) (by decide) rfl rfl (D at_243) rfl ?_
            refine go_bipush 246 (v := 46) (D at_244) rfl rfl ?_
            refine go_icF 249 (D at_246) rfl (XT.ii_ne_f f1385) ?_
            refine go_iconst 250 (v := 1) (D at_249) rfl rfl ?_
            refine go_istore 252 (ls' := #[vi x0, vi x1, vi x2, vi 5, vr a2, vr a1319, vr a1357, vr r1383, vi 1, un, un, un, un]) (D at_250) rfl rfl ?_
            refine go_iload_n 253 (D at_252) rfl rfl ?_
            refine go_ifF 256 (D at_253) rfl (by decide) ?_
            refine go_aload 258 (D at_256) rfl rfl rfl ?_
            refine go_iconst 259 (v := 0) (D at_258) rfl rfl ?_
            refine go_caload 260 (i := 0) (v := (.int r10)) A1571 (by decide) (by decide) rfl rfl (D at_259) rfl ?_
            refine go_bipush 262 (v := 46) (D at_260) rfl rfl ?_
            refine go_icT 268 (D at_262) (by decide) rfl (XT.ii_ne_t f1384) ?_
            refine go_iload 270 (D at_268) rfl rfl ?_
            refine go_iconst 271 (v := 1) (D at_270) rfl rfl ?_
            refine go_iadd 272 (z := (2 : Int32)) (D at_271) rfl (by decide) ?_
            refine go_istore 274 (ls' := #[vi x0, vi x1, vi x2, vi 5, vr a2, vr a1319, vr a1357, vr r1383, vi 1, vi 2, un, un, un]) (D at_272) rfl rfl ?_
            refine go_iload_n 275 (D at_274) rfl rfl ?_
            refine go_iload 277 (D at_275) rfl rfl ?_
            refine go_isub 278 (z := (3 : Int32)) (D at_277) rfl (by decide) ?_
            refine go_istore 280 (ls' := #[vi x0, vi x1, vi x2, vi 5, vr a2, vr a1319, vr a1357, vr r1383, vi 1, vi 2, vi 3, un, un]) (D at_278) rfl rfl ?_
            refine go_iload 282 (D at_280) rfl rfl ?_
            refine go_newP 284 (cells' := 7) (slots' := 30) (cap := 3) (vs := [(.int 0), (.int 0), (.int 0)]) (ty := .char) (dv := .int 0) (wk G 0 rfl) rfl rfl (D at_282) rfl (by decide) rfl (by decide) rfl rfl rfl (by decide) (by decide) (fun h1572 a1573 k1577 g1574 X1575 A1576 => ?_)
            refine go_astore 286 (ls' := #[vi x0, vi x1, vi x2, vi 5, vr a2, vr a1319, vr a1357, vr r1383, vi 1, vi 2, vi 3, vr a1573, un]) (D at_284) rfl rfl rfl ?_
            refine go_iload 288 (D at_286) rfl rfl ?_
            refine go_ifF 291 (D at_288) rfl (by decide) ?_
            refine go_aload 293 (D at_291) rfl rfl rfl ?_
            refine go_iconst 294 (v := 0) (D at_293) rfl rfl ?_
            refine go_aload 296 (D at_294) rfl rfl rfl ?_
            refine go_iload 298 (D at_296) rfl rfl ?_
            have K1578 : Keep h1378 h1572 [] := ((Keep.refl h1378 []).ext X1575)
            have A1579 := (A1571.keep K1578 nin0)
            refine go_caload 299 (i := 2) (v := (.int r26)) A1579 (by decide) (by decide) rfl rfl (D at_298) rfl ?_
            have K1583 : Keep h0 h1356 [] := (K1373.ext X1359)
            have K1584 : Keep h0 h1374 [] := (K1583.trans K1375 (allS (Or.inr (Nat.le_trans K1373.1 (Nat.le_of_eq g1358))) all0))
            have K1585 : Keep h0 h1378 [] := (K1584.trans K1379 all0)
            refine go_stC 300 (i := 0) (x' := r26) (vs' := [(.int r26), (.int 0), (.int 0)]) A1576 (Nat.le_trans O0.2.1 (Nat.le_trans K1585.1 (Nat.le_of_eq g1574))) (by decide) (by decide) rfl (nb rfl) (i2c_c8 f27) rfl (D at_299) rfl (fun h1580 W1581 A1582 => ?_)
            refine go_iload 302 (D at_300) rfl rfl ?_
            refine go_iconst 303 (v := 1) (D at_302) rfl rfl ?_
            refine go_icF 306 (D at_303) rfl (by decide) ?_
            refine go_aload 308 (D at_306) rfl rfl rfl ?_
            refine go_iconst 309 (v := 1) (D at_308) rfl rfl ?_
            refine go_aload 311 (D at_309) rfl rfl rfl ?_
            refine go_iload 313 (D at_311) rfl rfl ?_
            refine go_iconst 314 (v := 1) (D at_313) rfl rfl ?_
            refine go_iadd 315 (z := (3 : Int32)) (D at_314) rfl (by decide) ?_
            have K1586 : Keep h1 h12 [a2, a1319, a1357] := ((Keep.refl h1 [a2, a1319, a1357]).wr W13 (Or.inl (by simp)))
            have K1587 : Keep h1 h20 [a2, a1319, a1357] := (K1586.wr W21 (Or.inl (by simp)))
            have K1588 : Keep h1 h28 [a2, a1319, a1357] := (K1587.wr W29 (Or.inl (by simp)))
            have K1589 : Keep h1 h36 [a2, a1319, a1357] := (K1588.wr W37 (Or.inl (by simp)))
            have K1590 : Keep h1 h44 [a2, a1319, a1357] := (K1589.wr W45 (Or.inl (by simp)))
            have K1591 : Keep h1 h1318 [a2, a1319, a1357] := (K1590.ext X1321)
            have K1592 : Keep h1 h1326 [a2, a1319, a1357] := (K1591.wr W1327 (Or.inl (by simp)))
            have K1593 : Keep h1 h1341 [a2, a1319, a1357] := (K1592.wr W1342 (Or.inl (by simp)))
            have K1594 : Keep h1 h1345 [a2, a1319, a1357] := (K1593.wr W1346 (Or.inl (by simp)))
            have K1595 : Keep h1 h1349 [a2, a1319, a1357] := (K1594.wr W1350 (Or.inl (by simp)))
            have K1596 : Keep h1 h1353 [a2, a1319, a1357] := (K1595.wr W1354 (Or.inl (by simp)))
            have K1597 : Keep h1 h1356 [a2, a1319, a1357] := (K1596.ext X1359)
            have K1598 : Keep h1 h1374 [a2, a1319, a1357] := (K1597.trans K1375 (allS (Or.inl (by simp)) all0))
            have K1599 : Keep h1 h1378 [a2, a1319, a1357] := (K1598.trans K1379 all0)
            have A1600 := (A1579.other W1581 (Nat.ne_of_lt (Nat.lt_of_lt_of_le (Nat.lt_of_lt_of_le A5.lt K1599.1) (Nat.le_of_eq g1574))))
            refine go_caload 316 (i := 3) (v := (.int r34)) A1600 (by decide) (by decide) rfl rfl (D at_315) rfl ?_
            refine go_stC 317 (i := 1) (x' := r34) (vs' := [(.int r26), (.int r34), (.int 0)]) A1582 (Nat.le_trans O0.2.1 (Nat.le_trans K1585.1 (Nat.le_of_eq g1574))) (by decide) (by decide) rfl (nb rfl) (i2c_c8 f35) rfl (D at_316) rfl (fun h1601 W1602 A1603 => ?_)
            refine go_iload 319 (D at_317) rfl rfl ?_
            refine go_iconst 320 (v := 2) (D at_319) rfl rfl ?_
            refine go_icF 323 (D at_320) rfl (by decide) ?_
            refine go_aload 325 (D at_323) rfl rfl rfl ?_
            refine go_iconst 326 (v := 2) (D at_325) rfl rfl ?_
            refine go_aload 328 (D at_326) rfl rfl rfl ?_
            refine go_iload 330 (D at_328) rfl rfl ?_
            refine go_iconst 331 (v := 2) (D at_330) rfl rfl ?_
            refine go_iadd 332 (z := (4 : Int32)) (D at_331) rfl (by decide) ?_
            have A1604 := (A1600.other W1602 (Nat.ne_of_lt (Nat.lt_of_lt_of_le (Nat.lt_of_lt_of_le A5.lt K1599.1) (Nat.le_of_eq g1574))))
            refine go_caload 333 (i := 4) (v := (.int r42)) A1604 (by decide) (by decide) rfl rfl (D at_332) rfl ?_
            refine go_stC 334 (i := 2) (x' := r42) (vs' := [(.int r26), (.int r34), (.int r42)]) A1603 (Nat.le_trans O0.2.1 (Nat.le_trans K1585.1 (Nat.le_of_eq g1574))) (by decide) (by decide) rfl (nb rfl) (i2c_c8 f43) rfl (D at_333) rfl (fun h1605 W1606 A1607 => ?_)
            refine go_iload 336 (D at_334) rfl rfl ?_
            refine go_iconst 337 (v := 3) (D at_336) rfl rfl ?_
            refine go_icT 351 (D at_337) (by decide) rfl (by decide) ?_
            refine go_iload 353 (D at_351) rfl rfl ?_
            refine go_iconst 354 (v := 4) (D at_353) rfl rfl ?_
            refine go_icT 368 (D at_354) (by decide) rfl (by decide) ?_
            refine go_newO 371 (cells' := 8) (slots' := 34) (wk G 5 rfl) (wk G 6 rfl) (wk G 7 rfl) (D at_368) rfl rfl rfl (by decide) (by decide) (fun h1608 a1609 g1610 X1611 E1612 D1613 U1614 => ?_)
            refine go_dup 372 (D at_371) rfl rfl ?_
            refine go_aload 374 (D at_372) rfl rfl rfl ?_
            have F1615 := D1613 (Or.inr (wk G 20 rfl)) (ty := (.array .byte)) (by decide)
            have F1616 := D1613 (Or.inr (wk G 21 rfl)) (ty := .byte) (by decide)
            have K1617 : Keep h1605 h1608 [] := ((Keep.refl h1605 []).ext X1611)
            have A1618 := (A1607.keep K1617 nin0)
            refine go_old (fun O1619 => ?_)
            have K1620 : Keep h0 h1572 [] := (K1585.ext X1575)
            have K1621 : Keep h0 h1580 [] := (K1620.wr W1581 (Or.inr (Nat.le_trans K1585.1 (Nat.le_of_eq g1574))))
            have K1622 : Keep h0 h1601 [] := (K1621.wr W1602 (Or.inr (Nat.le_trans K1585.1 (Nat.le_of_eq g1574))))
            have K1623 : Keep h0 h1605 [] := (K1622.wr W1606 (Or.inr (Nat.le_trans K1585.1 (Nat.le_of_eq g1574))))
            refine callI0 (cells' := 9) (slots' := 37) (Wd := 1) (argsL := [(.ref a1573)]) (rest := [(.ref a1609)]) (pay_new G O1619 (cs := [r26, r34, r42]) (n := 3) (Nat.le_trans O0.2.1 (Nat.le_trans K1623.1 (Nat.le_of_eq g1610))) E1612 F1615 F1616 A1618 rfl rfl (by decide) (by decide) (c8c f27 (c8c f35 (c8c f43 c8n))) (by decide) (by decide)) rfl (wk G 8 rfl) (wk G 9 rfl) (wk G 10 rfl) (by decide) pd4 rfl rfl (by rw [hml]; rfl) (nb rfl) rfl rfl (by decide) (by decide) (allS (Nat.le_trans O0.2.1 (Nat.le_trans K1623.1 (Nat.le_of_eq g1610))) all0) (fun _ hal => (sfS (safe_null hal E1612 F1615) sf0)) (D at_374) (k_n 377 rfl ?_)
            rintro h1624 S1626 K1625
            refine go_astore 379 (ls' := #[vi x0, vi x1, vi x2, vi 5, vr a2, vr a1319, vr a1357, vr r1383, vi 1, vi 2, vi 3, vr a1573, vr a1609]) (D at_377) rfl rfl rfl ?_
            refine go_aload 381 (D at_379) rfl rfl rfl ?_
            refine go_nullF 384 (D at_381) rfl ?_
            refine go_aload 386 (D at_384) rfl rfl rfl ?_
            refine go_aload 388 (D at_386) rfl rfl rfl ?_
            have K1627 : Keep h1378 h1580 [] := (K1578.wr W1581 (Or.inr (Nat.le_of_eq g1574)))
            have K1628 : Keep h1378 h1601 [] := (K1627.wr W1602 (Or.inr (Nat.le_of_eq g1574)))
            have K1629 : Keep h1378 h1605 [] := (K1628.wr W1606 (Or.inr (Nat.le_of_eq g1574)))
            have K1630 : Keep h1378 h1608 [] := (K1629.ext X1611)
            have K1631 : Keep h1378 h1624 [] := (K1630.trans K1625 (allS (Or.inr (Nat.le_trans K1629.1 (Nat.le_of_eq g1610))) all0))
            have S1632 := (f1386.keep K1631)
            refine go_old (fun O1633 => ?_)
            have E1634 := (f1386.exa.keep K1631)
            refine callV0 (cells' := 9) (slots' := 37) (Wd := 0) (argsL := [(.ref a1609)]) (rest := []) (pay_eq G O1633 S1632 S1626 (by decide) (by decide)) E1634 (wk G 88 rfl) (wk G 89 rfl) (wk G 91 rfl) (wk G 91 rfl) (wk G 90 rfl) (by decide) pd15 rfl rfl (by rw [hml]; rfl) (nb rfl) rfl rfl (by decide) (by decide) all0 (fun _ _ => sf0) (D at_388) (k_v 391 rfl ?_)
            rintro _ _ (⟨rfl, q1635, rfl⟩ | ⟨rfl, q1635, rfl⟩) -
            rotate_left 1
            · exact absurd rfl q1635
            refine go_ifF 394 (D at_391) rfl (by decide) ?_
            refine go_iconst 395 (v := 1) (D at_394) rfl rfl ?_
            refine go_goto 399 (D at_395) (by decide) rfl ?_
            have K1636 : Keep h0 h1608 [] := (K1623.ext X1611)
            have K1637 : Keep h0 h1624 [] := (K1636.trans K1625 (allS (Or.inr (Nat.le_trans K1623.1 (Nat.le_of_eq g1610))) all0))
            refine go_ireturn hret hlk rfl (by simp) (D at_399) (by decide) (by decide) ⟨_, rfl, rfl⟩ K1637
          · intro J1559
            refine go_iload_n 219 (D at_218) rfl rfl ?_
            refine go_iconst 220 (v := 2) (D at_219) rfl rfl ?_
            refine go_icF 223 (D at_220) rfl (by decide) ?_
            refine go_aload 225 (D at_223) rfl rfl rfl ?_
            refine go_iconst 226 (v := 2) (D at_225) rfl rfl ?_
            have K1638 : Keep h1 h12 [a2, a1319] := ((Keep.refl h1 [a2, a1319]).wr W13 (Or.inl (by simp)))
            have K1639 : Keep h1 h20 [a2, a1319] := (K1638.wr W21 (Or.inl (by simp)))
            have K1640 : Keep h1 h28 [a2, a1319] := (K1639.wr W29 (Or.inl (by simp)))
            have K1641 : Keep h1 h36 [a2, a1319] := (K1640.wr W37 (Or.inl (by simp)))
            have K1642 : Keep h1 h44 [a2, a1319] := (K1641.wr W45 (Or.inl (by simp)))
            have K1643 : Keep h1 h1318 [a2, a1319] := (K1642.ext X1321)
            have K1644 : Keep h1 h1326 [a2, a1319] := (K1643.wr W1327 (Or.inl (by simp)))
            have K1645 : Keep h1 h1341 [a2, a1319] := (K1644.wr W1342 (Or.inl (by simp)))
            have K1646 : Keep h1 h1345 [a2, a1319] := (K1645.wr W1346 (Or.inl (by simp)))
            have K1647 : Keep h1 h1349 [a2, a1319] := (K1646.wr W1350 (Or.inl (by simp)))
            have K1648 : Keep h1 h1353 [a2, a1319] := (K1647.wr W1354 (Or.inl (by simp)))
            have A1649 := ((((A1352.other W1354 (Nat.ne_of_lt (Nat.lt_of_lt_of_le (Nat.lt_of_lt_of_le A5.lt K1339.1) (Nat.le_of_eq g1320)))).ext X1359).keep K1375 (ninS (Nat.ne_of_lt (Nat.lt_of_lt_of_le (Nat.lt_of_lt_of_le A5.lt K1648.1) (Nat.le_of_eq g1358))) nin0)).keep K1379 nin0)
            refine go_caload 227 (i := 2) (v := (.int r26)) A1649 (by decide) (by decide) rfl rfl (D at_226) rfl ?_
            refine go_bipush 229 (v := 46) (D at_227) rfl rfl ?_
            by_cases cz1650 : r26 = (46 : Int32)
            · refine go_icF 232 (D at_229) rfl (XT.ii_ne_f cz1650) ?_
              refine go_iconst 233 (v := 2) (D at_232) rfl rfl ?_
              refine go_istore 235 (ls' := #[vi x0, vi x1, vi x2, vi 5, vr a2, vr a1319, vr a1357, vr r1383, vi 2, un, un, un, un]) (D at_233) rfl rfl ?_
              exact J1559 (2 : Int32) trivial
            · refine go_icT 235 (D at_229) (by decide) rfl (XT.ii_ne_t cz1650) ?_
              exact J1559 d1556 trivial
        · intro J1557
          refine go_iload_n 202 (D at_201) rfl rfl ?_
          refine go_iconst 203 (v := 3) (D at_202) rfl rfl ?_
          refine go_icF 206 (D at_203) rfl (by decide) ?_
          refine go_aload 208 (D at_206) rfl rfl rfl ?_
          refine go_iconst 209 (v := 3) (D at_208) rfl rfl ?_
          have K1651 : Keep h1 h12 [a2, a1319] := ((Keep.refl h1 [a2, a1319]).wr W13 (Or.inl (by simp)))
          have K1652 : Keep h1 h20 [a2, a1319] := (K1651.wr W21 (Or.inl (by simp)))
          have K1653 : Keep h1 h28 [a2, a1319] := (K1652.wr W29 (Or.inl (by simp)))
          have K1654 : Keep h1 h36 [a2, a1319] := (K1653.wr W37 (Or.inl (by simp)))
          have K1655 : Keep h1 h44 [a2, a1319] := (K1654.wr W45 (Or.inl (by simp)))
          have K1656 : Keep h1 h1318 [a2, a1319] := (K1655.ext X1321)
          have K1657 : Keep h1 h1326 [a2, a1319] := (K1656.wr W1327 (Or.inl (by simp)))
          have K1658 : Keep h1 h1341 [a2, a1319] := (K1657.wr W1342 (Or.inl (by simp)))
          have K1659 : Keep h1 h1345 [a2, a1319] := (K1658.wr W1346 (Or.inl (by simp)))
          have K1660 : Keep h1 h1349 [a2, a1319] := (K1659.wr W1350 (Or.inl (by simp)))
          have K1661 : Keep h1 h1353 [a2, a1319] := (K1660.wr W1354 (Or.inl (by simp)))
          have A1662 := ((((A1352.other W1354 (Nat.ne_of_lt (Nat.lt_of_lt_of_le (Nat.lt_of_lt_of_le A5.lt K1339.1) (Nat.le_of_eq g1320)))).ext X1359).keep K1375 (ninS (Nat.ne_of_lt (Nat.lt_of_lt_of_le (Nat.lt_of_lt_of_le A5.lt K1661.1) (Nat.le_of_eq g1358))) nin0)).keep K1379 nin0)
          refine go_caload 210 (i := 3) (v := (.int r34)) A1662 (by decide) (by decide) rfl rfl (D at_209) rfl ?_
          refine go_bipush 212 (v := 46) (D at_210) rfl rfl ?_
          by_cases cz1663 : r34 = (46 : Int32)
          · refine go_icF 215 (D at_212) rfl (XT.ii_ne_f cz1663) ?_
            refine go_iconst 216 (v := 3) (D at_215) rfl rfl ?_
            refine go_istore 218 (ls' := #[vi x0, vi x1, vi x2, vi 5, vr a2, vr a1319, vr a1357, vr r1383, vi 3, un, un, un, un]) (D at_216) rfl rfl ?_
            exact J1557 (3 : Int32) trivial
          · refine go_icT 218 (D at_212) (by decide) rfl (XT.ii_ne_t cz1663) ?_
            exact J1557 d1554 trivial
      · intro J1555
        refine go_iload_n 185 (D at_184) rfl rfl ?_
        refine go_iconst 186 (v := 4) (D at_185) rfl rfl ?_
        refine go_icF 189 (D at_186) rfl (by decide) ?_
        refine go_aload 191 (D at_189) rfl rfl rfl ?_
        refine go_iconst 192 (v := 4) (D at_191) rfl rfl ?_
        have K1664 : Keep h1 h12 [a2, a1319] := ((Keep.refl h1 [a2, a1319]).wr W13 (Or.inl (by simp)))
        have K1665 : Keep h1 h20 [a2, a1319] := (K1664.wr W21 (Or.inl (by simp)))
        have K1666 : Keep h1 h28 [a2, a1319] := (K1665.wr W29 (Or.inl (by simp)))
        have K1667 : Keep h1 h36 [a2, a1319] := (K1666.wr W37 (Or.inl (by simp)))
        have K1668 : Keep h1 h44 [a2, a1319] := (K1667.wr W45 (Or.inl (by simp)))
        have K1669 : Keep h1 h1318 [a2, a1319] := (K1668.ext X1321)
        have K1670 : Keep h1 h1326 [a2, a1319] := (K1669.wr W1327 (Or.inl (by simp)))
        have K1671 : Keep h1 h1341 [a2, a1319] := (K1670.wr W1342 (Or.inl (by simp)))
        have K1672 : Keep h1 h1345 [a2, a1319] := (K1671.wr W1346 (Or.inl (by simp)))
        have K1673 : Keep h1 h1349 [a2, a1319] := (K1672.wr W1350 (Or.inl (by simp)))
        have K1674 : Keep h1 h1353 [a2, a1319] := (K1673.wr W1354 (Or.inl (by simp)))
        have A1675 := ((((A1352.other W1354 (Nat.ne_of_lt (Nat.lt_of_lt_of_le (Nat.lt_of_lt_of_le A5.lt K1339.1) (Nat.le_of_eq g1320)))).ext X1359).keep K1375 (ninS (Nat.ne_of_lt (Nat.lt_of_lt_of_le (Nat.lt_of_lt_of_le A5.lt K1674.1) (Nat.le_of_eq g1358))) nin0)).keep K1379 nin0)
        refine go_caload 193 (i := 4) (v := (.int r42)) A1675 (by decide) (by decide) rfl rfl (D at_192) rfl ?_
        refine go_bipush 195 (v := 46) (D at_193) rfl rfl ?_
        by_cases cz1676 : r42 = (46 : Int32)
        · refine go_icF 198 (D at_195) rfl (XT.ii_ne_f cz1676) ?_
          refine go_iconst 199 (v := 4) (D at_198) rfl rfl ?_
          refine go_istore 201 (ls' := #[vi x0, vi x1, vi x2, vi 5, vr a2, vr a1319, vr a1357, vr r1383, vi 4, un, un, un, un]) (D at_199) rfl rfl ?_
          exact J1555 (4 : Int32) trivial
        · refine go_icT 201 (D at_195) (by decide) rfl (XT.ii_ne_t cz1676) ?_
          exact J1555 (-1 : Int32) trivial
    · refine go_astore 181 (ls' := #[vi x0, vi x1, vi x2, vi 5, vr a2, vr a1319, vr a1357, vr r1387, un, un, un, un, un]) (D at_179) rfl rfl rfl ?_
      refine go_iconst 182 (v := (-1)) (D at_181) rfl rfl ?_
      refine go_istore 184 (ls' := #[vi x0, vi x1, vi x2, vi 5, vr a2, vr a1319, vr a1357, vr r1387, vi (-1 : Int32), un, un, un, un]) (D at_182) rfl rfl ?_
      refine go_cut (α := Int32) (P := fun q => True) (gf := fun q => mkF m_ 201 #[.val (.int x0), .val (.int x1), .val (.int x2), .val (.int 5), .val (.ref a2), .val (.ref a1319), .val (.ref a1357), .val (.ref r1387), .val (.int q), .unset, .unset, .unset, .unset] []) ?_ ?_
      · rintro d1677 -
        try dsimp only
        refine go_cut (α := Int32) (P := fun q => True) (gf := fun q => mkF m_ 218 #[.val (.int x0), .val (.int x1), .val (.int x2), .val (.int 5), .val (.ref a2), .val (.ref a1319), .val (.ref a1357), .val (.ref r1387), .val (.int q), .unset, .unset, .unset, .unset] []) ?_ ?_
        · rintro d1679 -
          try dsimp only
          refine go_iload_n 219 (D at_218) rfl rfl ?_
          refine go_iconst 220 (v := 2) (D at_219) rfl rfl ?_
          refine go_icF 223 (D at_220) rfl (by decide) ?_
          refine go_aload 225 (D at_223) rfl rfl rfl ?_
          refine go_iconst 226 (v := 2) (D at_225) rfl rfl ?_
          have K1681 : Keep h1 h12 [a2, a1319] := ((Keep.refl h1 [a2, a1319]).wr W13 (Or.inl (by simp)))
          have K1682 : Keep h1 h20 [a2, a1319] := (K1681.wr W21 (Or.inl (by simp)))
          have K1683 : Keep h1 h28 [a2, a1319] := (K1682.wr W29 (Or.inl (by simp)))
          have K1684 : Keep h1 h36 [a2, a1319] := (K1683.wr W37 (Or.inl (by simp)))
          have K1685 : Keep h1 h44 [a2, a1319] := (K1684.wr W45 (Or.inl (by simp)))
          have K1686 : Keep h1 h1318 [a2, a1319] := (K1685.ext X1321)
          have K1687 : Keep h1 h1326 [a2, a1319] := (K1686.wr W1327 (Or.inl (by simp)))
          have K1688 : Keep h1 h1341 [a2, a1319] := (K1687.wr W1342 (Or.inl (by simp)))
          have K1689 : Keep h1 h1345 [a2, a1319] := (K1688.wr W1346 (Or.inl (by simp)))
          have K1690 : Keep h1 h1349 [a2, a1319] := (K1689.wr W1350 (Or.inl (by simp)))
          have K1691 : Keep h1 h1353 [a2, a1319] := (K1690.wr W1354 (Or.inl (by simp)))
          have A1692 := ((((A1352.other W1354 (Nat.ne_of_lt (Nat.lt_of_lt_of_le (Nat.lt_of_lt_of_le A5.lt K1339.1) (Nat.le_of_eq g1320)))).ext X1359).keep K1375 (ninS (Nat.ne_of_lt (Nat.lt_of_lt_of_le (Nat.lt_of_lt_of_le A5.lt K1691.1) (Nat.le_of_eq g1358))) nin0)).keep K1379 nin0)
          refine go_caload 227 (i := 2) (v := (.int r26)) A1692 (by decide) (by decide) rfl rfl (D at_226) rfl ?_
          refine go_bipush 229 (v := 46) (D at_227) rfl rfl ?_
          refine go_icF 232 (D at_229) rfl (XT.ii_ne_f f1390) ?_
          refine go_iconst 233 (v := 2) (D at_232) rfl rfl ?_
          refine go_istore 235 (ls' := #[vi x0, vi x1, vi x2, vi 5, vr a2, vr a1319, vr a1357, vr r1387, vi 2, un, un, un, un]) (D at_233) rfl rfl ?_
          refine go_iload_n 236 (D at_235) rfl rfl ?_
          refine go_iconst 237 (v := 1) (D at_236) rfl rfl ?_
          refine go_icF 240 (D at_237) rfl (by decide) ?_
          refine go_aload 242 (D at_240) rfl rfl rfl ?_
          refine go_iconst 243 (v := 1) (D at_242) rfl rfl ?_
          refine go_caload 244 (i := 1) (v := (.int r18)) A1692 (by decide) (by decide) rfl rfl (D at_243) rfl ?_
          refine go_bipush 246 (v := 46) (D at_244) rfl rfl ?_
          refine go_icT 252 (D at_246) (by decide) rfl (XT.ii_ne_t f1389) ?_
          refine go_iload_n 253 (D at_252) rfl rfl ?_
          refine go_ifF 256 (D at_253) rfl (by decide) ?_
          refine go_aload 258 (D at_256) rfl rfl rfl ?_
          refine go_iconst 259 (v := 0) (D at_258) rfl rfl ?_
          refine go_caload 260 (i := 0) (v := (.int r10)) A1692 (by decide) (by decide) rfl rfl (D at_259) rfl ?_
          refine go_bipush 262 (v := 46) (D at_260) rfl rfl ?_
          refine go_icT 268 (D at_262) (by decide) rfl (XT.ii_ne_t f1388) ?_
          refine go_iload 270 (D at_268) rfl rfl ?_
          refine go_iconst 271 (v := 1) (D at_270) rfl rfl ?_
          refine go_iadd 272 (z := (3 : Int32)) (D at_271) rfl (by decide) ?_
          refine go_istore 274 (ls' := #[vi x0, vi x1, vi x2, vi 5, vr a2, vr a1319, vr a1357, vr r1387, vi 2, vi 3, un, un, un]) (D at_272) rfl rfl ?_
          refine go_iload_n 275 (D at_274) rfl rfl ?_
          refine go_iload 277 (D at_275) rfl rfl ?_
          refine go_isub 278 (z := (2 : Int32)) (D at_277) rfl (by decide) ?_
          refine go_istore 280 (ls' := #[vi x0, vi x1, vi x2, vi 5, vr a2, vr a1319, vr a1357, vr r1387, vi 2, vi 3, vi 2, un, un]) (D at_278) rfl rfl ?_
          refine go_iload 282 (D at_280) rfl rfl ?_
          refine go_newP 284 (cells' := 7) (slots' := 29) (cap := 2) (vs := [(.int 0), (.int 0)]) (ty := .char) (dv := .int 0) (wk G 0 rfl) rfl rfl (D at_282) rfl (by decide) rfl (by decide) rfl rfl rfl (by decide) (by decide) (fun h1693 a1694 k1698 g1695 X1696 A1697 => ?_)
          refine go_astore 286 (ls' := #[vi x0, vi x1, vi x2, vi 5, vr a2, vr a1319, vr a1357, vr r1387, vi 2, vi 3, vi 2, vr a1694, un]) (D at_284) rfl rfl rfl ?_
          refine go_iload 288 (D at_286) rfl rfl ?_
          refine go_ifF 291 (D at_288) rfl (by decide) ?_
          refine go_aload 293 (D at_291) rfl rfl rfl ?_
          refine go_iconst 294 (v := 0) (D at_293) rfl rfl ?_
          refine go_aload 296 (D at_294) rfl rfl rfl ?_
          refine go_iload 298 (D at_296) rfl rfl ?_
          have K1699 : Keep h1378 h1693 [] := ((Keep.refl h1378 []).ext X1696)
          have A1700 := (A1692.keep K1699 nin0)
          refine go_caload 299 (i := 3) (v := (.int r34)) A1700 (by decide) (by decide) rfl rfl (D at_298) rfl ?_
          have K1704 : Keep h0 h1356 [] := (K1373.ext X1359)
          have K1705 : Keep h0 h1374 [] := (K1704.trans K1375 (allS (Or.inr (Nat.le_trans K1373.1 (Nat.le_of_eq g1358))) all0))
          have K1706 : Keep h0 h1378 [] := (K1705.trans K1379 all0)
          refine go_stC 300 (i := 0) (x' := r34) (vs' := [(.int r34), (.int 0)]) A1697 (Nat.le_trans O0.2.1 (Nat.le_trans K1706.1 (Nat.le_of_eq g1695))) (by decide) (by decide) rfl (nb rfl) (i2c_c8 f35) rfl (D at_299) rfl (fun h1701 W1702 A1703 => ?_)
          refine go_iload 302 (D at_300) rfl rfl ?_
          refine go_iconst 303 (v := 1) (D at_302) rfl rfl ?_
          refine go_icF 306 (D at_303) rfl (by decide) ?_
          refine go_aload 308 (D at_306) rfl rfl rfl ?_
          refine go_iconst 309 (v := 1) (D at_308) rfl rfl ?_
          refine go_aload 311 (D at_309) rfl rfl rfl ?_
          refine go_iload 313 (D at_311) rfl rfl ?_
          refine go_iconst 314 (v := 1) (D at_313) rfl rfl ?_
          refine go_iadd 315 (z := (4 : Int32)) (D at_314) rfl (by decide) ?_
          have K1707 : Keep h1 h12 [a2, a1319, a1357] := ((Keep.refl h1 [a2, a1319, a1357]).wr W13 (Or.inl (by simp)))
          have K1708 : Keep h1 h20 [a2, a1319, a1357] := (K1707.wr W21 (Or.inl (by simp)))
          have K1709 : Keep h1 h28 [a2, a1319, a1357] := (K1708.wr W29 (Or.inl (by simp)))
          have K1710 : Keep h1 h36 [a2, a1319, a1357] := (K1709.wr W37 (Or.inl (by simp)))
          have K1711 : Keep h1 h44 [a2, a1319, a1357] := (K1710.wr W45 (Or.inl (by simp)))
          have K1712 : Keep h1 h1318 [a2, a1319, a1357] := (K1711.ext X1321)
          have K1713 : Keep h1 h1326 [a2, a1319, a1357] := (K1712.wr W1327 (Or.inl (by simp)))
          have K1714 : Keep h1 h1341 [a2, a1319, a1357] := (K1713.wr W1342 (Or.inl (by simp)))
          have K1715 : Keep h1 h1345 [a2, a1319, a1357] := (K1714.wr W1346 (Or.inl (by simp)))
          have K1716 : Keep h1 h1349 [a2, a1319, a1357] := (K1715.wr W1350 (Or.inl (by simp)))
          have K1717 : Keep h1 h1353 [a2, a1319, a1357] := (K1716.wr W1354 (Or.inl (by simp)))
          have K1718 : Keep h1 h1356 [a2, a1319, a1357] := (K1717.ext X1359)
          have K1719 : Keep h1 h1374 [a2, a1319, a1357] := (K1718.trans K1375 (allS (Or.inl (by simp)) all0))
          have K1720 : Keep h1 h1378 [a2, a1319, a1357] := (K1719.trans K1379 all0)
          have A1721 := (A1700.other W1702 (Nat.ne_of_lt (Nat.lt_of_lt_of_le (Nat.lt_of_lt_of_le A5.lt K1720.1) (Nat.le_of_eq g1695))))
          refine go_caload 316 (i := 4) (v := (.int r42)) A1721 (by decide) (by decide) rfl rfl (D at_315) rfl ?_
          refine go_stC 317 (i := 1) (x' := r42) (vs' := [(.int r34), (.int r42)]) A1703 (Nat.le_trans O0.2.1 (Nat.le_trans K1706.1 (Nat.le_of_eq g1695))) (by decide) (by decide) rfl (nb rfl) (i2c_c8 f43) rfl (D at_316) rfl (fun h1722 W1723 A1724 => ?_)
          refine go_iload 319 (D at_317) rfl rfl ?_
          refine go_iconst 320 (v := 2) (D at_319) rfl rfl ?_
          refine go_icT 334 (D at_320) (by decide) rfl (by decide) ?_
          refine go_iload 336 (D at_334) rfl rfl ?_
          refine go_iconst 337 (v := 3) (D at_336) rfl rfl ?_
          refine go_icT 351 (D at_337) (by decide) rfl (by decide) ?_
          refine go_iload 353 (D at_351) rfl rfl ?_
          refine go_iconst 354 (v := 4) (D at_353) rfl rfl ?_
          refine go_icT 368 (D at_354) (by decide) rfl (by decide) ?_
          refine go_newO 371 (cells' := 8) (slots' := 33) (wk G 5 rfl) (wk G 6 rfl) (wk G 7 rfl) (D at_368) rfl rfl rfl (by decide) (by decide) (fun h1725 a1726 g1727 X1728 E1729 D1730 U1731 => ?_)
          refine go_dup 372 (D at_371) rfl rfl ?_
          refine go_aload 374 (D at_372) rfl rfl rfl ?_
          have F1732 := D1730 (Or.inr (wk G 20 rfl)) (ty := (.array .byte)) (by decide)
          have F1733 := D1730 (Or.inr (wk G 21 rfl)) (ty := .byte) (by decide)
          have K1734 : Keep h1722 h1725 [] := ((Keep.refl h1722 []).ext X1728)
          have A1735 := (A1724.keep K1734 nin0)
          refine go_old (fun O1736 => ?_)
          have K1737 : Keep h0 h1693 [] := (K1706.ext X1696)
          have K1738 : Keep h0 h1701 [] := (K1737.wr W1702 (Or.inr (Nat.le_trans K1706.1 (Nat.le_of_eq g1695))))
          have K1739 : Keep h0 h1722 [] := (K1738.wr W1723 (Or.inr (Nat.le_trans K1706.1 (Nat.le_of_eq g1695))))
          refine callI0 (cells' := 9) (slots' := 35) (Wd := 1) (argsL := [(.ref a1694)]) (rest := [(.ref a1726)]) (pay_new G O1736 (cs := [r34, r42]) (n := 2) (Nat.le_trans O0.2.1 (Nat.le_trans K1739.1 (Nat.le_of_eq g1727))) E1729 F1732 F1733 A1735 rfl rfl (by decide) (by decide) (c8c f35 (c8c f43 c8n)) (by decide) (by decide)) rfl (wk G 8 rfl) (wk G 9 rfl) (wk G 10 rfl) (by decide) pd4 rfl rfl (by rw [hml]; rfl) (nb rfl) rfl rfl (by decide) (by decide) (allS (Nat.le_trans O0.2.1 (Nat.le_trans K1739.1 (Nat.le_of_eq g1727))) all0) (fun _ hal => (sfS (safe_null hal E1729 F1732) sf0)) (D at_374) (k_n 377 rfl ?_)
          rintro h1740 S1742 K1741
          refine go_astore 379 (ls' := #[vi x0, vi x1, vi x2, vi 5, vr a2, vr a1319, vr a1357, vr r1387, vi 2, vi 3, vi 2, vr a1694, vr a1726]) (D at_377) rfl rfl rfl ?_
          refine go_aload 381 (D at_379) rfl rfl rfl ?_
          refine go_nullF 384 (D at_381) rfl ?_
          refine go_aload 386 (D at_384) rfl rfl rfl ?_
          refine go_aload 388 (D at_386) rfl rfl rfl ?_
          have K1743 : Keep h1378 h1701 [] := (K1699.wr W1702 (Or.inr (Nat.le_of_eq g1695)))
          have K1744 : Keep h1378 h1722 [] := (K1743.wr W1723 (Or.inr (Nat.le_of_eq g1695)))
          have K1745 : Keep h1378 h1725 [] := (K1744.ext X1728)
          have K1746 : Keep h1378 h1740 [] := (K1745.trans K1741 (allS (Or.inr (Nat.le_trans K1744.1 (Nat.le_of_eq g1727))) all0))
          have S1747 := (f1391.keep K1746)
          refine go_old (fun O1748 => ?_)
          have E1749 := (f1391.exa.keep K1746)
          refine callV0 (cells' := 9) (slots' := 35) (Wd := 0) (argsL := [(.ref a1726)]) (rest := []) (pay_eq G O1748 S1747 S1742 (by decide) (by decide)) E1749 (wk G 88 rfl) (wk G 89 rfl) (wk G 91 rfl) (wk G 91 rfl) (wk G 90 rfl) (by decide) pd15 rfl rfl (by rw [hml]; rfl) (nb rfl) rfl rfl (by decide) (by decide) all0 (fun _ _ => sf0) (D at_388) (k_v 391 rfl ?_)
          rintro _ _ (⟨rfl, q1750, rfl⟩ | ⟨rfl, q1750, rfl⟩) -
          rotate_left 1
          · exact absurd rfl q1750
          refine go_ifF 394 (D at_391) rfl (by decide) ?_
          refine go_iconst 395 (v := 1) (D at_394) rfl rfl ?_
          refine go_goto 399 (D at_395) (by decide) rfl ?_
          have K1751 : Keep h0 h1725 [] := (K1739.ext X1728)
          have K1752 : Keep h0 h1740 [] := (K1751.trans K1741 (allS (Or.inr (Nat.le_trans K1739.1 (Nat.le_of_eq g1727))) all0))
          refine go_ireturn hret hlk rfl (by simp) (D at_399) (by decide) (by decide) ⟨_, rfl, rfl⟩ K1752
        · intro J1680
          refine go_iload_n 202 (D at_201) rfl rfl ?_
          refine go_iconst 203 (v := 3) (D at_202) rfl rfl ?_
          refine go_icF 206 (D at_203) rfl (by decide) ?_
          refine go_aload 208 (D at_206) rfl rfl rfl ?_
          refine go_iconst 209 (v := 3) (D at_208) rfl rfl ?_
          have K1753 : Keep h1 h12 [a2, a1319] := ((Keep.refl h1 [a2, a1319]).wr W13 (Or.inl (by simp)))
          have K1754 : Keep h1 h20 [a2, a1319] := (K1753.wr W21 (Or.inl (by simp)))
          have K1755 : Keep h1 h28 [a2, a1319] := (K1754.wr W29 (Or.inl (by simp)))
          have K1756 : Keep h1 h36 [a2, a1319] := (K1755.wr W37 (Or.inl (by simp)))
          have K1757 : Keep h1 h44 [a2, a1319] := (K1756.wr W45 (Or.inl (by simp)))
          have K1758 : Keep h1 h1318 [a2, a1319] := (K1757.ext X1321)
          have K1759 : Keep h1 h1326 [a2, a1319] := (K1758.wr W1327 (Or.inl (by simp)))
          have K1760 : Keep h1 h1341 [a2, a1319] := (K1759.wr W1342 (Or.inl (by simp)))
          have K1761 : Keep h1 h1345 [a2, a1319] := (K1760.wr W1346 (Or.inl (by simp)))
          have K1762 : Keep h1 h1349 [a2, a1319] := (K1761.wr W1350 (Or.inl (by simp)))
          have K1763 : Keep h1 h1353 [a2, a1319] := (K1762.wr W1354 (Or.inl (by simp)))
          have A1764 := ((((A1352.other W1354 (Nat.ne_of_lt (Nat.lt_of_lt_of_le (Nat.lt_of_lt_of_le A5.lt K1339.1) (Nat.le_of_eq g1320)))).ext X1359).keep K1375 (ninS (Nat.ne_of_lt (Nat.lt_of_lt_of_le (Nat.lt_of_lt_of_le A5.lt K1763.1) (Nat.le_of_eq g1358))) nin0)).keep K1379 nin0)
          refine go_caload 210 (i := 3) (v := (.int r34)) A1764 (by decide) (by decide) rfl rfl (D at_209) rfl ?_
          refine go_bipush 212 (v := 46) (D at_210) rfl rfl ?_
          by_cases cz1765 : r34 = (46 : Int32)
          · refine go_icF 215 (D at_212) rfl (XT.ii_ne_f cz1765) ?_
            refine go_iconst 216 (v := 3) (D at_215) rfl rfl ?_
            refine go_istore 218 (ls' := #[vi x0, vi x1, vi x2, vi 5, vr a2, vr a1319, vr a1357, vr r1387, vi 3, un, un, un, un]) (D at_216) rfl rfl ?_
            exact J1680 (3 : Int32) trivial
          · refine go_icT 218 (D at_212) (by decide) rfl (XT.ii_ne_t cz1765) ?_
            exact J1680 d1677 trivial
      · intro J1678
        refine go_iload_n 185 (D at_184) rfl rfl ?_
        refine go_iconst 186 (v := 4) (D at_185) rfl rfl ?_
        refine go_icF 189 (D at_186) rfl (by decide) ?_
        refine go_aload 191 (D at_189) rfl rfl rfl ?_
        refine go_iconst 192 (v := 4) (D at_191) rfl rfl ?_
        have K1766 : Keep h1 h12 [a2, a1319] := ((Keep.refl h1 [a2, a1319]).wr W13 (Or.inl (by simp)))
        have K1767 : Keep h1 h20 [a2, a1319] := (K1766.wr W21 (Or.inl (by simp)))
        have K1768 : Keep h1 h28 [a2, a1319] := (K1767.wr W29 (Or.inl (by simp)))
        have K1769 : Keep h1 h36 [a2, a1319] := (K1768.wr W37 (Or.inl (by simp)))
        have K1770 : Keep h1 h44 [a2, a1319] := (K1769.wr W45 (Or.inl (by simp)))
        have K1771 : Keep h1 h1318 [a2, a1319] := (K1770.ext X1321)
        have K1772 : Keep h1 h1326 [a2, a1319] := (K1771.wr W1327 (Or.inl (by simp)))
        have K1773 : Keep h1 h1341 [a2, a1319] := (K1772.wr W1342 (Or.inl (by simp)))
        have K1774 : Keep h1 h1345 [a2, a1319] := (K1773.wr W1346 (Or.inl (by simp)))
        have K1775 : Keep h1 h1349 [a2, a1319] := (K1774.wr W1350 (Or.inl (by simp)))
        have K1776 : Keep h1 h1353 [a2, a1319] := (K1775.wr W1354 (Or.inl (by simp)))
        have A1777 := ((((A1352.other W1354 (Nat.ne_of_lt (Nat.lt_of_lt_of_le (Nat.lt_of_lt_of_le A5.lt K1339.1) (Nat.le_of_eq g1320)))).ext X1359).keep K1375 (ninS (Nat.ne_of_lt (Nat.lt_of_lt_of_le (Nat.lt_of_lt_of_le A5.lt K1776.1) (Nat.le_of_eq g1358))) nin0)).keep K1379 nin0)
        refine go_caload 193 (i := 4) (v := (.int r42)) A1777 (by decide) (by decide) rfl rfl (D at_192) rfl ?_
        refine go_bipush 195 (v := 46) (D at_193) rfl rfl ?_
        by_cases cz1778 : r42 = (46 : Int32)
        · refine go_icF 198 (D at_195) rfl (XT.ii_ne_f cz1778) ?_
          refine go_iconst 199 (v := 4) (D at_198) rfl rfl ?_
          refine go_istore 201 (ls' := #[vi x0, vi x1, vi x2, vi 5, vr a2, vr a1319, vr a1357, vr r1387, vi 4, un, un, un, un]) (D at_199) rfl rfl ?_
          exact J1678 (4 : Int32) trivial
        · refine go_icT 201 (D at_195) (by decide) rfl (XT.ii_ne_t cz1778) ?_
          exact J1678 (-1 : Int32) trivial
    · refine go_astore 181 (ls' := #[vi x0, vi x1, vi x2, vi 5, vr a2, vr a1319, vr a1357, vr r1392, un, un, un, un, un]) (D at_179) rfl rfl rfl ?_
      refine go_iconst 182 (v := (-1)) (D at_181) rfl rfl ?_
      refine go_istore 184 (ls' := #[vi x0, vi x1, vi x2, vi 5, vr a2, vr a1319, vr a1357, vr r1392, vi (-1 : Int32), un, un, un, un]) (D at_182) rfl rfl ?_
      refine go_cut (α := Int32) (P := fun q => True) (gf := fun q => mkF m_ 201 #[.val (.int x0), .val (.int x1), .val (.int x2), .val (.int 5), .val (.ref a2), .val (.ref a1319), .val (.ref a1357), .val (.ref r1392), .val (.int q), .unset, .unset, .unset, .unset] []) ?_ ?_
      · rintro d1779 -
        try dsimp only
        refine go_iload_n 202 (D at_201) rfl rfl ?_
        refine go_iconst 203 (v := 3) (D at_202) rfl rfl ?_
        refine go_icF 206 (D at_203) rfl (by decide) ?_
        refine go_aload 208 (D at_206) rfl rfl rfl ?_
        refine go_iconst 209 (v := 3) (D at_208) rfl rfl ?_
        have K1781 : Keep h1 h12 [a2, a1319] := ((Keep.refl h1 [a2, a1319]).wr W13 (Or.inl (by simp)))
        have K1782 : Keep h1 h20 [a2, a1319] := (K1781.wr W21 (Or.inl (by simp)))
        have K1783 : Keep h1 h28 [a2, a1319] := (K1782.wr W29 (Or.inl (by simp)))
        have K1784 : Keep h1 h36 [a2, a1319] := (K1783.wr W37 (Or.inl (by simp)))
        have K1785 : Keep h1 h44 [a2, a1319] := (K1784.wr W45 (Or.inl (by simp)))
        have K1786 : Keep h1 h1318 [a2, a1319] := (K1785.ext X1321)
        have K1787 : Keep h1 h1326 [a2, a1319] := (K1786.wr W1327 (Or.inl (by simp)))
        have K1788 : Keep h1 h1341 [a2, a1319] := (K1787.wr W1342 (Or.inl (by simp)))
        have K1789 : Keep h1 h1345 [a2, a1319] := (K1788.wr W1346 (Or.inl (by simp)))
        have K1790 : Keep h1 h1349 [a2, a1319] := (K1789.wr W1350 (Or.inl (by simp)))
        have K1791 : Keep h1 h1353 [a2, a1319] := (K1790.wr W1354 (Or.inl (by simp)))
        have A1792 := ((((A1352.other W1354 (Nat.ne_of_lt (Nat.lt_of_lt_of_le (Nat.lt_of_lt_of_le A5.lt K1339.1) (Nat.le_of_eq g1320)))).ext X1359).keep K1375 (ninS (Nat.ne_of_lt (Nat.lt_of_lt_of_le (Nat.lt_of_lt_of_le A5.lt K1791.1) (Nat.le_of_eq g1358))) nin0)).keep K1379 nin0)
        refine go_caload 210 (i := 3) (v := (.int r34)) A1792 (by decide) (by decide) rfl rfl (D at_209) rfl ?_
        refine go_bipush 212 (v := 46) (D at_210) rfl rfl ?_
        refine go_icF 215 (D at_212) rfl (XT.ii_ne_f f1396) ?_
        refine go_iconst 216 (v := 3) (D at_215) rfl rfl ?_
        refine go_istore 218 (ls' := #[vi x0, vi x1, vi x2, vi 5, vr a2, vr a1319, vr a1357, vr r1392, vi 3, un, un, un, un]) (D at_216) rfl rfl ?_
        refine go_iload_n 219 (D at_218) rfl rfl ?_
        refine go_iconst 220 (v := 2) (D at_219) rfl rfl ?_
        refine go_icF 223 (D at_220) rfl (by decide) ?_
        refine go_aload 225 (D at_223) rfl rfl rfl ?_
        refine go_iconst 226 (v := 2) (D at_225) rfl rfl ?_
        refine go_caload 227 (i := 2) (v := (.int r26)) A1792 (by decide) (by decide) rfl rfl (D at_226) rfl ?_
        refine go_bipush 229 (v := 46) (D at_227) rfl rfl ?_
        refine go_icT 235 (D at_229) (by decide) rfl (XT.ii_ne_t f1395) ?_
        refine go_iload_n 236 (D at_235) rfl rfl ?_
        refine go_iconst 237 (v := 1) (D at_236) rfl rfl ?_
        refine go_icF 240 (D at_237) rfl (by decide) ?_
        refine go_aload 242 (D at_240) rfl rfl rfl ?_
        refine go_iconst 243 (v := 1) (D at_242) rfl rfl ?_
        refine go_caload 244 (i := 1) (v := (.int r18)) A1792 (by decide) (by decide) rfl rfl (D at_243) rfl ?_
        refine go_bipush 246 (v := 46) (D at_244) rfl rfl ?_
        refine go_icT 252 (D at_246) (by decide) rfl (XT.ii_ne_t f1394) ?_
        refine go_iload_n 253 (D at_252) rfl rfl ?_
        refine go_ifF 256 (D at_253) rfl (by decide) ?_
        refine go_aload 258 (D at_256) rfl rfl rfl ?_
        refine go_iconst 259 (v := 0) (D at_258) rfl rfl ?_
        refine go_caload 260 (i := 0) (v := (.int r10)) A1792 (by decide) (by decide) rfl rfl (D at_259) rfl ?_
        refine go_bipush 262 (v := 46) (D at_260) rfl rfl ?_
        refine go_icT 268 (D at_262) (by decide) rfl (XT.ii_ne_t f1393) ?_
        refine go_iload 270 (D at_268) rfl rfl ?_
        refine go_iconst 271 (v := 1) (D at_270) rfl rfl ?_
        refine go_iadd 272 (z := (4 : Int32)) (D at_271) rfl (by decide) ?_
        refine go_istore 274 (ls' := #[vi x0, vi x1, vi x2, vi 5, vr a2, vr a1319, vr a1357, vr r1392, vi 3, vi 4, un, un, un]) (D at_272) rfl rfl ?_
        refine go_iload_n 275 (D at_274) rfl rfl ?_
        refine go_iload 277 (D at_275) rfl rfl ?_
        refine go_isub 278 (z := (1 : Int32)) (D at_277) rfl (by decide) ?_
        refine go_istore 280 (ls' := #[vi x0, vi x1, vi x2, vi 5, vr a2, vr a1319, vr a1357, vr r1392, vi 3, vi 4, vi 1, un, un]) (D at_278) rfl rfl ?_
        refine go_iload 282 (D at_280) rfl rfl ?_
        refine go_newP 284 (cells' := 7) (slots' := 28) (cap := 1) (vs := [(.int 0)]) (ty := .char) (dv := .int 0) (wk G 0 rfl) rfl rfl (D at_282) rfl (by decide) rfl (by decide) rfl rfl rfl (by decide) (by decide) (fun h1793 a1794 k1798 g1795 X1796 A1797 => ?_)
        refine go_astore 286 (ls' := #[vi x0, vi x1, vi x2, vi 5, vr a2, vr a1319, vr a1357, vr r1392, vi 3, vi 4, vi 1, vr a1794, un]) (D at_284) rfl rfl rfl ?_
        refine go_iload 288 (D at_286) rfl rfl ?_
        refine go_ifF 291 (D at_288) rfl (by decide) ?_
        refine go_aload 293 (D at_291) rfl rfl rfl ?_
        refine go_iconst 294 (v := 0) (D at_293) rfl rfl ?_
        refine go_aload 296 (D at_294) rfl rfl rfl ?_
        refine go_iload 298 (D at_296) rfl rfl ?_
        have K1799 : Keep h1378 h1793 [] := ((Keep.refl h1378 []).ext X1796)
        have A1800 := (A1792.keep K1799 nin0)
        refine go_caload 299 (i := 4) (v := (.int r42)) A1800 (by decide) (by decide) rfl rfl (D at_298) rfl ?_
        have K1804 : Keep h0 h1356 [] := (K1373.ext X1359)
        have K1805 : Keep h0 h1374 [] := (K1804.trans K1375 (allS (Or.inr (Nat.le_trans K1373.1 (Nat.le_of_eq g1358))) all0))
        have K1806 : Keep h0 h1378 [] := (K1805.trans K1379 all0)
        refine go_stC 300 (i := 0) (x' := r42) (vs' := [(.int r42)]) A1797 (Nat.le_trans O0.2.1 (Nat.le_trans K1806.1 (Nat.le_of_eq g1795))) (by decide) (by decide) rfl (nb rfl) (i2c_c8 f43) rfl (D at_299) rfl (fun h1801 W1802 A1803 => ?_)
        refine go_iload 302 (D at_300) rfl rfl ?_
        refine go_iconst 303 (v := 1) (D at_302) rfl rfl ?_
        refine go_icT 317 (D at_303) (by decide) rfl (by decide) ?_
        refine go_iload 319 (D at_317) rfl rfl ?_
        refine go_iconst 320 (v := 2) (D at_319) rfl rfl ?_
        refine go_icT 334 (D at_320) (by decide) rfl (by decide) ?_
        refine go_iload 336 (D at_334) rfl rfl ?_
        refine go_iconst 337 (v := 3) (D at_336) rfl rfl ?_
        refine go_icT 351 (D at_337) (by decide) rfl (by decide) ?_
        refine go_iload 353 (D at_351) rfl rfl ?_
        refine go_iconst 354 (v := 4) (D at_353) rfl rfl ?_
        refine go_icT 368 (D at_354) (by decide) rfl (by decide) ?_
        refine go_newO 371 (cells' := 8) (slots' := 32) (wk G 5 rfl) (wk G 6 rfl) (wk G 7 rfl) (D at_368) rfl rfl rfl (by decide) (by decide) (fun h1807 a1808 g1809 X1810 E1811 D1812 U1813 => ?_)
        refine go_dup 372 (D at_371) rfl rfl ?_
        refine go_aload 374 (D at_372) rfl rfl rfl ?_
        have F1814 := D1812 (Or.inr (wk G 20 rfl)) (ty := (.array .byte)) (by decide)
        have F1815 := D1812 (Or.inr (wk G 21 rfl)) (ty := .byte) (by decide)
        have K1816 : Keep h1801 h1807 [] := ((Keep.refl h1801 []).ext X1810)
        have A1817 := (A1803.keep K1816 nin0)
        refine go_old (fun O1818 => ?_)
        have K1819 : Keep h0 h1793 [] := (K1806.ext X1796)
        have K1820 : Keep h0 h1801 [] := (K1819.wr W1802 (Or.inr (Nat.le_trans K1806.1 (Nat.le_of_eq g1795))))
        refine callI0 (cells' := 9) (slots' := 33) (Wd := 1) (argsL := [(.ref a1794)]) (rest := [(.ref a1808)]) (pay_new G O1818 (cs := [r42]) (n := 1) (Nat.le_trans O0.2.1 (Nat.le_trans K1820.1 (Nat.le_of_eq g1809))) E1811 F1814 F1815 A1817 rfl rfl (by decide) (by decide) (c8c f43 c8n) (by decide) (by decide)) rfl (wk G 8 rfl) (wk G 9 rfl) (wk G 10 rfl) (by decide) pd4 rfl rfl (by rw [hml]; rfl) (nb rfl) rfl rfl (by decide) (by decide) (allS (Nat.le_trans O0.2.1 (Nat.le_trans K1820.1 (Nat.le_of_eq g1809))) all0) (fun _ hal => (sfS (safe_null hal E1811 F1814) sf0)) (D at_374) (k_n 377 rfl ?_)
        rintro h1821 S1823 K1822
        refine go_astore 379 (ls' := #[vi x0, vi x1, vi x2, vi 5, vr a2, vr a1319, vr a1357, vr r1392, vi 3, vi 4, vi 1, vr a1794, vr a1808]) (D at_377) rfl rfl rfl ?_
        refine go_aload 381 (D at_379) rfl rfl rfl ?_
        refine go_nullF 384 (D at_381) rfl ?_
        refine go_aload 386 (D at_384) rfl rfl rfl ?_
        refine go_aload 388 (D at_386) rfl rfl rfl ?_
        have K1824 : Keep h1378 h1801 [] := (K1799.wr W1802 (Or.inr (Nat.le_of_eq g1795)))
        have K1825 : Keep h1378 h1807 [] := (K1824.ext X1810)
        have K1826 : Keep h1378 h1821 [] := (K1825.trans K1822 (allS (Or.inr (Nat.le_trans K1824.1 (Nat.le_of_eq g1809))) all0))
        have S1827 := (f1397.keep K1826)
        refine go_old (fun O1828 => ?_)
        have E1829 := (f1397.exa.keep K1826)
        refine callV0 (cells' := 9) (slots' := 33) (Wd := 0) (argsL := [(.ref a1808)]) (rest := []) (pay_eq G O1828 S1827 S1823 (by decide) (by decide)) E1829 (wk G 88 rfl) (wk G 89 rfl) (wk G 91 rfl) (wk G 91 rfl) (wk G 90 rfl) (by decide) pd15 rfl rfl (by rw [hml]; rfl) (nb rfl) rfl rfl (by decide) (by decide) all0 (fun _ _ => sf0) (D at_388) (k_v 391 rfl ?_)
        rintro _ _ (⟨rfl, q1830, rfl⟩ | ⟨rfl, q1830, rfl⟩) -
        rotate_left 1
        · exact absurd rfl q1830
        refine go_ifF 394 (D at_391) rfl (by decide) ?_
        refine go_iconst 395 (v := 1) (D at_394) rfl rfl ?_
        refine go_goto 399 (D at_395) (by decide) rfl ?_
        have K1831 : Keep h0 h1807 [] := (K1820.ext X1810)
        have K1832 : Keep h0 h1821 [] := (K1831.trans K1822 (allS (Or.inr (Nat.le_trans K1820.1 (Nat.le_of_eq g1809))) all0))
        refine go_ireturn hret hlk rfl (by simp) (D at_399) (by decide) (by decide) ⟨_, rfl, rfl⟩ K1832
      · intro J1780
        refine go_iload_n 185 (D at_184) rfl rfl ?_
        refine go_iconst 186 (v := 4) (D at_185) rfl rfl ?_
        refine go_icF 189 (D at_186) rfl (by decide) ?_
        refine go_aload 191 (D at_189) rfl rfl rfl ?_
        refine go_iconst 192 (v := 4) (D at_191) rfl rfl ?_
        have K1833 : Keep h1 h12 [a2, a1319] := ((Keep.refl h1 [a2, a1319]).wr W13 (Or.inl (by simp)))
        have K1834 : Keep h1 h20 [a2, a1319] := (K1833.wr W21 (Or.inl (by simp)))
        have K1835 : Keep h1 h28 [a2, a1319] := (K1834.wr W29 (Or.inl (by simp)))
        have K1836 : Keep h1 h36 [a2, a1319] := (K1835.wr W37 (Or.inl (by simp)))
        have K1837 : Keep h1 h44 [a2, a1319] := (K1836.wr W45 (Or.inl (by simp)))
        have K1838 : Keep h1 h1318 [a2, a1319] := (K1837.ext X1321)
        have K1839 : Keep h1 h1326 [a2, a1319] := (K1838.wr W1327 (Or.inl (by simp)))
        have K1840 : Keep h1 h1341 [a2, a1319] := (K1839.wr W1342 (Or.inl (by simp)))
        have K1841 : Keep h1 h1345 [a2, a1319] := (K1840.wr W1346 (Or.inl (by simp)))
        have K1842 : Keep h1 h1349 [a2, a1319] := (K1841.wr W1350 (Or.inl (by simp)))
        have K1843 : Keep h1 h1353 [a2, a1319] := (K1842.wr W1354 (Or.inl (by simp)))
        have A1844 := ((((A1352.other W1354 (Nat.ne_of_lt (Nat.lt_of_lt_of_le (Nat.lt_of_lt_of_le A5.lt K1339.1) (Nat.le_of_eq g1320)))).ext X1359).keep K1375 (ninS (Nat.ne_of_lt (Nat.lt_of_lt_of_le (Nat.lt_of_lt_of_le A5.lt K1843.1) (Nat.le_of_eq g1358))) nin0)).keep K1379 nin0)
        refine go_caload 193 (i := 4) (v := (.int r42)) A1844 (by decide) (by decide) rfl rfl (D at_192) rfl ?_
        refine go_bipush 195 (v := 46) (D at_193) rfl rfl ?_
        by_cases cz1845 : r42 = (46 : Int32)
        · refine go_icF 198 (D at_195) rfl (XT.ii_ne_f cz1845) ?_
          refine go_iconst 199 (v := 4) (D at_198) rfl rfl ?_
          refine go_istore 201 (ls' := #[vi x0, vi x1, vi x2, vi 5, vr a2, vr a1319, vr a1357, vr r1392, vi 4, un, un, un, un]) (D at_199) rfl rfl ?_
          exact J1780 (4 : Int32) trivial
        · refine go_icT 201 (D at_195) (by decide) rfl (XT.ii_ne_t cz1845) ?_
          exact J1780 (-1 : Int32) trivial
    · refine go_astore 181 (ls' := #[vi x0, vi x1, vi x2, vi 5, vr a2, vr a1319, vr a1357, vr r1398, un, un, un, un, un]) (D at_179) rfl rfl rfl ?_
      refine go_iconst 182 (v := (-1)) (D at_181) rfl rfl ?_
      refine go_istore 184 (ls' := #[vi x0, vi x1, vi x2, vi 5, vr a2, vr a1319, vr a1357, vr r1398, vi (-1 : Int32), un, un, un, un]) (D at_182) rfl rfl ?_
      refine go_iload_n 185 (D at_184) rfl rfl ?_
      refine go_iconst 186 (v := 4) (D at_185) rfl rfl ?_
      refine go_icF 189 (D at_186) rfl (by decide) ?_
      refine go_aload 191 (D at_189) rfl rfl rfl ?_
      refine go_iconst 192 (v := 4) (D at_191) rfl rfl ?_
      have K1846 : Keep h1 h12 [a2, a1319] := ((Keep.refl h1 [a2, a1319]).wr W13 (Or.inl (by simp)))
      have K1847 : Keep h1 h20 [a2, a1319] := (K1846.wr W21 (Or.inl (by simp)))
      have K1848 : Keep h1 h28 [a2, a1319] := (K1847.wr W29 (Or.inl (by simp)))
      have K1849 : Keep h1 h36 [a2, a1319] := (K1848.wr W37 (Or.inl (by simp)))
      have K1850 : Keep h1 h44 [a2, a1319] := (K1849.wr W45 (Or.inl (by simp)))
      have K1851 : Keep h1 h1318 [a2, a1319] := (K1850.ext X1321)
      have K1852 : Keep h1 h1326 [a2, a1319] := (K1851.wr W1327 (Or.inl (by simp)))
      have K1853 : Keep h1 h1341 [a2, a1319] := (K1852.wr W1342 (Or.inl (by simp)))
      have K1854 : Keep h1 h1345 [a2, a1319] := (K1853.wr W1346 (Or.inl (by simp)))
      have K1855 : Keep h1 h1349 [a2, a1319] := (K1854.wr W1350 (Or.inl (by simp)))
      have K1856 : Keep h1 h1353 [a2, a1319] := (K1855.wr W1354 (Or.inl (by simp)))
      have A1857 := ((((A1352.other W1354 (Nat.ne_of_lt (Nat.lt_of_lt_of_le (Nat.lt_of_lt_of_le A5.lt K1339.1) (Nat.le_of_eq g1320)))).ext X1359).keep K1375 (ninS (Nat.ne_of_lt (Nat.lt_of_lt_of_le (Nat.lt_of_lt_of_le A5.lt K1856.1) (Nat.le_of_eq g1358))) nin0)).keep K1379 nin0)
      refine go_caload 193 (i := 4) (v := (.int r42)) A1857 (by decide) (by decide) rfl rfl (D at_192) rfl ?_
      refine go_bipush 195 (v := 46) (D at_193) rfl rfl ?_
      refine go_icF 198 (D at_195) rfl (XT.ii_ne_f f1403) ?_
      refine go_iconst 199 (v := 4) (D at_198) rfl rfl ?_
      refine go_istore 201 (ls' := #[vi x0, vi x1, vi x2, vi 5, vr a2, vr a1319, vr a1357, vr r1398, vi 4, un, un, un, un]) (D at_199) rfl rfl ?_
      refine go_iload_n 202 (D at_201) rfl rfl ?_
      refine go_iconst 203 (v := 3) (D at_202) rfl rfl ?_
      refine go_icF 206 (D at_203) rfl (by decide) ?_
      refine go_aload 208 (D at_206) rfl rfl rfl ?_
      refine go_iconst 209 (v := 3) (D at_208) rfl rfl ?_
      refine go_caload 210 (i := 3) (v := (.int r34)) A1857 (by decide) (by decide) rfl rfl (D at_209) rfl ?_
      refine go_bipush 212 (v := 46) (D at_210) rfl rfl ?_
      refine go_icT 218 (D at_212) (by decide) rfl (XT.ii_ne_t f1402) ?_
      refine go_iload_n 219 (D at_218) rfl rfl ?_
      refine go_iconst 220 (v := 2) (D at_219) rfl rfl ?_
      refine go_icF 223 (D at_220) rfl (by decide) ?_
      refine go_aload 225 (D at_223) rfl rfl rfl ?_
      refine go_iconst 226 (v := 2) (D at_225) rfl rfl ?_
      refine go_caload 227 (i := 2) (v := (.int r26)) A1857 (by decide) (by decide) rfl rfl (D at_226) rfl ?_
      refine go_bipush 229 (v := 46) (D at_227) rfl rfl ?_
      refine go_icT 235 (D at_229) (by decide) rfl (XT.ii_ne_t f1401) ?_
      refine go_iload_n 236 (D at_235) rfl rfl ?_
      refine go_iconst 237 (v := 1) (D at_236) rfl rfl ?_
      refine go_icF 240 (D at_237) rfl (by decide) ?_
      refine go_aload 242 (D at_240) rfl rfl rfl ?_
      refine go_iconst 243 (v := 1) (D at_242) rfl rfl ?_
      refine go_caload 244 (i := 1) (v := (.int r18)) A1857 (by decide) (by decide) rfl rfl (D at_243) rfl ?_
      refine go_bipush 246 (v := 46) (D at_244) rfl rfl ?_
      refine go_icT 252 (D at_246) (by decide) rfl (XT.ii_ne_t f1400) ?_
      refine go_iload_n 253 (D at_252) rfl rfl ?_
      refine go_ifF 256 (D at_253) rfl (by decide) ?_
      refine go_aload 258 (D at_256) rfl rfl rfl ?_
      refine go_iconst 259 (v := 0) (D at_258) rfl rfl ?_
      refine go_caload 260 (i := 0) (v := (.int r10)) A1857 (by decide) (by decide) rfl rfl (D at_259) rfl ?_
      refine go_bipush 262 (v := 46) (D at_260) rfl rfl ?_
      refine go_icT 268 (D at_262) (by decide) rfl (XT.ii_ne_t f1399) ?_
      refine go_iload 270 (D at_268) rfl rfl ?_
      refine go_iconst 271 (v := 1) (D at_270) rfl rfl ?_
      refine go_iadd 272 (z := (5 : Int32)) (D at_271) rfl (by decide) ?_
      refine go_istore 274 (ls' := #[vi x0, vi x1, vi x2, vi 5, vr a2, vr a1319, vr a1357, vr r1398, vi 4, vi 5, un, un, un]) (D at_272) rfl rfl ?_
      refine go_iload_n 275 (D at_274) rfl rfl ?_
      refine go_iload 277 (D at_275) rfl rfl ?_
      refine go_isub 278 (z := (0 : Int32)) (D at_277) rfl (by decide) ?_
      refine go_istore 280 (ls' := #[vi x0, vi x1, vi x2, vi 5, vr a2, vr a1319, vr a1357, vr r1398, vi 4, vi 5, vi 0, un, un]) (D at_278) rfl rfl ?_
      refine go_iload 282 (D at_280) rfl rfl ?_
      refine go_newP 284 (cells' := 7) (slots' := 27) (cap := 0) (vs := []) (ty := .char) (dv := .int 0) (wk G 0 rfl) rfl rfl (D at_282) rfl (by decide) rfl (by decide) rfl rfl rfl (by decide) (by decide) (fun h1858 a1859 k1863 g1860 X1861 A1862 => ?_)
      refine go_astore 286 (ls' := #[vi x0, vi x1, vi x2, vi 5, vr a2, vr a1319, vr a1357, vr r1398, vi 4, vi 5, vi 0, vr a1859, un]) (D at_284) rfl rfl rfl ?_
      refine go_iload 288 (D at_286) rfl rfl ?_
      refine go_ifT 300 (D at_288) (by decide) rfl (by decide) ?_
      refine go_iload 302 (D at_300) rfl rfl ?_
      refine go_iconst 303 (v := 1) (D at_302) rfl rfl ?_
      refine go_icT 317 (D at_303) (by decide) rfl (by decide) ?_
      refine go_iload 319 (D at_317) rfl rfl ?_
      refine go_iconst 320 (v := 2) (D at_319) rfl rfl ?_
      refine go_icT 334 (D at_320) (by decide) rfl (by decide) ?_
      refine go_iload 336 (D at_334) rfl rfl ?_
      refine go_iconst 337 (v := 3) (D at_336) rfl rfl ?_
      refine go_icT 351 (D at_337) (by decide) rfl (by decide) ?_
      refine go_iload 353 (D at_351) rfl rfl ?_
      refine go_iconst 354 (v := 4) (D at_353) rfl rfl ?_
      refine go_icT 368 (D at_354) (by decide) rfl (by decide) ?_
      refine go_newO 371 (cells' := 8) (slots' := 31) (wk G 5 rfl) (wk G 6 rfl) (wk G 7 rfl) (D at_368) rfl rfl rfl (by decide) (by decide) (fun h1864 a1865 g1866 X1867 E1868 D1869 U1870 => ?_)
      refine go_dup 372 (D at_371) rfl rfl ?_
      refine go_aload 374 (D at_372) rfl rfl rfl ?_
      have K1871 : Keep h0 h1356 [] := (K1373.ext X1359)
      have K1872 : Keep h0 h1374 [] := (K1871.trans K1375 (allS (Or.inr (Nat.le_trans K1373.1 (Nat.le_of_eq g1358))) all0))
      have K1873 : Keep h0 h1378 [] := (K1872.trans K1379 all0)
      have K1874 : Keep h0 h1858 [] := (K1873.ext X1861)
      have F1875 := D1869 (Or.inr (wk G 20 rfl)) (ty := (.array .byte)) (by decide)
      have F1876 := D1869 (Or.inr (wk G 21 rfl)) (ty := .byte) (by decide)
      have K1877 : Keep h1858 h1864 [] := ((Keep.refl h1858 []).ext X1867)
      have A1878 := (A1862.keep K1877 nin0)
      refine go_old (fun O1879 => ?_)
      refine callIW0 rfl (cells' := 12) (slots' := 39) (Wd := 1) (argsL := [(.ref a1859)]) (rest := [(.ref a1865)]) (payW_of (a0 := a0) (c_new0 l G a1865 a1859 k1863 h1864 O1879 E1868 (Nat.le_trans O0.2.1 (Nat.le_trans K1874.1 (Nat.le_of_eq g1866))) F1875 F1876 A1878) (wk G 10 rfl) (wk G 7 rfl) (by decide) (by decide) (ew1 G)) rfl (wk G 8 rfl) (wk G 9 rfl) (wk G 10 rfl) (by decide) pd4 rfl rfl (by rw [hml]; rfl) (nb rfl) rfl rfl (by decide) (by decide) (allS (Nat.le_trans O0.2.1 (Nat.le_trans K1874.1 (Nat.le_of_eq g1866))) all0) (D at_374) (k_n 377 rfl ?_)
      rintro  h1880 f1882 K1881
      refine go_astore 379 (ls' := #[vi x0, vi x1, vi x2, vi 5, vr a2, vr a1319, vr a1357, vr r1398, vi 4, vi 5, vi 0, vr a1859, vr a1865]) (D at_377) rfl rfl rfl ?_
      refine go_aload 381 (D at_379) rfl rfl rfl ?_
      refine go_nullF 384 (D at_381) rfl ?_
      refine go_aload 386 (D at_384) rfl rfl rfl ?_
      refine go_aload 388 (D at_386) rfl rfl rfl ?_
      have K1883 : Keep h1378 h1858 [] := ((Keep.refl h1378 []).ext X1861)
      have K1884 : Keep h1378 h1864 [] := (K1883.ext X1867)
      have K1885 : Keep h1378 h1880 [] := (K1884.trans K1881 (allS (Or.inr (Nat.le_trans K1883.1 (Nat.le_of_eq g1866))) all0))
      have S1886 := (f1404.keep K1885)
      refine go_old (fun O1887 => ?_)
      have E1888 := (f1404.exa.keep K1885)
      refine callV0 (cells' := 12) (slots' := 39) (Wd := 0) (argsL := [(.ref a1865)]) (rest := []) (pay_eq G O1887 S1886 f1882 (by decide) (by decide)) E1888 (wk G 88 rfl) (wk G 89 rfl) (wk G 91 rfl) (wk G 91 rfl) (wk G 90 rfl) (by decide) pd15 rfl rfl (by rw [hml]; rfl) (nb rfl) rfl rfl (by decide) (by decide) all0 (fun _ _ => sf0) (D at_388) (k_v 391 rfl ?_)
      rintro _ _ (⟨rfl, q1889, rfl⟩ | ⟨rfl, q1889, rfl⟩) -
      rotate_left 1
      · exact absurd rfl q1889
      refine go_ifF 394 (D at_391) rfl (by decide) ?_
      refine go_iconst 395 (v := 1) (D at_394) rfl rfl ?_
      refine go_goto 399 (D at_395) (by decide) rfl ?_
      have K1890 : Keep h0 h1864 [] := (K1874.ext X1867)
      have K1891 : Keep h0 h1880 [] := (K1890.trans K1881 (allS (Or.inr (Nat.le_trans K1874.1 (Nat.le_of_eq g1866))) all0))
      refine go_ireturn hret hlk rfl (by simp) (D at_399) (by decide) (by decide) ⟨_, rfl, rfl⟩ K1891
    · refine go_astore 181 (ls' := #[vi x0, vi x1, vi x2, vi 5, vr a2, vr a1319, vr a1357, vr a1357, un, un, un, un, un]) (D at_179) rfl rfl rfl ?_
      refine go_iconst 182 (v := (-1)) (D at_181) rfl rfl ?_
      refine go_istore 184 (ls' := #[vi x0, vi x1, vi x2, vi 5, vr a2, vr a1319, vr a1357, vr a1357, vi (-1 : Int32), un, un, un, un]) (D at_182) rfl rfl ?_
      refine go_iload_n 185 (D at_184) rfl rfl ?_
      refine go_iconst 186 (v := 4) (D at_185) rfl rfl ?_
      refine go_icF 189 (D at_186) rfl (by decide) ?_
      refine go_aload 191 (D at_189) rfl rfl rfl ?_
      refine go_iconst 192 (v := 4) (D at_191) rfl rfl ?_
      have K1892 : Keep h1 h12 [a2, a1319] := ((Keep.refl h1 [a2, a1319]).wr W13 (Or.inl (by simp)))
      have K1893 : Keep h1 h20 [a2, a1319] := (K1892.wr W21 (Or.inl (by simp)))
      have K1894 : Keep h1 h28 [a2, a1319] := (K1893.wr W29 (Or.inl (by simp)))
      have K1895 : Keep h1 h36 [a2, a1319] := (K1894.wr W37 (Or.inl (by simp)))
      have K1896 : Keep h1 h44 [a2, a1319] := (K1895.wr W45 (Or.inl (by simp)))
      have K1897 : Keep h1 h1318 [a2, a1319] := (K1896.ext X1321)
      have K1898 : Keep h1 h1326 [a2, a1319] := (K1897.wr W1327 (Or.inl (by simp)))
      have K1899 : Keep h1 h1341 [a2, a1319] := (K1898.wr W1342 (Or.inl (by simp)))
      have K1900 : Keep h1 h1345 [a2, a1319] := (K1899.wr W1346 (Or.inl (by simp)))
      have K1901 : Keep h1 h1349 [a2, a1319] := (K1900.wr W1350 (Or.inl (by simp)))
      have K1902 : Keep h1 h1353 [a2, a1319] := (K1901.wr W1354 (Or.inl (by simp)))
      have A1903 := ((((A1352.other W1354 (Nat.ne_of_lt (Nat.lt_of_lt_of_le (Nat.lt_of_lt_of_le A5.lt K1339.1) (Nat.le_of_eq g1320)))).ext X1359).keep K1375 (ninS (Nat.ne_of_lt (Nat.lt_of_lt_of_le (Nat.lt_of_lt_of_le A5.lt K1902.1) (Nat.le_of_eq g1358))) nin0)).keep K1379 nin0)
      refine go_caload 193 (i := 4) (v := (.int r42)) A1903 (by decide) (by decide) rfl rfl (D at_192) rfl ?_
      refine go_bipush 195 (v := 46) (D at_193) rfl rfl ?_
      refine go_icT 201 (D at_195) (by decide) rfl (XT.ii_ne_t f1409) ?_
      refine go_iload_n 202 (D at_201) rfl rfl ?_
      refine go_iconst 203 (v := 3) (D at_202) rfl rfl ?_
      refine go_icF 206 (D at_203) rfl (by decide) ?_
      refine go_aload 208 (D at_206) rfl rfl rfl ?_
      refine go_iconst 209 (v := 3) (D at_208) rfl rfl ?_
      refine go_caload 210 (i := 3) (v := (.int r34)) A1903 (by decide) (by decide) rfl rfl (D at_209) rfl ?_
      refine go_bipush 212 (v := 46) (D at_210) rfl rfl ?_
      refine go_icT 218 (D at_212) (by decide) rfl (XT.ii_ne_t f1408) ?_
      refine go_iload_n 219 (D at_218) rfl rfl ?_
      refine go_iconst 220 (v := 2) (D at_219) rfl rfl ?_
      refine go_icF 223 (D at_220) rfl (by decide) ?_
      refine go_aload 225 (D at_223) rfl rfl rfl ?_
      refine go_iconst 226 (v := 2) (D at_225) rfl rfl ?_
      refine go_caload 227 (i := 2) (v := (.int r26)) A1903 (by decide) (by decide) rfl rfl (D at_226) rfl ?_
      refine go_bipush 229 (v := 46) (D at_227) rfl rfl ?_
      refine go_icT 235 (D at_229) (by decide) rfl (XT.ii_ne_t f1407) ?_
      refine go_iload_n 236 (D at_235) rfl rfl ?_
      refine go_iconst 237 (v := 1) (D at_236) rfl rfl ?_
      refine go_icF 240 (D at_237) rfl (by decide) ?_
      refine go_aload 242 (D at_240) rfl rfl rfl ?_
      refine go_iconst 243 (v := 1) (D at_242) rfl rfl ?_
      refine go_caload 244 (i := 1) (v := (.int r18)) A1903 (by decide) (by decide) rfl rfl (D at_243) rfl ?_
      refine go_bipush 246 (v := 46) (D at_244) rfl rfl ?_
      refine go_icT 252 (D at_246) (by decide) rfl (XT.ii_ne_t f1406) ?_
      refine go_iload_n 253 (D at_252) rfl rfl ?_
      refine go_ifF 256 (D at_253) rfl (by decide) ?_
      refine go_aload 258 (D at_256) rfl rfl rfl ?_
      refine go_iconst 259 (v := 0) (D at_258) rfl rfl ?_
      refine go_caload 260 (i := 0) (v := (.int r10)) A1903 (by decide) (by decide) rfl rfl (D at_259) rfl ?_
      refine go_bipush 262 (v := 46) (D at_260) rfl rfl ?_
      refine go_icT 268 (D at_262) (by decide) rfl (XT.ii_ne_t f1405) ?_
      refine go_iload 270 (D at_268) rfl rfl ?_
      refine go_iconst 271 (v := 1) (D at_270) rfl rfl ?_
      refine go_iadd 272 (z := (0 : Int32)) (D at_271) rfl (by decide) ?_
      refine go_istore 274 (ls' := #[vi x0, vi x1, vi x2, vi 5, vr a2, vr a1319, vr a1357, vr a1357, vi (-1 : Int32), vi 0, un, un, un]) (D at_272) rfl rfl ?_
      refine go_iload_n 275 (D at_274) rfl rfl ?_
      refine go_iload 277 (D at_275) rfl rfl ?_
      refine go_isub 278 (z := (5 : Int32)) (D at_277) rfl (by decide) ?_
      refine go_istore 280 (ls' := #[vi x0, vi x1, vi x2, vi 5, vr a2, vr a1319, vr a1357, vr a1357, vi (-1 : Int32), vi 0, vi 5, un, un]) (D at_278) rfl rfl ?_
      refine go_iload 282 (D at_280) rfl rfl ?_
      refine go_newP 284 (cells' := 7) (slots' := 32) (cap := 5) (vs := [(.int 0), (.int 0), (.int 0), (.int 0), (.int 0)]) (ty := .char) (dv := .int 0) (wk G 0 rfl) rfl rfl (D at_282) rfl (by decide) rfl (by decide) rfl rfl rfl (by decide) (by decide) (fun h1904 a1905 k1909 g1906 X1907 A1908 => ?_)
      refine go_astore 286 (ls' := #[vi x0, vi x1, vi x2, vi 5, vr a2, vr a1319, vr a1357, vr a1357, vi (-1 : Int32), vi 0, vi 5, vr a1905, un]) (D at_284) rfl rfl rfl ?_
      refine go_iload 288 (D at_286) rfl rfl ?_
      refine go_ifF 291 (D at_288) rfl (by decide) ?_
      refine go_aload 293 (D at_291) rfl rfl rfl ?_
      refine go_iconst 294 (v := 0) (D at_293) rfl rfl ?_
      refine go_aload 296 (D at_294) rfl rfl rfl ?_
      refine go_iload 298 (D at_296) rfl rfl ?_
      have K1910 : Keep h1378 h1904 [] := ((Keep.refl h1378 []).ext X1907)
      have A1911 := (A1903.keep K1910 nin0)
      refine go_caload 299 (i := 0) (v := (.int r10)) A1911 (by decide) (by decide) rfl rfl (D at_298) rfl ?_
      have K1915 : Keep h0 h1356 [] := (K1373.ext X1359)
      have K1916 : Keep h0 h1374 [] := (K1915.trans K1375 (allS (Or.inr (Nat.le_trans K1373.1 (Nat.le_of_eq g1358))) all0))
      have K1917 : Keep h0 h1378 [] := (K1916.trans K1379 all0)
      refine go_stC 300 (i := 0) (x' := r10) (vs' := [(.int r10), (.int 0), (.int 0), (.int 0), (.int 0)]) A1908 (Nat.le_trans O0.2.1 (Nat.le_trans K1917.1 (Nat.le_of_eq g1906))) (by decide) (by decide) rfl (nb rfl) (i2c_c8 f11) rfl (D at_299) rfl (fun h1912 W1913 A1914 => ?_)
      refine go_iload 302 (D at_300) rfl rfl ?_
      refine go_iconst 303 (v := 1) (D at_302) rfl rfl ?_
      refine go_icF 306 (D at_303) rfl (by decide) ?_
      refine go_aload 308 (D at_306) rfl rfl rfl ?_
      refine go_iconst 309 (v := 1) (D at_308) rfl rfl ?_
      refine go_aload 311 (D at_309) rfl rfl rfl ?_
      refine go_iload 313 (D at_311) rfl rfl ?_
      refine go_iconst 314 (v := 1) (D at_313) rfl rfl ?_
      refine go_iadd 315 (z := (1 : Int32)) (D at_314) rfl (by decide) ?_
      have K1918 : Keep h1 h12 [a2, a1319, a1357] := ((Keep.refl h1 [a2, a1319, a1357]).wr W13 (Or.inl (by simp)))
      have K1919 : Keep h1 h20 [a2, a1319, a1357] := (K1918.wr W21 (Or.inl (by simp)))
      have K1920 : Keep h1 h28 [a2, a1319, a1357] := (K1919.wr W29 (Or.inl (by simp)))
      have K1921 : Keep h1 h36 [a2, a1319, a1357] := (K1920.wr W37 (Or.inl (by simp)))
      have K1922 : Keep h1 h44 [a2, a1319, a1357] := (K1921.wr W45 (Or.inl (by simp)))
      have K1923 : Keep h1 h1318 [a2, a1319, a1357] := (K1922.ext X1321)
      have K1924 : Keep h1 h1326 [a2, a1319, a1357] := (K1923.wr W1327 (Or.inl (by simp)))
      have K1925 : Keep h1 h1341 [a2, a1319, a1357] := (K1924.wr W1342 (Or.inl (by simp)))
      have K1926 : Keep h1 h1345 [a2, a1319, a1357] := (K1925.wr W1346 (Or.inl (by simp)))
      have K1927 : Keep h1 h1349 [a2, a1319, a1357] := (K1926.wr W1350 (Or.inl (by simp)))
      have K1928 : Keep h1 h1353 [a2, a1319, a1357] := (K1927.wr W1354 (Or.inl (by simp)))
      have K1929 : Keep h1 h1356 [a2, a1319, a1357] := (K1928.ext X1359)
      have K1930 : Keep h1 h1374 [a2, a1319, a1357] := (K1929.trans K1375 (allS (Or.inl (by simp)) all0))
      have K1931 : Keep h1 h1378 [a2, a1319, a1357] := (K1930.trans K1379 all0)
      have A1932 := (A1911.other W1913 (Nat.ne_of_lt (Nat.lt_of_lt_of_le (Nat.lt_of_lt_of_le A5.lt K1931.1) (Nat.le_of_eq g1906))))
      refine go_caload 316 (i := 1) (v := (.int r18)) A1932 (by decide) (by decide) rfl rfl (D at_315) rfl ?_
      refine go_stC 317 (i := 1) (x' := r18) (vs' := [(.int r10), (.int r18), (.int 0), (.int 0), (.int 0)]) A1914 (Nat.le_trans O0.2.1 (Nat.le_trans K1917.1 (Nat.le_of_eq g1906))) (by decide) (by decide) rfl (nb rfl) (i2c_c8 f19) rfl (D at_316) rfl (fun h1933 W1934 A1935 => ?_)
      refine go_iload 319 (D at_317) rfl rfl ?_
      refine go_iconst 320 (v := 2) (D at_319) rfl rfl ?_
      refine go_icF 323 (D at_320) rfl (by decide) ?_
      refine go_aload 325 (D at_323) rfl rfl rfl ?_
      refine go_iconst 326 (v := 2) (D at_325) rfl rfl ?_
      refine go_aload 328 (D at_326) rfl rfl rfl ?_
      refine go_iload 330 (D at_328) rfl rfl ?_
      refine go_iconst 331 (v := 2) (D at_330) rfl rfl ?_
      refine go_iadd 332 (z := (2 : Int32)) (D at_331) rfl (by decide) ?_
      have A1936 := (A1932.other W1934 (Nat.ne_of_lt (Nat.lt_of_lt_of_le (Nat.lt_of_lt_of_le A5.lt K1931.1) (Nat.le_of_eq g1906))))
      refine go_caload 333 (i := 2) (v := (.int r26)) A1936 (by decide) (by decide) rfl rfl (D at_332) rfl ?_
      refine go_stC 334 (i := 2) (x' := r26) (vs' := [(.int r10), (.int r18), (.int r26), (.int 0), (.int 0)]) A1935 (Nat.le_trans O0.2.1 (Nat.le_trans K1917.1 (Nat.le_of_eq g1906))) (by decide) (by decide) rfl (nb rfl) (i2c_c8 f27) rfl (D at_333) rfl (fun h1937 W1938 A1939 => ?_)
      refine go_iload 336 (D at_334) rfl rfl ?_
      refine go_iconst 337 (v := 3) (D at_336) rfl rfl ?_
      refine go_icF 340 (D at_337) rfl (by decide) ?_
      refine go_aload 342 (D at_340) rfl rfl rfl ?_
      refine go_iconst 343 (v := 3) (D at_342) rfl rfl ?_
      refine go_aload 345 (D at_343) rfl rfl rfl ?_
      refine go_iload 347 (D at_345) rfl rfl ?_
      refine go_iconst 348 (v := 3) (D at_347) rfl rfl ?_
      refine go_iadd 349 (z := (3 : Int32)) (D at_348) rfl (by decide) ?_
      have A1940 := (A1936.other W1938 (Nat.ne_of_lt (Nat.lt_of_lt_of_le (Nat.lt_of_lt_of_le A5.lt K1931.1) (Nat.le_of_eq g1906))))
      refine go_caload 350 (i := 3) (v := (.int r34)) A1940 (by decide) (by decide) rfl rfl (D at_349) rfl ?_
      refine go_stC 351 (i := 3) (x' := r34) (vs' := [(.int r10), (.int r18), (.int r26), (.int r34), (.int 0)]) A1939 (Nat.le_trans O0.2.1 (Nat.le_trans K1917.1 (Nat.le_of_eq g1906))) (by decide) (by decide) rfl (nb rfl) (i2c_c8 f35) rfl (D at_350) rfl (fun h1941 W1942 A1943 => ?_)
      refine go_iload 353 (D at_351) rfl rfl ?_
      refine go_iconst 354 (v := 4) (D at_353) rfl rfl ?_
      refine go_icF 357 (D at_354) rfl (by decide) ?_
      refine go_aload 359 (D at_357) rfl rfl rfl ?_
      refine go_iconst 360 (v := 4) (D at_359) rfl rfl ?_
      refine go_aload 362 (D at_360) rfl rfl rfl ?_
      refine go_iload 364 (D at_362) rfl rfl ?_
      refine go_iconst 365 (v := 4) (D at_364) rfl rfl ?_
      refine go_iadd 366 (z := (4 : Int32)) (D at_365) rfl (by decide) ?_
      have A1944 := (A1940.other W1942 (Nat.ne_of_lt (Nat.lt_of_lt_of_le (Nat.lt_of_lt_of_le A5.lt K1931.1) (Nat.le_of_eq g1906))))
      refine go_caload 367 (i := 4) (v := (.int r42)) A1944 (by decide) (by decide) rfl rfl (D at_366) rfl ?_
      refine go_stC 368 (i := 4) (x' := r42) (vs' := [(.int r10), (.int r18), (.int r26), (.int r34), (.int r42)]) A1943 (Nat.le_trans O0.2.1 (Nat.le_trans K1917.1 (Nat.le_of_eq g1906))) (by decide) (by decide) rfl (nb rfl) (i2c_c8 f43) rfl (D at_367) rfl (fun h1945 W1946 A1947 => ?_)
      refine go_newO 371 (cells' := 8) (slots' := 36) (wk G 5 rfl) (wk G 6 rfl) (wk G 7 rfl) (D at_368) rfl rfl rfl (by decide) (by decide) (fun h1948 a1949 g1950 X1951 E1952 D1953 U1954 => ?_)
      refine go_dup 372 (D at_371) rfl rfl ?_
      refine go_aload 374 (D at_372) rfl rfl rfl ?_
      have F1955 := D1953 (Or.inr (wk G 20 rfl)) (ty := (.array .byte)) (by decide)
      have F1956 := D1953 (Or.inr (wk G 21 rfl)) (ty := .byte) (by decide)
      have K1957 : Keep h1945 h1948 [] := ((Keep.refl h1945 []).ext X1951)
      have A1958 := (A1947.keep K1957 nin0)
      refine go_old (fun O1959 => ?_)
      have K1960 : Keep h0 h1904 [] := (K1917.ext X1907)
      have K1961 : Keep h0 h1912 [] := (K1960.wr W1913 (Or.inr (Nat.le_trans K1917.1 (Nat.le_of_eq g1906))))
      have K1962 : Keep h0 h1933 [] := (K1961.wr W1934 (Or.inr (Nat.le_trans K1917.1 (Nat.le_of_eq g1906))))
      have K1963 : Keep h0 h1937 [] := (K1962.wr W1938 (Or.inr (Nat.le_trans K1917.1 (Nat.le_of_eq g1906))))
      have K1964 : Keep h0 h1941 [] := (K1963.wr W1942 (Or.inr (Nat.le_trans K1917.1 (Nat.le_of_eq g1906))))
      have K1965 : Keep h0 h1945 [] := (K1964.wr W1946 (Or.inr (Nat.le_trans K1917.1 (Nat.le_of_eq g1906))))
      refine callI0 (cells' := 9) (slots' := 41) (Wd := 1) (argsL := [(.ref a1905)]) (rest := [(.ref a1949)]) (pay_new G O1959 (cs := [r10, r18, r26, r34, r42]) (n := 5) (Nat.le_trans O0.2.1 (Nat.le_trans K1965.1 (Nat.le_of_eq g1950))) E1952 F1955 F1956 A1958 rfl rfl (by decide) (by decide) (c8c f11 (c8c f19 (c8c f27 (c8c f35 (c8c f43 c8n))))) (by decide) (by decide)) rfl (wk G 8 rfl) (wk G 9 rfl) (wk G 10 rfl) (by decide) pd4 rfl rfl (by rw [hml]; rfl) (nb rfl) rfl rfl (by decide) (by decide) (allS (Nat.le_trans O0.2.1 (Nat.le_trans K1965.1 (Nat.le_of_eq g1950))) all0) (fun _ hal => (sfS (safe_null hal E1952 F1955) sf0)) (D at_374) (k_n 377 rfl ?_)
      rintro h1966 S1968 K1967
      refine go_astore 379 (ls' := #[vi x0, vi x1, vi x2, vi 5, vr a2, vr a1319, vr a1357, vr a1357, vi (-1 : Int32), vi 0, vi 5, vr a1905, vr a1949]) (D at_377) rfl rfl rfl ?_
      refine go_aload 381 (D at_379) rfl rfl rfl ?_
      refine go_nullF 384 (D at_381) rfl ?_
      refine go_aload 386 (D at_384) rfl rfl rfl ?_
      refine go_aload 388 (D at_386) rfl rfl rfl ?_
      have K1969 : Keep h1374 h1378 [] := ((Keep.refl h1374 []).trans K1379 all0)
      have K1970 : Keep h1374 h1904 [] := (K1969.ext X1907)
      have K1971 : Keep h1374 h1912 [] := (K1970.wr W1913 (Or.inr (Nat.le_trans K1969.1 (Nat.le_of_eq g1906))))
      have K1972 : Keep h1374 h1933 [] := (K1971.wr W1934 (Or.inr (Nat.le_trans K1969.1 (Nat.le_of_eq g1906))))
      have K1973 : Keep h1374 h1937 [] := (K1972.wr W1938 (Or.inr (Nat.le_trans K1969.1 (Nat.le_of_eq g1906))))
      have K1974 : Keep h1374 h1941 [] := (K1973.wr W1942 (Or.inr (Nat.le_trans K1969.1 (Nat.le_of_eq g1906))))
      have K1975 : Keep h1374 h1945 [] := (K1974.wr W1946 (Or.inr (Nat.le_trans K1969.1 (Nat.le_of_eq g1906))))
      have K1976 : Keep h1374 h1948 [] := (K1975.ext X1951)
      have K1977 : Keep h1374 h1966 [] := (K1976.trans K1967 (allS (Or.inr (Nat.le_trans K1975.1 (Nat.le_of_eq g1950))) all0))
      have S1978 := (S1376.keep K1977)
      refine go_old (fun O1979 => ?_)
      have E1980 := ((((((((((E1360.keep K1375).keep K1379).ext X1907).wr W1913).wr W1934).wr W1938).wr W1942).wr W1946).ext X1951).keep K1967)
      refine callV0 (cells' := 9) (slots' := 41) (Wd := 0) (argsL := [(.ref a1949)]) (rest := []) (pay_eq G O1979 S1978 S1968 (by decide) (by decide)) E1980 (wk G 88 rfl) (wk G 89 rfl) (wk G 91 rfl) (wk G 91 rfl) (wk G 90 rfl) (by decide) pd15 rfl rfl (by rw [hml]; rfl) (nb rfl) rfl rfl (by decide) (by decide) all0 (fun _ _ => sf0) (D at_388) (k_v 391 rfl ?_)
      rintro _ _ (⟨rfl, q1981, rfl⟩ | ⟨rfl, q1981, rfl⟩) -
      rotate_left 1
      · exact absurd rfl q1981
      refine go_ifF 394 (D at_391) rfl (by decide) ?_
      refine go_iconst 395 (v := 1) (D at_394) rfl rfl ?_
      refine go_goto 399 (D at_395) (by decide) rfl ?_
      have K1982 : Keep h0 h1948 [] := (K1965.ext X1951)
      have K1983 : Keep h0 h1966 [] := (K1982.trans K1967 (allS (Or.inr (Nat.le_trans K1965.1 (Nat.le_of_eq g1950))) all0))
      refine go_ireturn hret hlk rfl (by simp) (D at_399) (by decide) (by decide) ⟨_, rfl, rfl⟩ K1983
set_option maxRecDepth 65536 in
set_option maxHeartbeats 40000000 in
theorem comes_1 {Post : Tables → Env → Array Value → State → Outcome → State → Prop} (hpost : ∀ tb e args s v u, (limb_1_1.after args s (.returned v) u = true ∧ limb_1_2.after args s (.returned v) u = true ∧ True) → ReturnedEndW s (.returned v) u (Jvm.fieldLocs frame_1_writes args s ++ Jvm.arrayLocs frame_1_arrays args s ++ Jvm.staticLocs frame_1_statics s) 32 2240 → Post tb e args s (.returned v) u) :
    ArmFor flags0 classFile x code maxLocals ret World_1 tables_1 room_1 Calls_1 rest_1 Pre_1 Post := by
  intro l hfl _ _ p e ha hc hk s m args below hf hA hF happ hP
  obtain ⟨hcalls, hrest, hpre⟩ := hP
  obtain ⟨-, -, -, hnamed, -, -, -, hat⟩ := (Spec.applies_iff hf).mp happ
  obtain ⟨hg, hn⟩ := and_e (Cond.before_iff.mp (show (Jvm.Cond.and given_1 narrow_1).before args s = true from hpre))
  obtain ⟨h1, h2⟩ := and_e hg
  obtain ⟨w0, w1, w2, rfl⟩ : ∃ w0 w1 w2 : Value, args = #[w0, w1, w2] := by
    have hs : args.size = 3 := by simpa [Cond.value, given_1] using h1
    obtain ⟨L⟩ := args
    match L, hs with
    | [w0, w1, w2], _ => exact ⟨w0, w1, w2, rfl⟩
  have hw := fun d (hd : d ∈ tables_1) => atoms_spec (ws := Jvm.Cond.code x code maxLocals ret :: tables_1) hat d (List.mem_cons_of_mem _ hd)
  obtain ⟨hsets, hown0⟩ := atoms_of _ (rest_1_c_eq ▸ (show rest_1_c.before _ s = true from hrest))
  have hfit : Fit s := fun {y c} hc i hi => by
    obtain ⟨ha, rfl⟩ := Array.getElem?_eq_some_iff.mp hc
    have q := List.all_eq_true.mp ((Array.all_eq_true_iff_forall_mem.mp hF) _ (Array.getElem_mem ha)) i (List.mem_range.mpr hi)
    simpa [Array.getElem?_eq_getElem hi] using q
  obtain ⟨q0, h2⟩ := and_e h2
  obtain ⟨i0, e0⟩ := is_v q0
  obtain rfl : w0 = (.int i0) := Option.some.inj e0
  obtain ⟨q1, h2⟩ := and_e h2
  obtain ⟨i1, e1⟩ := is_v q1
  obtain rfl : w1 = (.int i1) := Option.some.inj e1
  have q2 := h2
  obtain ⟨i2, e2⟩ := is_v q2
  obtain rfl : w2 = (.int i2) := Option.some.inj e2
  have hew : EW s #[(.int i0), (.int i1), (.int i2)] EL1 := (EW.cons (hw _ (List.mem_of_getElem? (i := 18) rfl)) (by decide) (EW.cons (hw _ (List.mem_of_getElem? (i := 132) rfl)) (by decide) EW.nil))
  have G : GH s #[(.int i0), (.int i1), (.int i2)] := ⟨hw, hsets, hew, hn, hfit⟩
  obtain ⟨n, o, h1, h2, h3, v, L, rfl, ⟨⟨_, rfl, hv⟩, N, -⟩, hC, -⟩ := c_law l G i0 i1 i2 s.heap (Old.start s) p e ha hc hk s m _ below hf ((Spec.applies_iff_loose hf).mp happ).1 ⟨rfl, State.Warmed39.refl s, rfl, (fun _ => CHv.start (a0 := _) hew (fun q hq => held_of (hcalls.1 q hq)) (hsets _ (List.mem_of_getElem? (i := 2) rfl)) (hw _ (List.mem_of_getElem? (i := 19) rfl)) (hw _ (List.mem_of_getElem? (i := 6) rfl)))⟩ trivial
  subst hv
  have hq := (hC rfl).2
  refine ⟨n, _, h1, h2, h3, hpost _ _ _ _ _ _ ⟨Cond.after_iff.mpr rfl, Cond.after_iff.mpr (eq_i res_at (Term.int_eval (1)) rfl), trivial⟩ ⟨hq.1, hq.2.1, hq.2.2.1, (hq.2.2.2.sift fun y hy => Or.inr (N y hy)).mono (by decide) (by decide)⟩⟩
theorem main_1_1 : Claimed_1_1 := comes_1 fun _ _ _ _ _ _ h hF => ⟨h.1, hF⟩
theorem main_1_2 : Claimed_1_2 := comes_1 fun _ _ _ _ _ _ h hF => ⟨h.2.1, hF⟩
end Jvm.Pilot.@@N@@
namespace Jvm.Pilot.@@N@@
open Jvm Jvm.ClassFile Sem Op Lib Jvm.Free Jvm.Stand Jvm.Pilot.@@N@@.Jvm.D
/-! MADE BY PROGRAM (witnessworld.py) out of the Statement's table words and the real class files: 23 classes; the members and pool entries that the words name. The judged class is class 1, her method 1. -/
namespace start1
open Jvm.ClassFile
def u (s : String) : CpInfo := .utf8 (stringToUtf16 s)
/-- a pool by its gaps: so many unusable entries, then the entry; so many at the end -/
def gap : Nat → List CpInfo → List CpInfo
  | 0, r => r
  | n + 1, r => .unusable :: gap n r
def poolList (es : List (Nat × CpInfo)) (last : Nat) : List CpInfo := es.foldr (fun e r => gap e.1 (e.2 :: r)) (gap last [])
def pool (es : List (Nat × CpInfo)) (last : Nat) : Array CpInfo := ⟨poolList es last⟩
def fileOf (pool : Array CpInfo) (this : Nat) (attrs : Array Attribute := #[]) (ms : Array MethodInfo := #[]) (fl : Nat := 33) (sup : Nat := 0) (ifs : Array Nat := #[]) (fds : Array FieldInfo := #[]) : ClassFile where
  minorVersion := 0
  majorVersion := 65
  constantPool := pool
  accessFlags := fl
  thisClass := this
  superClass := sup
  interfaces := ifs
  fields := fds
  methods := ms
  attributes := attrs
def plain (name : String) (sup : Option ClassId) : Class where
  name := name
  kind := .ordinary
  loader := none
  accessFlags := 33
  super := sup
  interfaces := #[]
  cf := none
  fields := #[]
  methods := #[]
  instanceTypes := #[]
  staticTypes := #[]
  resolved := #[]
  callSites := []
  init := .initialized
  statics := none
  mirror := none

def pool0 : Array CpInfo := pool [(5, u "<init>"), (0, u "()V"), (1, .class_ 10), (1, u "java/lang/Object")] 113

def k0c0 : Code := { maxStack := 0, maxLocals := 1, code := object_method_1_code, exceptionTable := #[], attributes := #[] }
def k0m0 : Method := { name := "<init>", desc := "()V", sig := { parameters := [], returnType := none }, accessFlags := 1, code := some k0c0 }
/-- java/lang/Object -/
def k0 : Class := { plain "java/lang/Object" none with
  accessFlags := 33
  interfaces := #[]
  cf := some (fileOf pool0 8 #[] #[{ accessFlags := 1, nameIndex := 5, descriptorIndex := 6, attributes := #[] }] 33 0 #[] #[])
  fields := #[]
  methods := #[k0m0]
  instanceTypes := #[]
  staticTypes := #[]
  resolved := Array.replicate 124 none
  statics := none }

def pool1 : Array CpInfo := pool [(2, .class_ 4), (1, u "java/lang/Object"), (0, u "<init>"), (0, u "()V"), (0, .methodref 8 9), (0, .class_ 10), (0, .nameAndType 11 12), (0, u "com/example/commit_feed/commitfeed/config/SqlNamesUnqualifiedPinLaw"), (0, u "pick"), (0, u "(III)C"), (0, .class_ 14), (0, u "java/lang/String"), (0, .methodref 13 16), (0, .nameAndType 5 17), (0, u "([C)V"), (0, .methodref 19 20), (0, .class_ 21), (0, .nameAndType 22 23), (0, u "com/example/commit_feed/commitfeed/config/SqlNames"), (0, u "unqualified"), (0, u "(Ljava/lang/String;)Ljava/lang/String;"), (0, .methodref 13 25), (0, .nameAndType 26 27), (0, u "equals"), (0, u "(Ljava/lang/Object;)Z"), (2, u "law"), (0, u "(III)Z")] 5

def k1m0 : Method := { name := "<init>", desc := "()V", sig := { parameters := [], returnType := none }, accessFlags := 1, code := none }
def k1c1 : Code := { maxStack := 6, maxLocals := 13, code := code, exceptionTable := #[], attributes := #[] }
def k1m1 : Method := { name := "law", desc := "(III)Z", sig := { parameters := [.int, .int, .int], returnType := some .boolean }, accessFlags := 9, code := some k1c1 }
def k1c2 : Code := { maxStack := 2, maxLocals := 3, code := method_3_code, exceptionTable := #[], attributes := #[] }
def k1m2 : Method := { name := "pick", desc := "(III)C", sig := { parameters := [.int, .int, .int], returnType := some .char }, accessFlags := 10, code := some k1c2 }
/-- com/example/commit_feed/commitfeed/config/SqlNamesUnqualifiedPinLaw -/
def k1 : Class := { plain "com/example/commit_feed/commitfeed/config/SqlNamesUnqualifiedPinLaw" (some 0) with
  accessFlags := 49
  interfaces := #[]
  cf := some (fileOf pool1 8 #[] #[{ accessFlags := 1, nameIndex := 5, descriptorIndex := 6, attributes := #[] }, { accessFlags := 9, nameIndex := 30, descriptorIndex := 31, attributes := #[] }, { accessFlags := 10, nameIndex := 11, descriptorIndex := 12, attributes := #[] }] 49 2 #[] #[])
  fields := #[]
  methods := #[k1m0, k1m1, k1m2]
  instanceTypes := #[]
  staticTypes := #[]
  resolved := Array.replicate 37 none
  statics := none }

def pool2 : Array CpInfo := pool [(1, .class_ 2), (0, u "java/io/Serializable"), (0, .class_ 4), (0, u "java/lang/Object")] 2

/-- java/io/Serializable -/
def k2 : Class := { plain "java/io/Serializable" (some 0) with
  accessFlags := 1537
  interfaces := #[]
  cf := some (fileOf pool2 1 #[] #[] 1537 3 #[] #[])
  fields := #[]
  methods := #[]
  instanceTypes := #[]
  staticTypes := #[]
  resolved := Array.replicate 7 none
  statics := none }

def pool3 : Array CpInfo := pool [(1, .class_ 2), (0, u "java/lang/Comparable"), (0, .class_ 4), (0, u "java/lang/Object")] 7

/-- java/lang/Comparable -/
def k3 : Class := { plain "java/lang/Comparable" (some 0) with
  accessFlags := 1537
  interfaces := #[]
  cf := some (fileOf pool3 1 #[] #[] 1537 3 #[] #[])
  fields := #[]
  methods := #[]
  instanceTypes := #[]
  staticTypes := #[]
  resolved := Array.replicate 12 none
  statics := none }

def pool4 : Array CpInfo := pool [(2, .class_ 4), (1, u "java/lang/CharSequence"), (42, .class_ 48), (0, u "java/lang/CharSequence$1CodePointIterator"), (10, .class_ 60), (0, u "java/lang/CharSequence$1CharIterator"), (5, .class_ 67), (0, u "java/lang/Object")] 63

/-- java/lang/CharSequence -/
def k4 : Class := { plain "java/lang/CharSequence" (some 0) with
  accessFlags := 1537
  interfaces := #[]
  cf := some (fileOf pool4 2 #[.nestMembers #[47, 59]] #[] 1537 66 #[] #[])
  fields := #[]
  methods := #[]
  instanceTypes := #[]
  staticTypes := #[]
  resolved := Array.replicate 131 none
  statics := none }

def pool5 : Array CpInfo := pool [(1, .class_ 2), (0, u "java/lang/constant/Constable"), (0, .class_ 4), (0, u "java/lang/Object")] 6

/-- java/lang/constant/Constable -/
def k5 : Class := { plain "java/lang/constant/Constable" (some 0) with
  accessFlags := 1537
  interfaces := #[]
  cf := some (fileOf pool5 1 #[] #[] 1537 3 #[] #[])
  fields := #[]
  methods := #[]
  instanceTypes := #[]
  staticTypes := #[]
  resolved := Array.replicate 11 none
  statics := none }

def pool6 : Array CpInfo := pool [(1, .class_ 2), (0, u "java/lang/constant/ConstantDesc"), (0, .class_ 4), (0, u "java/lang/Object")] 32

/-- java/lang/constant/ConstantDesc -/
def k6 : Class := { plain "java/lang/constant/ConstantDesc" (some 0) with
  accessFlags := 1537
  interfaces := #[]
  cf := some (fileOf pool6 1 #[] #[] 1537 3 #[] #[])
  fields := #[]
  methods := #[]
  instanceTypes := #[]
  staticTypes := #[]
  resolved := Array.replicate 37 none
  statics := none }

def pool7 : Array CpInfo := pool [(1, .methodref 2 3), (0, .class_ 4), (0, .nameAndType 5 6), (0, u "java/lang/Object"), (0, u "<init>"), (0, u "()V"), (0, .string 8), (0, u ""), (0, .fieldref 10 11), (0, .class_ 12), (0, .nameAndType 13 14), (0, u "java/lang/String"), (0, u "value"), (0, u "[B"), (0, .fieldref 10 16), (0, .nameAndType 17 18), (0, u "coder"), (0, u "B"), (2, u "hash"), (0, u "I"), (2, u "hashIsZero"), (0, u "Z"), (0, .methodref 10 28), (0, .nameAndType 5 29), (0, u "([CIILjava/lang/Void;)V"), (8, .fieldref 10 39), (0, .nameAndType 40 26), (0, u "COMPACT_STRINGS"), (1, .class_ 44), (1, u "java/lang/StringUTF16"), (0, u "compress"), (1, .methodref 42 48), (0, .nameAndType 49 50), (0, u "coderFromArrayLen"), (0, u "([BI)B"), (56, .class_ 109), (1, u "java/lang/StringLatin1"), (32, u "()Z"), (34, .methodref 42 178), (0, .nameAndType 45 179), (0, u "([CII)[B"), (31, u "([BB)V"), (122, u "()I"), (0, .methodref 10 336), (0, .nameAndType 17 337), (0, u "()B"), (154, .methodref 10 493), (0, .nameAndType 494 142), (0, u "isLatin1"), (10, .methodref 10 506), (0, .nameAndType 507 334), (0, u "length"), (5, u "checkFromToIndex"), (7, .methodref 10 522), (0, .nameAndType 523 524), (0, u "checkBoundsBeginEnd"), (0, u "(III)V"), (16, .methodref 107 542), (0, .nameAndType 543 544), (0, u "equals"), (0, u "([B[B)Z"), (28, u "(Ljava/lang/Object;)Z"), (1, .class_ 576), (0, u "java/lang/CharSequence"), (22, u "CASE_INSENSITIVE_ORDER"), (0, u "Ljava/util/Comparator;"), (32, .methodref 10 634), (0, .nameAndType 635 636), (0, u "indexOf"), (0, u "(II)I"), (0, .methodref 107 638), (0, .nameAndType 635 639), (0, u "([BIII)I"), (41, .methodref 10 682), (0, .nameAndType 683 684), (0, u "substring"), (0, u "(II)Ljava/lang/String;"), (0, .methodref 107 686), (0, .nameAndType 687 688), (0, u "newString"), (0, u "([BII)Ljava/lang/String;"), (76, u "(I)I"), (126, u "(I)Ljava/lang/String;"), (117, u "([C)V"), (42, .fieldref 1054 1055), (0, .class_ 1056), (0, .nameAndType 1057 1058), (0, u "jdk/internal/util/Preconditions"), (0, u "SIOOBE_FORMATTER"), (0, u "Ljava/util/function/BiFunction;"), (3, .methodref 1054 1063), (0, .nameAndType 513 1064), (0, u "(IIILjava/util/function/BiFunction;)I"), (36, u "serialPersistentFields"), (0, u "[Ljava/io/ObjectStreamField;"), (0, .class_ 1104), (0, u "java/lang/String$CaseInsensitiveComparator"), (1, .class_ 1107), (0, u "java/io/Serializable"), (0, .class_ 1109), (0, u "java/lang/Comparable"), (0, .class_ 1111), (0, u "java/lang/constant/Constable"), (0, .class_ 1113), (0, u "java/lang/constant/ConstantDesc"), (2, u "serialVersionUID"), (0, u "J"), (3, u "REPL"), (0, u "C"), (2, u "LATIN1"), (1, u "UTF16")] 323

def k7m0 : Method := { name := "<init>", desc := "()V", sig := { parameters := [], returnType := none }, accessFlags := 1, code := none }
def k7c1 : Code := { maxStack := 5, maxLocals := 2, code := jdk_42_method_3_code, exceptionTable := #[], attributes := #[] }
def k7m1 : Method := { name := "<init>", desc := "([C)V", sig := { parameters := [(.array .char)], returnType := none }, accessFlags := 1, code := some k7c1 }
def k7c2 : Code := { maxStack := 2, maxLocals := 1, code := jdk_42_method_54_code, exceptionTable := #[], attributes := #[] }
def k7m2 : Method := { name := "length", desc := "()I", sig := { parameters := [], returnType := some .int }, accessFlags := 1, code := some k7c2 }
def k7c3 : Code := { maxStack := 2, maxLocals := 3, code := jdk_42_method_66_code, exceptionTable := #[], attributes := #[] }
def k7m3 : Method := { name := "equals", desc := "(Ljava/lang/Object;)Z", sig := { parameters := [(.object "java/lang/Object")], returnType := some .boolean }, accessFlags := 1, code := some k7c3 }
def k7c4 : Code := { maxStack := 3, maxLocals := 2, code := jdk_42_method_79_code, exceptionTable := #[], attributes := #[] }
def k7m4 : Method := { name := "indexOf", desc := "(I)I", sig := { parameters := [.int], returnType := some .int }, accessFlags := 1, code := some k7c4 }
def k7c5 : Code := { maxStack := 4, maxLocals := 3, code := jdk_42_method_80_code, exceptionTable := #[], attributes := #[] }
def k7m5 : Method := { name := "indexOf", desc := "(II)I", sig := { parameters := [.int, .int], returnType := some .int }, accessFlags := 1, code := some k7c5 }
def k7c6 : Code := { maxStack := 3, maxLocals := 2, code := jdk_42_method_91_code, exceptionTable := #[], attributes := #[] }
def k7m6 : Method := { name := "substring", desc := "(I)Ljava/lang/String;", sig := { parameters := [.int], returnType := some (.object "java/lang/String") }, accessFlags := 1, code := some k7c6 }
def k7c7 : Code := { maxStack := 3, maxLocals := 5, code := jdk_42_method_92_code, exceptionTable := #[], attributes := #[] }
def k7m7 : Method := { name := "substring", desc := "(II)Ljava/lang/String;", sig := { parameters := [.int, .int], returnType := some (.object "java/lang/String") }, accessFlags := 1, code := some k7c7 }
def k7c8 : Code := { maxStack := 4, maxLocals := 6, code := jdk_42_method_149_code, exceptionTable := #[], attributes := #[] }
def k7m8 : Method := { name := "<init>", desc := "([CIILjava/lang/Void;)V", sig := { parameters := [(.array .char), .int, .int, (.object "java/lang/Void")], returnType := none }, accessFlags := 2, code := some k7c8 }
def k7c9 : Code := { maxStack := 2, maxLocals := 3, code := jdk_42_method_151_code, exceptionTable := #[], attributes := #[] }
def k7m9 : Method := { name := "<init>", desc := "([BB)V", sig := { parameters := [(.array .byte), .byte], returnType := none }, accessFlags := 0, code := some k7c9 }
def k7c10 : Code := { maxStack := 1, maxLocals := 1, code := jdk_42_method_152_code, exceptionTable := #[], attributes := #[] }
def k7m10 : Method := { name := "coder", desc := "()B", sig := { parameters := [], returnType := some .byte }, accessFlags := 0, code := some k7c10 }
def k7c11 : Code := { maxStack := 1, maxLocals := 1, code := jdk_42_method_154_code, exceptionTable := #[], attributes := #[] }
def k7m11 : Method := { name := "isLatin1", desc := "()Z", sig := { parameters := [], returnType := some .boolean }, accessFlags := 0, code := some k7c11 }
def k7c12 : Code := { maxStack := 4, maxLocals := 3, code := jdk_42_method_158_code, exceptionTable := #[], attributes := #[] }
def k7m12 : Method := { name := "checkBoundsBeginEnd", desc := "(III)V", sig := { parameters := [.int, .int, .int], returnType := none }, accessFlags := 8, code := some k7c12 }
/-- java/lang/String -/
def k7 : Class := { plain "java/lang/String" (some 0) with
  accessFlags := 49
  interfaces := #[2, 3, 4, 5, 6]
  cf := some (fileOf pool7 10 #[.nestMembers #[1103]] #[{ accessFlags := 1, nameIndex := 5, descriptorIndex := 6, attributes := #[] }, { accessFlags := 1, nameIndex := 5, descriptorIndex := 1010, attributes := #[] }, { accessFlags := 1, nameIndex := 507, descriptorIndex := 334, attributes := #[] }, { accessFlags := 1, nameIndex := 543, descriptorIndex := 573, attributes := #[] }, { accessFlags := 1, nameIndex := 635, descriptorIndex := 765, attributes := #[] }, { accessFlags := 1, nameIndex := 635, descriptorIndex := 636, attributes := #[] }, { accessFlags := 1, nameIndex := 683, descriptorIndex := 892, attributes := #[] }, { accessFlags := 1, nameIndex := 683, descriptorIndex := 684, attributes := #[] }, { accessFlags := 2, nameIndex := 5, descriptorIndex := 29, attributes := #[] }, { accessFlags := 0, nameIndex := 5, descriptorIndex := 211, attributes := #[] }, { accessFlags := 0, nameIndex := 17, descriptorIndex := 337, attributes := #[] }, { accessFlags := 0, nameIndex := 494, descriptorIndex := 142, attributes := #[] }, { accessFlags := 8, nameIndex := 523, descriptorIndex := 524, attributes := #[] }] 49 2 #[1106, 1108, 575, 1110, 1112] #[{ accessFlags := 18, nameIndex := 13, descriptorIndex := 14, attributes := #[] }, { accessFlags := 18, nameIndex := 17, descriptorIndex := 18, attributes := #[] }, { accessFlags := 2, nameIndex := 21, descriptorIndex := 22, attributes := #[] }, { accessFlags := 2, nameIndex := 25, descriptorIndex := 26, attributes := #[] }, { accessFlags := 26, nameIndex := 1116, descriptorIndex := 1117, attributes := #[] }, { accessFlags := 24, nameIndex := 40, descriptorIndex := 26, attributes := #[] }, { accessFlags := 26, nameIndex := 1101, descriptorIndex := 1102, attributes := #[] }, { accessFlags := 26, nameIndex := 1121, descriptorIndex := 1122, attributes := #[] }, { accessFlags := 25, nameIndex := 599, descriptorIndex := 600, attributes := #[] }, { accessFlags := 24, nameIndex := 1125, descriptorIndex := 18, attributes := #[] }, { accessFlags := 24, nameIndex := 1127, descriptorIndex := 18, attributes := #[] }])
  fields := #[{ name := "value", type := (.array .byte), accessFlags := 18, slot := 0, constantValue := 0 }, { name := "coder", type := .byte, accessFlags := 18, slot := 1, constantValue := 0 }, { name := "hash", type := .int, accessFlags := 2, slot := 2, constantValue := 0 }, { name := "hashIsZero", type := .boolean, accessFlags := 2, slot := 3, constantValue := 0 }, { name := "serialVersionUID", type := .long, accessFlags := 26, slot := 0, constantValue := 0 }, { name := "COMPACT_STRINGS", type := .boolean, accessFlags := 24, slot := 1, constantValue := 0 }, { name := "serialPersistentFields", type := (.array (.object "java/io/ObjectStreamField")), accessFlags := 26, slot := 2, constantValue := 0 }, { name := "REPL", type := .char, accessFlags := 26, slot := 3, constantValue := 0 }, { name := "CASE_INSENSITIVE_ORDER", type := (.object "java/util/Comparator"), accessFlags := 25, slot := 4, constantValue := 0 }, { name := "LATIN1", type := .byte, accessFlags := 24, slot := 5, constantValue := 0 }, { name := "UTF16", type := .byte, accessFlags := 24, slot := 6, constantValue := 0 }]
  methods := #[k7m0, k7m1, k7m2, k7m3, k7m4, k7m5, k7m6, k7m7, k7m8, k7m9, k7m10, k7m11, k7m12]
  instanceTypes := #[(.array .byte), .byte, .int, .boolean]
  staticTypes := #[.long, .boolean, (.array (.object "java/io/ObjectStreamField")), .char, (.object "java/util/Comparator"), .byte, .byte]
  resolved := Array.replicate 1451 none
  statics := some 0 }

def pool8 : Array CpInfo := pool [(2, .class_ 4), (1, u "java/lang/Object"), (0, u "<init>"), (0, u "()V"), (1, .class_ 10), (1, u "java/lang/String"), (14, .class_ 27), (1, u "com/example/commit_feed/commitfeed/config/SqlNames"), (0, u "TABLE"), (0, u "Ljava/util/regex/Pattern;"), (15, .methodref 8 46), (0, .nameAndType 47 48), (0, u "indexOf"), (0, u "(I)I"), (8, u "substring"), (5, .methodref 8 64), (0, .nameAndType 57 65), (0, u "(I)Ljava/lang/String;"), (2, u "unqualified"), (0, u "(Ljava/lang/String;)Ljava/lang/String;"), (31, u "COLUMN"), (86, u "SQL_NAME"), (0, u "Ljava/lang/String;"), (1, u "RULE")] 56

def k8m0 : Method := { name := "<init>", desc := "()V", sig := { parameters := [], returnType := none }, accessFlags := 2, code := none }
def k8c1 : Code := { maxStack := 3, maxLocals := 1, code := prog_9_method_4_code, exceptionTable := #[], attributes := #[] }
def k8m1 : Method := { name := "unqualified", desc := "(Ljava/lang/String;)Ljava/lang/String;", sig := { parameters := [(.object "java/lang/String")], returnType := some (.object "java/lang/String") }, accessFlags := 9, code := some k8c1 }
/-- com/example/commit_feed/commitfeed/config/SqlNames -/
def k8 : Class := { plain "com/example/commit_feed/commitfeed/config/SqlNames" (some 0) with
  accessFlags := 49
  interfaces := #[]
  cf := some (fileOf pool8 25 #[] #[{ accessFlags := 2, nameIndex := 5, descriptorIndex := 6, attributes := #[] }, { accessFlags := 9, nameIndex := 68, descriptorIndex := 69, attributes := #[] }] 49 2 #[] #[{ accessFlags := 26, nameIndex := 188, descriptorIndex := 189, attributes := #[] }, { accessFlags := 26, nameIndex := 101, descriptorIndex := 29, attributes := #[] }, { accessFlags := 26, nameIndex := 28, descriptorIndex := 29, attributes := #[] }, { accessFlags := 26, nameIndex := 191, descriptorIndex := 189, attributes := #[] }])
  fields := #[{ name := "SQL_NAME", type := (.object "java/lang/String"), accessFlags := 26, slot := 0, constantValue := 0 }, { name := "COLUMN", type := (.object "java/util/regex/Pattern"), accessFlags := 26, slot := 1, constantValue := 0 }, { name := "TABLE", type := (.object "java/util/regex/Pattern"), accessFlags := 26, slot := 2, constantValue := 0 }, { name := "RULE", type := (.object "java/lang/String"), accessFlags := 26, slot := 3, constantValue := 0 }]
  methods := #[k8m0, k8m1]
  instanceTypes := #[]
  staticTypes := #[(.object "java/lang/String"), (.object "java/util/regex/Pattern"), (.object "java/util/regex/Pattern"), (.object "java/lang/String")]
  resolved := Array.replicate 248 none
  statics := none }

def pool9 : Array CpInfo := pool [(1, .class_ 2), (0, u "java/lang/String"), (1, .class_ 6), (1, u "java/lang/Object"), (0, u "<init>"), (0, u "()V"), (5, .class_ 16), (1, u "java/lang/StringLatin1"), (21, .methodref 39 40), (0, .class_ 41), (0, .nameAndType 42 43), (0, u "java/lang/Math"), (0, u "min"), (0, u "(II)I"), (44, .methodref 14 89), (0, .nameAndType 90 91), (0, u "canEncode"), (0, u "(I)Z"), (0, .methodref 39 93), (0, .nameAndType 94 43), (0, u "max"), (0, .methodref 14 96), (0, .nameAndType 97 98), (0, u "indexOfChar"), (0, u "([BIII)I"), (2, u "indexOf"), (10, .methodref 1 113), (0, .nameAndType 7 114), (0, u "([BB)V"), (6, u "$assertionsDisabled"), (0, u "Z"), (8, .class_ 133), (1, u "java/util/Arrays"), (17, .string 152), (0, u ""), (43, u "newString"), (0, u "([BII)Ljava/lang/String;"), (23, .class_ 223), (1, u "java/lang/StringLatin1$LinesSpliterator"), (8, .methodref 131 233), (0, .nameAndType 234 235), (0, u "copyOfRange"), (0, u "([BII)[B"), (45, u "equals"), (0, u "([B[B)Z"), (107, .class_ 391), (0, u "java/lang/StringLatin1$CharsSpliterator")] 3

def k9m0 : Method := { name := "<init>", desc := "()V", sig := { parameters := [], returnType := none }, accessFlags := 0, code := none }
def k9c1 : Code := { maxStack := 2, maxLocals := 1, code := jdk_43_method_4_code, exceptionTable := #[], attributes := #[] }
def k9m1 : Method := { name := "canEncode", desc := "(I)Z", sig := { parameters := [.int], returnType := some .boolean }, accessFlags := 9, code := some k9c1 }
def k9c2 : Code := { maxStack := 3, maxLocals := 3, code := jdk_43_method_13_code, exceptionTable := #[], attributes := #[] }
def k9m2 : Method := { name := "equals", desc := "([B[B)Z", sig := { parameters := [(.array .byte), (.array .byte)], returnType := some .boolean }, accessFlags := 9, code := some k9c2 }
def k9c3 : Code := { maxStack := 4, maxLocals := 4, code := jdk_43_method_22_code, exceptionTable := #[], attributes := #[] }
def k9m3 : Method := { name := "indexOf", desc := "([BIII)I", sig := { parameters := [(.array .byte), .int, .int, .int], returnType := some .int }, accessFlags := 9, code := some k9c3 }
def k9c4 : Code := { maxStack := 2, maxLocals := 6, code := jdk_43_method_23_code, exceptionTable := #[], attributes := #[] }
def k9m4 : Method := { name := "indexOfChar", desc := "([BIII)I", sig := { parameters := [(.array .byte), .int, .int, .int], returnType := some .int }, accessFlags := 10, code := some k9c4 }
def k9c5 : Code := { maxStack := 6, maxLocals := 3, code := jdk_43_method_47_code, exceptionTable := #[], attributes := #[] }
def k9m5 : Method := { name := "newString", desc := "([BII)Ljava/lang/String;", sig := { parameters := [(.array .byte), .int, .int], returnType := some (.object "java/lang/String") }, accessFlags := 9, code := some k9c5 }
/-- java/lang/StringLatin1 -/
def k9 : Class := { plain "java/lang/StringLatin1" (some 0) with
  accessFlags := 48
  interfaces := #[]
  cf := some (fileOf pool9 14 #[.nestMembers #[390, 221]] #[{ accessFlags := 0, nameIndex := 7, descriptorIndex := 8, attributes := #[] }, { accessFlags := 9, nameIndex := 90, descriptorIndex := 91, attributes := #[] }, { accessFlags := 9, nameIndex := 281, descriptorIndex := 282, attributes := #[] }, { accessFlags := 9, nameIndex := 101, descriptorIndex := 98, attributes := #[] }, { accessFlags := 10, nameIndex := 97, descriptorIndex := 98, attributes := #[] }, { accessFlags := 9, nameIndex := 196, descriptorIndex := 197, attributes := #[] }] 48 4 #[] #[{ accessFlags := 4120, nameIndex := 121, descriptorIndex := 122, attributes := #[] }])
  fields := #[{ name := "$assertionsDisabled", type := .boolean, accessFlags := 4120, slot := 0, constantValue := 0 }]
  methods := #[k9m0, k9m1, k9m2, k9m3, k9m4, k9m5]
  instanceTypes := #[]
  staticTypes := #[.boolean]
  resolved := Array.replicate 395 none
  statics := none }

def pool10 : Array CpInfo := pool [(1, .class_ 2), (0, u "java/lang/Math"), (1, .class_ 6), (1, u "java/lang/Object"), (0, u "<init>"), (0, u "()V"), (89, .class_ 100), (1, u "java/lang/Math$RandomNumberGeneratorHolder"), (71, u "negativeZeroFloatBits"), (0, u "J"), (2, u "negativeZeroDoubleBits"), (21, u "max"), (2, u "min"), (43, u "$assertionsDisabled"), (0, u "Z"), (88, u "(II)I"), (2, u "twoToTheDoubleScaleDown"), (0, u "D"), (4, u "twoToTheDoubleScaleUp"), (9, u "E"), (3, u "PI"), (2, u "TAU"), (2, u "DEGREES_TO_RADIANS"), (0, u "RADIANS_TO_DEGREES")] 94

def k10m0 : Method := { name := "<init>", desc := "()V", sig := { parameters := [], returnType := none }, accessFlags := 2, code := none }
def k10c1 : Code := { maxStack := 2, maxLocals := 2, code := jdk_29_method_65_code, exceptionTable := #[], attributes := #[] }
def k10m1 : Method := { name := "max", desc := "(II)I", sig := { parameters := [.int, .int], returnType := some .int }, accessFlags := 9, code := some k10c1 }
def k10c2 : Code := { maxStack := 2, maxLocals := 2, code := jdk_29_method_69_code, exceptionTable := #[], attributes := #[] }
def k10m2 : Method := { name := "min", desc := "(II)I", sig := { parameters := [.int, .int], returnType := some .int }, accessFlags := 9, code := some k10c2 }
/-- java/lang/Math -/
def k10 : Class := { plain "java/lang/Math" (some 0) with
  accessFlags := 49
  interfaces := #[]
  cf := some (fileOf pool10 1 #[.nestMembers #[98]] #[{ accessFlags := 2, nameIndex := 7, descriptorIndex := 8, attributes := #[] }, { accessFlags := 9, nameIndex := 198, descriptorIndex := 335, attributes := #[] }, { accessFlags := 9, nameIndex := 201, descriptorIndex := 335, attributes := #[] }] 49 4 #[] #[{ accessFlags := 25, nameIndex := 354, descriptorIndex := 339, attributes := #[] }, { accessFlags := 25, nameIndex := 358, descriptorIndex := 339, attributes := #[] }, { accessFlags := 25, nameIndex := 361, descriptorIndex := 339, attributes := #[] }, { accessFlags := 26, nameIndex := 364, descriptorIndex := 339, attributes := #[] }, { accessFlags := 26, nameIndex := 365, descriptorIndex := 339, attributes := #[] }, { accessFlags := 26, nameIndex := 172, descriptorIndex := 173, attributes := #[] }, { accessFlags := 26, nameIndex := 176, descriptorIndex := 173, attributes := #[] }, { accessFlags := 8, nameIndex := 344, descriptorIndex := 339, attributes := #[] }, { accessFlags := 8, nameIndex := 338, descriptorIndex := 339, attributes := #[] }, { accessFlags := 4120, nameIndex := 245, descriptorIndex := 246, attributes := #[] }])
  fields := #[{ name := "E", type := .double, accessFlags := 25, slot := 0, constantValue := 0 }, { name := "PI", type := .double, accessFlags := 25, slot := 1, constantValue := 0 }, { name := "TAU", type := .double, accessFlags := 25, slot := 2, constantValue := 0 }, { name := "DEGREES_TO_RADIANS", type := .double, accessFlags := 26, slot := 3, constantValue := 0 }, { name := "RADIANS_TO_DEGREES", type := .double, accessFlags := 26, slot := 4, constantValue := 0 }, { name := "negativeZeroFloatBits", type := .long, accessFlags := 26, slot := 5, constantValue := 0 }, { name := "negativeZeroDoubleBits", type := .long, accessFlags := 26, slot := 6, constantValue := 0 }, { name := "twoToTheDoubleScaleUp", type := .double, accessFlags := 8, slot := 7, constantValue := 0 }, { name := "twoToTheDoubleScaleDown", type := .double, accessFlags := 8, slot := 8, constantValue := 0 }, { name := "$assertionsDisabled", type := .boolean, accessFlags := 4120, slot := 9, constantValue := 0 }]
  methods := #[k10m0, k10m1, k10m2]
  instanceTypes := #[]
  staticTypes := #[.double, .double, .double, .double, .double, .long, .long, .double, .double, .boolean]
  resolved := Array.replicate 460 none
  statics := none }

def pool11 : Array CpInfo := pool [(2, .class_ 4), (1, u "java/lang/Object"), (0, u "<init>"), (0, u "()V"), (17, .class_ 26), (1, u "jdk/internal/util/Preconditions"), (20, u "checkFromToIndex"), (7, .class_ 56), (0, u "jdk/internal/util/Preconditions$4"), (57, .class_ 115), (0, u "jdk/internal/util/Preconditions$1"), (7, u "SIOOBE_FORMATTER"), (0, u "Ljava/util/function/BiFunction;"), (0, .class_ 126), (0, u "jdk/internal/util/Preconditions$2"), (3, u "AIOOBE_FORMATTER"), (0, .class_ 132), (0, u "jdk/internal/util/Preconditions$3"), (3, u "IOOBE_FORMATTER"), (46, u "(IIILjava/util/function/BiFunction;)I")] 10

def k11m0 : Method := { name := "<init>", desc := "()V", sig := { parameters := [], returnType := none }, accessFlags := 1, code := none }
def k11c1 : Code := { maxStack := 4, maxLocals := 4, code := jdk_41_method_12_code, exceptionTable := #[], attributes := #[] }
def k11m1 : Method := { name := "checkFromToIndex", desc := "(IIILjava/util/function/BiFunction;)I", sig := { parameters := [.int, .int, .int, (.object "java/util/function/BiFunction")], returnType := some .int }, accessFlags := 9, code := some k11c1 }
/-- jdk/internal/util/Preconditions -/
def k11 : Class := { plain "jdk/internal/util/Preconditions" (some 0) with
  accessFlags := 33
  interfaces := #[]
  cf := some (fileOf pool11 24 #[.nestMembers #[55, 131, 125, 114]] #[{ accessFlags := 1, nameIndex := 5, descriptorIndex := 6, attributes := #[] }, { accessFlags := 9, nameIndex := 47, descriptorIndex := 183, attributes := #[] }] 33 2 #[] #[{ accessFlags := 25, nameIndex := 123, descriptorIndex := 124, attributes := #[] }, { accessFlags := 25, nameIndex := 130, descriptorIndex := 124, attributes := #[] }, { accessFlags := 25, nameIndex := 136, descriptorIndex := 124, attributes := #[] }])
  fields := #[{ name := "SIOOBE_FORMATTER", type := (.object "java/util/function/BiFunction"), accessFlags := 25, slot := 0, constantValue := 0 }, { name := "AIOOBE_FORMATTER", type := (.object "java/util/function/BiFunction"), accessFlags := 25, slot := 1, constantValue := 0 }, { name := "IOOBE_FORMATTER", type := (.object "java/util/function/BiFunction"), accessFlags := 25, slot := 2, constantValue := 0 }]
  methods := #[k11m0, k11m1]
  instanceTypes := #[]
  staticTypes := #[(.object "java/util/function/BiFunction"), (.object "java/util/function/BiFunction"), (.object "java/util/function/BiFunction")]
  resolved := Array.replicate 194 none
  statics := some 1 }

def pool12 : Array CpInfo := pool [(6, .class_ 8), (1, u "java/lang/Object"), (0, u "<init>"), (0, u "()V"), (1, .class_ 14), (1, u "java/lang/StringUTF16"), (31, u "$assertionsDisabled"), (0, u "Z"), (13, u "HI_BYTE_SHIFT"), (0, u "I"), (2, u "LO_BYTE_SHIFT"), (49, .methodref 12 116), (0, .nameAndType 117 118), (0, u "compress"), (0, u "([CI[BII)I"), (3, u "([CII)[B"), (138, u "coderFromArrayLen"), (0, u "([BI)B"), (106, .class_ 371), (1, u "java/lang/StringUTF16$LinesSpliterator"), (58, u "MAX_LENGTH"), (196, .class_ 628), (0, u "java/lang/StringUTF16$CodePointsSpliterator"), (0, .class_ 630), (0, u "java/lang/StringUTF16$CharsSpliterator")] 4

def k12m0 : Method := { name := "<init>", desc := "()V", sig := { parameters := [], returnType := none }, accessFlags := 0, code := none }
def k12c1 : Code := { maxStack := 2, maxLocals := 2, code := jdk_52_method_15_code, exceptionTable := #[], attributes := #[] }
def k12m1 : Method := { name := "coderFromArrayLen", desc := "([BI)B", sig := { parameters := [(.array .byte), .int], returnType := some .byte }, accessFlags := 8, code := some k12c1 }
def k12c2 : Code := { maxStack := 5, maxLocals := 6, code := jdk_52_method_16_code, exceptionTable := #[], attributes := #[] }
def k12m2 : Method := { name := "compress", desc := "([CII)[B", sig := { parameters := [(.array .char), .int, .int], returnType := some (.array .byte) }, accessFlags := 9, code := some k12c2 }
def k12c3 : Code := { maxStack := 3, maxLocals := 7, code := jdk_52_method_21_code, exceptionTable := #[], attributes := #[] }
def k12m3 : Method := { name := "compress", desc := "([CI[BII)I", sig := { parameters := [(.array .char), .int, (.array .byte), .int, .int], returnType := some .int }, accessFlags := 9, code := some k12c3 }
/-- java/lang/StringUTF16 -/
def k12 : Class := { plain "java/lang/StringUTF16" (some 0) with
  accessFlags := 48
  interfaces := #[]
  cf := some (fileOf pool12 12 #[.nestMembers #[627, 629, 369]] #[{ accessFlags := 0, nameIndex := 9, descriptorIndex := 10, attributes := #[] }, { accessFlags := 8, nameIndex := 261, descriptorIndex := 262, attributes := #[] }, { accessFlags := 9, nameIndex := 117, descriptorIndex := 122, attributes := #[] }, { accessFlags := 9, nameIndex := 117, descriptorIndex := 118, attributes := #[] }] 48 6 #[] #[{ accessFlags := 26, nameIndex := 61, descriptorIndex := 62, attributes := #[] }, { accessFlags := 26, nameIndex := 65, descriptorIndex := 62, attributes := #[] }, { accessFlags := 24, nameIndex := 430, descriptorIndex := 62, attributes := #[] }, { accessFlags := 4120, nameIndex := 46, descriptorIndex := 47, attributes := #[] }])
  fields := #[{ name := "HI_BYTE_SHIFT", type := .int, accessFlags := 26, slot := 0, constantValue := 0 }, { name := "LO_BYTE_SHIFT", type := .int, accessFlags := 26, slot := 1, constantValue := 0 }, { name := "MAX_LENGTH", type := .int, accessFlags := 24, slot := 2, constantValue := 0 }, { name := "$assertionsDisabled", type := .boolean, accessFlags := 4120, slot := 3, constantValue := 0 }]
  methods := #[k12m0, k12m1, k12m2, k12m3]
  instanceTypes := #[]
  staticTypes := #[.int, .int, .int, .boolean]
  resolved := Array.replicate 635 none
  statics := none }

def pool13 : Array CpInfo := pool [(2, .class_ 4), (1, u "java/lang/Object"), (0, u "<init>"), (0, u "()V"), (7, .class_ 16), (1, u "java/util/Arrays"), (57, .class_ 76), (1, u "java/util/Arrays$NaturalOrder"), (36, .class_ 115), (1, u "java/util/Arrays$LegacyMergeSort"), (1, u "Z"), (21, u "copyOfRange"), (10, .methodref 151 152), (0, .class_ 153), (0, .nameAndType 154 155), (0, u "java/lang/System"), (0, u "arraycopy"), (0, u "(Ljava/lang/Object;ILjava/lang/Object;II)V"), (148, .methodref 305 306), (0, .class_ 307), (0, .nameAndType 308 309), (0, u "java/lang/Math"), (0, u "min"), (0, u "(II)I"), (29, .methodref 14 340), (0, .nameAndType 341 342), (0, u "copyOfRangeByte"), (0, u "([BII)[B"), (0, .methodref 14 344), (0, .nameAndType 345 346), (0, u "checkLength"), (0, u "(II)V"), (28, .class_ 376), (0, u "java/util/Arrays$ArrayList"), (68, u "$assertionsDisabled"), (269, u "MIN_ARRAY_SORT_GRAN"), (0, u "I"), (2, u "INSERTIONSORT_THRESHOLD"), (255, .class_ 976), (0, u "java/util/Arrays$ArrayItr")] 52

def k13m0 : Method := { name := "<init>", desc := "()V", sig := { parameters := [], returnType := none }, accessFlags := 2, code := none }
def k13c1 : Code := { maxStack := 4, maxLocals := 2, code := jdk_65_method_131_code, exceptionTable := #[], attributes := #[] }
def k13m1 : Method := { name := "checkLength", desc := "(II)V", sig := { parameters := [.int, .int], returnType := none }, accessFlags := 10, code := some k13c1 }
def k13c2 : Code := { maxStack := 3, maxLocals := 3, code := jdk_65_method_132_code, exceptionTable := #[], attributes := #[] }
def k13m2 : Method := { name := "copyOfRange", desc := "([BII)[B", sig := { parameters := [(.array .byte), .int, .int], returnType := some (.array .byte) }, accessFlags := 9, code := some k13c2 }
def k13c3 : Code := { maxStack := 6, maxLocals := 5, code := jdk_65_method_133_code, exceptionTable := #[], attributes := #[] }
def k13m3 : Method := { name := "copyOfRangeByte", desc := "([BII)[B", sig := { parameters := [(.array .byte), .int, .int], returnType := some (.array .byte) }, accessFlags := 10, code := some k13c3 }
/-- java/util/Arrays -/
def k13 : Class := { plain "java/util/Arrays" (some 0) with
  accessFlags := 49
  interfaces := #[]
  cf := some (fileOf pool13 14 #[.nestMembers #[975, 375, 113, 74]] #[{ accessFlags := 2, nameIndex := 5, descriptorIndex := 6, attributes := #[] }, { accessFlags := 10, nameIndex := 345, descriptorIndex := 346, attributes := #[] }, { accessFlags := 9, nameIndex := 139, descriptorIndex := 342, attributes := #[] }, { accessFlags := 10, nameIndex := 341, descriptorIndex := 342, attributes := #[] }] 49 2 #[] #[{ accessFlags := 26, nameIndex := 715, descriptorIndex := 716, attributes := #[] }, { accessFlags := 26, nameIndex := 719, descriptorIndex := 716, attributes := #[] }, { accessFlags := 4120, nameIndex := 445, descriptorIndex := 117, attributes := #[] }])
  fields := #[{ name := "MIN_ARRAY_SORT_GRAN", type := .int, accessFlags := 26, slot := 0, constantValue := 0 }, { name := "INSERTIONSORT_THRESHOLD", type := .int, accessFlags := 26, slot := 1, constantValue := 0 }, { name := "$assertionsDisabled", type := .boolean, accessFlags := 4120, slot := 2, constantValue := 0 }]
  methods := #[k13m0, k13m1, k13m2, k13m3]
  instanceTypes := #[]
  staticTypes := #[.int, .int, .boolean]
  resolved := Array.replicate 1029 none
  statics := none }

def pool14 : Array CpInfo := pool [(2, .class_ 4), (1, u "java/lang/Object"), (0, u "<init>"), (0, u "()V"), (1, .class_ 10), (1, u "java/lang/System"), (0, u "allowSecurityManager"), (0, u "I"), (16, u "cons"), (0, u "Ljava/io/Console;"), (77, .class_ 110), (1, u "java/lang/System$CallersHolder"), (43, u "initialErrStream"), (0, u "Ljava/io/PrintStream;"), (19, u "security"), (0, u "Ljava/lang/SecurityManager;"), (31, .class_ 209), (0, u "java/lang/System$1"), (7, u "props"), (0, u "Ljava/util/Properties;"), (2, u "lineSeparator"), (0, u "Ljava/lang/String;"), (96, .class_ 321), (1, u "java/lang/System$LoggerFinder"), (5, .class_ 328), (0, u "java/lang/System$Logger"), (67, u "err"), (2, u "out"), (91, u "notSupportedJnuEncoding"), (15, u "in"), (17, u "initialIn"), (0, u "Ljava/io/InputStream;"), (35, u "bootLayer"), (0, u "Ljava/lang/ModuleLayer;"), (99, .class_ 664), (0, u "java/lang/System$2"), (9, u "NEVER"), (2, u "MAYBE"), (49, u "arraycopy"), (0, u "(Ljava/lang/Object;ILjava/lang/Object;II)V"), (72, .class_ 802), (0, u "java/lang/System$Logger$Level")] 31

def k14m0 : Method := { name := "<init>", desc := "()V", sig := { parameters := [], returnType := none }, accessFlags := 2, code := none }
def k14m1 : Method := { name := "arraycopy", desc := "(Ljava/lang/Object;ILjava/lang/Object;II)V", sig := { parameters := [(.object "java/lang/Object"), .int, (.object "java/lang/Object"), .int, .int], returnType := none }, accessFlags := 265, code := none }
/-- java/lang/System -/
def k14 : Class := { plain "java/lang/System" (some 0) with
  accessFlags := 49
  interfaces := #[]
  cf := some (fileOf pool14 8 #[.nestMembers #[319, 327, 801, 108, 663, 208]] #[{ accessFlags := 2, nameIndex := 5, descriptorIndex := 6, attributes := #[] }, { accessFlags := 265, nameIndex := 727, descriptorIndex := 728, attributes := #[] }] 49 2 #[] #[{ accessFlags := 25, nameIndex := 507, descriptorIndex := 526, attributes := #[] }, { accessFlags := 25, nameIndex := 399, descriptorIndex := 155, attributes := #[] }, { accessFlags := 25, nameIndex := 396, descriptorIndex := 155, attributes := #[] }, { accessFlags := 10, nameIndex := 525, descriptorIndex := 526, attributes := #[] }, { accessFlags := 26, nameIndex := 674, descriptorIndex := 12, attributes := #[] }, { accessFlags := 26, nameIndex := 677, descriptorIndex := 12, attributes := #[] }, { accessFlags := 10, nameIndex := 11, descriptorIndex := 12, attributes := #[] }, { accessFlags := 74, nameIndex := 175, descriptorIndex := 176, attributes := #[] }, { accessFlags := 10, nameIndex := 491, descriptorIndex := 222, attributes := #[] }, { accessFlags := 74, nameIndex := 29, descriptorIndex := 30, attributes := #[] }, { accessFlags := 74, nameIndex := 154, descriptorIndex := 155, attributes := #[] }, { accessFlags := 10, nameIndex := 217, descriptorIndex := 218, attributes := #[] }, { accessFlags := 10, nameIndex := 221, descriptorIndex := 222, attributes := #[] }, { accessFlags := 8, nameIndex := 562, descriptorIndex := 563, attributes := #[] }])
  fields := #[{ name := "in", type := (.object "java/io/InputStream"), accessFlags := 25, slot := 0, constantValue := 0 }, { name := "out", type := (.object "java/io/PrintStream"), accessFlags := 25, slot := 1, constantValue := 0 }, { name := "err", type := (.object "java/io/PrintStream"), accessFlags := 25, slot := 2, constantValue := 0 }, { name := "initialIn", type := (.object "java/io/InputStream"), accessFlags := 10, slot := 3, constantValue := 0 }, { name := "NEVER", type := .int, accessFlags := 26, slot := 4, constantValue := 0 }, { name := "MAYBE", type := .int, accessFlags := 26, slot := 5, constantValue := 0 }, { name := "allowSecurityManager", type := .int, accessFlags := 10, slot := 6, constantValue := 0 }, { name := "security", type := (.object "java/lang/SecurityManager"), accessFlags := 74, slot := 7, constantValue := 0 }, { name := "notSupportedJnuEncoding", type := (.object "java/lang/String"), accessFlags := 10, slot := 8, constantValue := 0 }, { name := "cons", type := (.object "java/io/Console"), accessFlags := 74, slot := 9, constantValue := 0 }, { name := "initialErrStream", type := (.object "java/io/PrintStream"), accessFlags := 74, slot := 10, constantValue := 0 }, { name := "props", type := (.object "java/util/Properties"), accessFlags := 10, slot := 11, constantValue := 0 }, { name := "lineSeparator", type := (.object "java/lang/String"), accessFlags := 10, slot := 12, constantValue := 0 }, { name := "bootLayer", type := (.object "java/lang/ModuleLayer"), accessFlags := 8, slot := 13, constantValue := 0 }]
  methods := #[k14m0, k14m1]
  instanceTypes := #[]
  staticTypes := #[(.object "java/io/InputStream"), (.object "java/io/PrintStream"), (.object "java/io/PrintStream"), (.object "java/io/InputStream"), .int, .int, .int, (.object "java/lang/SecurityManager"), (.object "java/lang/String"), (.object "java/io/Console"), (.object "java/io/PrintStream"), (.object "java/util/Properties"), (.object "java/lang/String"), (.object "java/lang/ModuleLayer")]
  resolved := Array.replicate 834 none
  statics := none }

def pool15 : Array CpInfo := pool [(9, u "<init>"), (6, .class_ 18), (1, u "java/lang/Object"), (0, u "()V"), (1, .class_ 23), (1, u "jdk/internal/util/ArraysSupport"), (0, u "LOG2_ARRAY_LONG_INDEX_SCALE"), (0, u "I"), (2, u "U"), (0, u "Ljdk/internal/misc/Unsafe;"), (8, u "BIG_ENDIAN"), (0, u "Z"), (8, u "LOG2_BYTE_BIT_SIZE"), (4, u "LOG2_ARRAY_INT_INDEX_SCALE"), (54, u "JLA"), (0, u "Ljdk/internal/access/JavaLangAccess;"), (11, u "LOG2_ARRAY_BOOLEAN_INDEX_SCALE"), (9, u "LOG2_ARRAY_BYTE_INDEX_SCALE"), (5, u "LOG2_ARRAY_CHAR_INDEX_SCALE"), (5, u "LOG2_ARRAY_SHORT_INDEX_SCALE"), (18, u "LOG2_ARRAY_FLOAT_INDEX_SCALE"), (24, u "LOG2_ARRAY_DOUBLE_INDEX_SCALE"), (89, u "T_BOOLEAN"), (2, u "T_CHAR"), (1, u "T_FLOAT"), (1, u "T_DOUBLE"), (1, u "T_BYTE"), (1, u "T_SHORT"), (1, u "T_INT"), (1, u "T_LONG"), (1, u "SOFT_MAX_ARRAY_LENGTH")] 83

def k15m0 : Method := { name := "<init>", desc := "()V", sig := { parameters := [], returnType := none }, accessFlags := 2, code := none }
/-- jdk/internal/util/ArraysSupport -/
def k15 : Class := { plain "jdk/internal/util/ArraysSupport" (some 0) with
  accessFlags := 33
  interfaces := #[]
  cf := some (fileOf pool15 21 #[] #[{ accessFlags := 2, nameIndex := 9, descriptorIndex := 19, attributes := #[] }] 33 16 #[] #[{ accessFlags := 24, nameIndex := 28, descriptorIndex := 29, attributes := #[] }, { accessFlags := 26, nameIndex := 38, descriptorIndex := 39, attributes := #[] }, { accessFlags := 25, nameIndex := 121, descriptorIndex := 25, attributes := #[] }, { accessFlags := 25, nameIndex := 131, descriptorIndex := 25, attributes := #[] }, { accessFlags := 25, nameIndex := 137, descriptorIndex := 25, attributes := #[] }, { accessFlags := 25, nameIndex := 143, descriptorIndex := 25, attributes := #[] }, { accessFlags := 25, nameIndex := 53, descriptorIndex := 25, attributes := #[] }, { accessFlags := 25, nameIndex := 24, descriptorIndex := 25, attributes := #[] }, { accessFlags := 25, nameIndex := 162, descriptorIndex := 25, attributes := #[] }, { accessFlags := 25, nameIndex := 187, descriptorIndex := 25, attributes := #[] }, { accessFlags := 26, nameIndex := 48, descriptorIndex := 25, attributes := #[] }, { accessFlags := 25, nameIndex := 277, descriptorIndex := 25, attributes := #[] }, { accessFlags := 25, nameIndex := 280, descriptorIndex := 25, attributes := #[] }, { accessFlags := 25, nameIndex := 282, descriptorIndex := 25, attributes := #[] }, { accessFlags := 25, nameIndex := 284, descriptorIndex := 25, attributes := #[] }, { accessFlags := 25, nameIndex := 286, descriptorIndex := 25, attributes := #[] }, { accessFlags := 25, nameIndex := 288, descriptorIndex := 25, attributes := #[] }, { accessFlags := 25, nameIndex := 290, descriptorIndex := 25, attributes := #[] }, { accessFlags := 25, nameIndex := 292, descriptorIndex := 25, attributes := #[] }, { accessFlags := 26, nameIndex := 108, descriptorIndex := 109, attributes := #[] }, { accessFlags := 25, nameIndex := 294, descriptorIndex := 25, attributes := #[] }])
  fields := #[{ name := "U", type := (.object "jdk/internal/misc/Unsafe"), accessFlags := 24, slot := 0, constantValue := 0 }, { name := "BIG_ENDIAN", type := .boolean, accessFlags := 26, slot := 1, constantValue := 0 }, { name := "LOG2_ARRAY_BOOLEAN_INDEX_SCALE", type := .int, accessFlags := 25, slot := 2, constantValue := 0 }, { name := "LOG2_ARRAY_BYTE_INDEX_SCALE", type := .int, accessFlags := 25, slot := 3, constantValue := 0 }, { name := "LOG2_ARRAY_CHAR_INDEX_SCALE", type := .int, accessFlags := 25, slot := 4, constantValue := 0 }, { name := "LOG2_ARRAY_SHORT_INDEX_SCALE", type := .int, accessFlags := 25, slot := 5, constantValue := 0 }, { name := "LOG2_ARRAY_INT_INDEX_SCALE", type := .int, accessFlags := 25, slot := 6, constantValue := 0 }, { name := "LOG2_ARRAY_LONG_INDEX_SCALE", type := .int, accessFlags := 25, slot := 7, constantValue := 0 }, { name := "LOG2_ARRAY_FLOAT_INDEX_SCALE", type := .int, accessFlags := 25, slot := 8, constantValue := 0 }, { name := "LOG2_ARRAY_DOUBLE_INDEX_SCALE", type := .int, accessFlags := 25, slot := 9, constantValue := 0 }, { name := "LOG2_BYTE_BIT_SIZE", type := .int, accessFlags := 26, slot := 10, constantValue := 0 }, { name := "T_BOOLEAN", type := .int, accessFlags := 25, slot := 11, constantValue := 0 }, { name := "T_CHAR", type := .int, accessFlags := 25, slot := 12, constantValue := 0 }, { name := "T_FLOAT", type := .int, accessFlags := 25, slot := 13, constantValue := 0 }, { name := "T_DOUBLE", type := .int, accessFlags := 25, slot := 14, constantValue := 0 }, { name := "T_BYTE", type := .int, accessFlags := 25, slot := 15, constantValue := 0 }, { name := "T_SHORT", type := .int, accessFlags := 25, slot := 16, constantValue := 0 }, { name := "T_INT", type := .int, accessFlags := 25, slot := 17, constantValue := 0 }, { name := "T_LONG", type := .int, accessFlags := 25, slot := 18, constantValue := 0 }, { name := "JLA", type := (.object "jdk/internal/access/JavaLangAccess"), accessFlags := 26, slot := 19, constantValue := 0 }, { name := "SOFT_MAX_ARRAY_LENGTH", type := .int, accessFlags := 25, slot := 20, constantValue := 0 }]
  methods := #[k15m0]
  instanceTypes := #[]
  staticTypes := #[(.object "jdk/internal/misc/Unsafe"), .boolean, .int, .int, .int, .int, .int, .int, .int, .int, .int, .int, .int, .int, .int, .int, .int, .int, .int, (.object "jdk/internal/access/JavaLangAccess"), .int]
  resolved := Array.replicate 378 none
  statics := none }

def pool16 : Array CpInfo := pool [(1, u "java/lang/Cloneable"), (0, .class_ 1), (0, u "java/lang/Object"), (0, .class_ 3)] 3

/-- java/lang/Cloneable -/
def k16 : Class := { plain "java/lang/Cloneable" (some 0) with
  accessFlags := 1537
  interfaces := #[]
  cf := some (fileOf pool16 2 #[] #[] 1537 4 #[] #[])
  fields := #[]
  methods := #[]
  instanceTypes := #[]
  staticTypes := #[]
  resolved := Array.replicate 8 none
  statics := none }

/-- the primitive byte -/
def k17 : Class := { plain "byte" none with kind := .primitive 'B', accessFlags := 0x411 }
/-- [B -/
def k18 : Class := { plain "[B" (some 0) with kind := .array 17 .byte, interfaces := #[16, 2], accessFlags := 1041 }

/-- the primitive char -/
def k19 : Class := { plain "char" none with kind := .primitive 'C', accessFlags := 0x411 }
/-- [C -/
def k20 : Class := { plain "[C" (some 0) with kind := .array 19 .char, interfaces := #[16, 2], accessFlags := 1041 }

/-- the primitive int -/
def k21 : Class := { plain "int" none with kind := .primitive 'I', accessFlags := 0x411 }
/-- [I -/
def k22 : Class := { plain "[I" (some 0) with kind := .array 21 .int, interfaces := #[16, 2], accessFlags := 1041 }

def heap : Heap := #[{ cls := 7, slots := #[.long 0, .int 1, .null, .int 0, .null, .int 0, .int 0], vm := .statics 7 },
  { cls := 11, slots := #[.null, .null, .null], vm := .statics 11 }]
def classes : Array Class := #[k0, k1, k2, k3, k4, k5, k6, k7, k8, k9, k10, k11, k12, k13, k14, k15, k16, k17, k18, k19, k20, k21, k22]
def interned : List (Array UInt16 × Addr) := []
def slotsUsed : Nat := 10
def theMethod : MethodId := ⟨1, 1⟩
def args0 : Array Value := #[.int 0, .int 0, .int 0]
def aboutOver (below : List Frame) : State where
  vm := { classes := classes, interned := interned.toArray }
  heap := heap
  slotsUsed := slotsUsed
  threads := #[{ frames := .invoking theMethod args0 :: below }]
def below0 : List Frame := [.native { method := ⟨0, 0⟩, args := #[] }]
def about1 : State := aboutOver below0
def p0 : Program := .bare "" "" ""
def e0 : Env := launch0.env 0 0 0
theorem w_frames : about1.frames = Frame.invoking theMethod args0 :: below0 := rfl
set_option maxRecDepth 65536 in
theorem w_args : argsFit about1.vm theMethod args0 = true := by decide +kernel
set_option maxRecDepth 65536 in
theorem w_heap : heapFits about1 = true := by decide +kernel
set_option maxRecDepth 65536 in
theorem w_runnable : about1.curStatus? = some .runnable := by decide +kernel
set_option maxRecDepth 65536 in
theorem w_alone : about1.alone = true := by decide +kernel
set_option maxRecDepth 65536 in
theorem w_named : about1.methodNamed? x = some theMethod := by decide +kernel
set_option maxRecDepth 65536 in
theorem w_hears : about1.hears theMethod below0 = true := by decide +kernel
set_option maxRecDepth 65536 in
theorem w_ripe : about1.ripe theMethod args0 below0 = true := by decide +kernel
theorem w_running : about1.status = .running := rfl
set_option maxRecDepth 65536 in
theorem w_room : about1.hasRoom e0.platform room_1 = true :=
  launch0.hasRoom_least _ room_1 (by decide +kernel) (by decide +kernel) (by decide +kernel) (by decide +kernel) (by decide +kernel) (by decide +kernel)
theorem allAtoms_all (ts : List Jvm.Cond) (a : Array Jvm.Value) (st : Jvm.State) : (allAtoms ts).before a st = ts.all (fun c => c.before a st) := by
  induction ts with
  | nil => rfl
  | cons c t ih =>
    show (Jvm.Cond.and c (allAtoms t)).before a st = _
    rw [Jvm.Cond.before_and, ih, List.all_cons]
def words1 : List Jvm.Cond := Jvm.Cond.code x code maxLocals ret :: tables_1
/-- a 'code' word, met by the world's own term for the bytes: nothing is compared byte by byte -/
theorem code_word {y : MethodName} {bytes : ByteArray} {mx : Nat} {rt : Option FieldType} {a : Array Value} {s : State} {m : MethodId} {meth : Method} {c : Code} (h1 : s.methodNamed? y = some m) (h2 : s.vm.method? m = some meth) (h3 : meth.code = some c) (h4 : c.code = bytes)
    (h5 : (c.maxLocals == mx && c.exceptionTable.isEmpty && decide (c.maxStack ≤ mostOperands) && decide (meth.sig.returnType = rt) && !meth.locks && decide (parseMethodDescriptor y.desc = some meth.sig)) = true) : (Jvm.Cond.code y bytes mx rt).before a s = true := by
  simp only [Bool.and_eq_true, beq_iff_eq, Bool.not_eq_true', decide_eq_true_eq] at h5
  obtain ⟨⟨⟨⟨⟨g1, g2⟩, g3⟩, g4⟩, g5⟩, g6⟩ := h5
  simp [Cond.before, Cond.holds, Cond.value, h1, h2, h3, h4, g1, g2, g3, g4, g5, g6]
def isCode : Jvm.Cond → Bool
  | .code _ _ _ _ => true
  | _ => false
theorem all_split {L : List Jvm.Cond} {P : Jvm.Cond → Bool} (h1 : L.all (fun c => isCode c || P c) = true) (h2 : ∀ c ∈ L.filter isCode, P c = true) : L.all P = true := by
  refine List.all_eq_true.mpr fun c hc => ?_
  have h := List.all_eq_true.mp h1 c hc
  rcases Bool.eq_false_or_eq_true (isCode c) with hi | hi
  · exact h2 c (List.mem_filter.mpr ⟨hc, hi⟩)
  · simpa [hi] using h
set_option maxRecDepth 65536 in
theorem w_c0 : (Jvm.Cond.code x code maxLocals ret).before args0 about1 = true := code_word (m := ⟨1, 1⟩) (meth := k1m1) (c := k1c1) (by decide +kernel) rfl rfl rfl (by decide +kernel)
set_option maxRecDepth 65536 in
theorem w_c1 : (Jvm.Cond.code ({ cls := "com/example/commit_feed/commitfeed/config/SqlNamesUnqualifiedPinLaw", name := "pick", desc := "(III)C" } : Jvm.MethodName) method_3_code (3 : Nat) (Option.some Jvm.ClassFile.FieldType.char)).before args0 about1 = true := code_word (m := ⟨1, 2⟩) (meth := k1m2) (c := k1c2) (by decide +kernel) rfl rfl rfl (by decide +kernel)
set_option maxRecDepth 65536 in
theorem w_c2 : (Jvm.Cond.code ({ cls := "java/lang/String", name := "<init>", desc := "([C)V" } : Jvm.MethodName) jdk_42_method_3_code (2 : Nat) (Option.none : Option Jvm.ClassFile.FieldType)).before args0 about1 = true := code_word (m := ⟨7, 1⟩) (meth := k7m1) (c := k7c1) (by decide +kernel) rfl rfl rfl (by decide +kernel)
set_option maxRecDepth 65536 in
theorem w_c3 : (Jvm.Cond.code ({ cls := "java/lang/String", name := "<init>", desc := "([CIILjava/lang/Void;)V" } : Jvm.MethodName) jdk_42_method_149_code (6 : Nat) (Option.none : Option Jvm.ClassFile.FieldType)).before args0 about1 = true := code_word (m := ⟨7, 8⟩) (meth := k7m8) (c := k7c8) (by decide +kernel) rfl rfl rfl (by decide +kernel)
set_option maxRecDepth 65536 in
theorem w_c4 : (Jvm.Cond.code ({ cls := "java/lang/Object", name := "<init>", desc := "()V" } : Jvm.MethodName) object_method_1_code (1 : Nat) (Option.none : Option Jvm.ClassFile.FieldType)).before args0 about1 = true := code_word (m := ⟨0, 0⟩) (meth := k0m0) (c := k0c0) (by decide +kernel) rfl rfl rfl (by decide +kernel)
set_option maxRecDepth 65536 in
theorem w_c5 : (Jvm.Cond.code ({ cls := "com/example/commit_feed/commitfeed/config/SqlNames", name := "unqualified", desc := "(Ljava/lang/String;)Ljava/lang/String;" } : Jvm.MethodName) prog_9_method_4_code (1 : Nat) (Option.some (Jvm.ClassFile.FieldType.object "java/lang/String"))).before args0 about1 = true := code_word (m := ⟨8, 1⟩) (meth := k8m1) (c := k8c1) (by decide +kernel) rfl rfl rfl (by decide +kernel)
set_option maxRecDepth 65536 in
theorem w_c6 : (Jvm.Cond.code ({ cls := "java/lang/String", name := "indexOf", desc := "(I)I" } : Jvm.MethodName) jdk_42_method_79_code (2 : Nat) (Option.some Jvm.ClassFile.FieldType.int)).before args0 about1 = true := code_word (m := ⟨7, 4⟩) (meth := k7m4) (c := k7c4) (by decide +kernel) rfl rfl rfl (by decide +kernel)
set_option maxRecDepth 65536 in
theorem w_c7 : (Jvm.Cond.code ({ cls := "java/lang/String", name := "indexOf", desc := "(II)I" } : Jvm.MethodName) jdk_42_method_80_code (3 : Nat) (Option.some Jvm.ClassFile.FieldType.int)).before args0 about1 = true := code_word (m := ⟨7, 5⟩) (meth := k7m5) (c := k7c5) (by decide +kernel) rfl rfl rfl (by decide +kernel)
set_option maxRecDepth 65536 in
theorem w_c8 : (Jvm.Cond.code ({ cls := "java/lang/String", name := "isLatin1", desc := "()Z" } : Jvm.MethodName) jdk_42_method_154_code (1 : Nat) (Option.some Jvm.ClassFile.FieldType.boolean)).before args0 about1 = true := code_word (m := ⟨7, 11⟩) (meth := k7m11) (c := k7c11) (by decide +kernel) rfl rfl rfl (by decide +kernel)
set_option maxRecDepth 65536 in
theorem w_c9 : (Jvm.Cond.code ({ cls := "java/lang/String", name := "length", desc := "()I" } : Jvm.MethodName) jdk_42_method_54_code (1 : Nat) (Option.some Jvm.ClassFile.FieldType.int)).before args0 about1 = true := code_word (m := ⟨7, 2⟩) (meth := k7m2) (c := k7c2) (by decide +kernel) rfl rfl rfl (by decide +kernel)
set_option maxRecDepth 65536 in
theorem w_c10 : (Jvm.Cond.code ({ cls := "java/lang/String", name := "coder", desc := "()B" } : Jvm.MethodName) jdk_42_method_152_code (1 : Nat) (Option.some Jvm.ClassFile.FieldType.byte)).before args0 about1 = true := code_word (m := ⟨7, 10⟩) (meth := k7m10) (c := k7c10) (by decide +kernel) rfl rfl rfl (by decide +kernel)
set_option maxRecDepth 65536 in
theorem w_c11 : (Jvm.Cond.code ({ cls := "java/lang/StringLatin1", name := "indexOf", desc := "([BIII)I" } : Jvm.MethodName) jdk_43_method_22_code (4 : Nat) (Option.some Jvm.ClassFile.FieldType.int)).before args0 about1 = true := code_word (m := ⟨9, 3⟩) (meth := k9m3) (c := k9c3) (by decide +kernel) rfl rfl rfl (by decide +kernel)
set_option maxRecDepth 65536 in
theorem w_c12 : (Jvm.Cond.code ({ cls := "java/lang/StringLatin1", name := "canEncode", desc := "(I)Z" } : Jvm.MethodName) jdk_43_method_4_code (1 : Nat) (Option.some Jvm.ClassFile.FieldType.boolean)).before args0 about1 = true := code_word (m := ⟨9, 1⟩) (meth := k9m1) (c := k9c1) (by decide +kernel) rfl rfl rfl (by decide +kernel)
set_option maxRecDepth 65536 in
theorem w_c13 : (Jvm.Cond.code ({ cls := "java/lang/Math", name := "max", desc := "(II)I" } : Jvm.MethodName) jdk_29_method_65_code (2 : Nat) (Option.some Jvm.ClassFile.FieldType.int)).before args0 about1 = true := code_word (m := ⟨10, 1⟩) (meth := k10m1) (c := k10c1) (by decide +kernel) rfl rfl rfl (by decide +kernel)
set_option maxRecDepth 65536 in
theorem w_c14 : (Jvm.Cond.code ({ cls := "java/lang/Math", name := "min", desc := "(II)I" } : Jvm.MethodName) jdk_29_method_69_code (2 : Nat) (Option.some Jvm.ClassFile.FieldType.int)).before args0 about1 = true := code_word (m := ⟨10, 2⟩) (meth := k10m2) (c := k10c2) (by decide +kernel) rfl rfl rfl (by decide +kernel)
set_option maxRecDepth 65536 in
theorem w_c15 : (Jvm.Cond.code ({ cls := "java/lang/String", name := "substring", desc := "(I)Ljava/lang/String;" } : Jvm.MethodName) jdk_42_method_91_code (2 : Nat) (Option.some (Jvm.ClassFile.FieldType.object "java/lang/String"))).before args0 about1 = true := code_word (m := ⟨7, 6⟩) (meth := k7m6) (c := k7c6) (by decide +kernel) rfl rfl rfl (by decide +kernel)
set_option maxRecDepth 65536 in
theorem w_c16 : (Jvm.Cond.code ({ cls := "java/lang/String", name := "substring", desc := "(II)Ljava/lang/String;" } : Jvm.MethodName) jdk_42_method_92_code (5 : Nat) (Option.some (Jvm.ClassFile.FieldType.object "java/lang/String"))).before args0 about1 = true := code_word (m := ⟨7, 7⟩) (meth := k7m7) (c := k7c7) (by decide +kernel) rfl rfl rfl (by decide +kernel)
set_option maxRecDepth 65536 in
theorem w_c17 : (Jvm.Cond.code ({ cls := "java/lang/String", name := "checkBoundsBeginEnd", desc := "(III)V" } : Jvm.MethodName) jdk_42_method_158_code (3 : Nat) (Option.none : Option Jvm.ClassFile.FieldType)).before args0 about1 = true := code_word (m := ⟨7, 12⟩) (meth := k7m12) (c := k7c12) (by decide +kernel) rfl rfl rfl (by decide +kernel)
set_option maxRecDepth 65536 in
theorem w_c18 : (Jvm.Cond.code ({ cls := "jdk/internal/util/Preconditions", name := "checkFromToIndex", desc := "(IIILjava/util/function/BiFunction;)I" } : Jvm.MethodName) jdk_41_method_12_code (4 : Nat) (Option.some Jvm.ClassFile.FieldType.int)).before args0 about1 = true := code_word (m := ⟨11, 1⟩) (meth := k11m1) (c := k11c1) (by decide +kernel) rfl rfl rfl (by decide +kernel)
set_option maxRecDepth 65536 in
theorem w_c19 : (Jvm.Cond.code ({ cls := "java/lang/String", name := "equals", desc := "(Ljava/lang/Object;)Z" } : Jvm.MethodName) jdk_42_method_66_code (3 : Nat) (Option.some Jvm.ClassFile.FieldType.boolean)).before args0 about1 = true := code_word (m := ⟨7, 3⟩) (meth := k7m3) (c := k7c3) (by decide +kernel) rfl rfl rfl (by decide +kernel)
set_option maxRecDepth 65536 in
theorem w_c20 : (Jvm.Cond.code ({ cls := "java/lang/StringLatin1", name := "equals", desc := "([B[B)Z" } : Jvm.MethodName) jdk_43_method_13_code (3 : Nat) (Option.some Jvm.ClassFile.FieldType.boolean)).before args0 about1 = true := code_word (m := ⟨9, 2⟩) (meth := k9m2) (c := k9c2) (by decide +kernel) rfl rfl rfl (by decide +kernel)
set_option maxRecDepth 65536 in
theorem w_c21 : (Jvm.Cond.code ({ cls := "java/lang/StringUTF16", name := "compress", desc := "([CII)[B" } : Jvm.MethodName) jdk_52_method_16_code (6 : Nat) (Option.some (Jvm.ClassFile.FieldType.array Jvm.ClassFile.FieldType.byte))).before args0 about1 = true := code_word (m := ⟨12, 2⟩) (meth := k12m2) (c := k12c2) (by decide +kernel) rfl rfl rfl (by decide +kernel)
set_option maxRecDepth 65536 in
theorem w_c22 : (Jvm.Cond.code ({ cls := "java/lang/StringUTF16", name := "compress", desc := "([CI[BII)I" } : Jvm.MethodName) jdk_52_method_21_code (7 : Nat) (Option.some Jvm.ClassFile.FieldType.int)).before args0 about1 = true := code_word (m := ⟨12, 3⟩) (meth := k12m3) (c := k12c3) (by decide +kernel) rfl rfl rfl (by decide +kernel)
set_option maxRecDepth 65536 in
theorem w_c23 : (Jvm.Cond.code ({ cls := "java/lang/StringUTF16", name := "coderFromArrayLen", desc := "([BI)B" } : Jvm.MethodName) jdk_52_method_15_code (2 : Nat) (Option.some Jvm.ClassFile.FieldType.byte)).before args0 about1 = true := code_word (m := ⟨12, 1⟩) (meth := k12m1) (c := k12c1) (by decide +kernel) rfl rfl rfl (by decide +kernel)
set_option maxRecDepth 65536 in
theorem w_c24 : (Jvm.Cond.code ({ cls := "java/lang/StringLatin1", name := "indexOfChar", desc := "([BIII)I" } : Jvm.MethodName) jdk_43_method_23_code (6 : Nat) (Option.some Jvm.ClassFile.FieldType.int)).before args0 about1 = true := code_word (m := ⟨9, 4⟩) (meth := k9m4) (c := k9c4) (by decide +kernel) rfl rfl rfl (by decide +kernel)
set_option maxRecDepth 65536 in
theorem w_c25 : (Jvm.Cond.code ({ cls := "java/lang/StringLatin1", name := "newString", desc := "([BII)Ljava/lang/String;" } : Jvm.MethodName) jdk_43_method_47_code (3 : Nat) (Option.some (Jvm.ClassFile.FieldType.object "java/lang/String"))).before args0 about1 = true := code_word (m := ⟨9, 5⟩) (meth := k9m5) (c := k9c5) (by decide +kernel) rfl rfl rfl (by decide +kernel)
set_option maxRecDepth 65536 in
theorem w_c26 : (Jvm.Cond.code ({ cls := "java/util/Arrays", name := "copyOfRange", desc := "([BII)[B" } : Jvm.MethodName) jdk_65_method_132_code (3 : Nat) (Option.some (Jvm.ClassFile.FieldType.array Jvm.ClassFile.FieldType.byte))).before args0 about1 = true := code_word (m := ⟨13, 2⟩) (meth := k13m2) (c := k13c2) (by decide +kernel) rfl rfl rfl (by decide +kernel)
set_option maxRecDepth 65536 in
theorem w_c27 : (Jvm.Cond.code ({ cls := "java/util/Arrays", name := "copyOfRangeByte", desc := "([BII)[B" } : Jvm.MethodName) jdk_65_method_133_code (5 : Nat) (Option.some (Jvm.ClassFile.FieldType.array Jvm.ClassFile.FieldType.byte))).before args0 about1 = true := code_word (m := ⟨13, 3⟩) (meth := k13m3) (c := k13c3) (by decide +kernel) rfl rfl rfl (by decide +kernel)
set_option maxRecDepth 65536 in
theorem w_c28 : (Jvm.Cond.code ({ cls := "java/util/Arrays", name := "checkLength", desc := "(II)V" } : Jvm.MethodName) jdk_65_method_131_code (2 : Nat) (Option.none : Option Jvm.ClassFile.FieldType)).before args0 about1 = true := code_word (m := ⟨13, 1⟩) (meth := k13m1) (c := k13c1) (by decide +kernel) rfl rfl rfl (by decide +kernel)
set_option maxRecDepth 65536 in
theorem w_c29 : (Jvm.Cond.code ({ cls := "java/lang/String", name := "<init>", desc := "([BB)V" } : Jvm.MethodName) jdk_42_method_151_code (3 : Nat) (Option.none : Option Jvm.ClassFile.FieldType)).before args0 about1 = true := code_word (m := ⟨7, 9⟩) (meth := k7m9) (c := k7c9) (by decide +kernel) rfl rfl rfl (by decide +kernel)
def codes1 : List Jvm.Cond := [Jvm.Cond.code x code maxLocals ret, Jvm.Cond.code ({ cls := "com/example/commit_feed/commitfeed/config/SqlNamesUnqualifiedPinLaw", name := "pick", desc := "(III)C" } : Jvm.MethodName) method_3_code (3 : Nat) (Option.some Jvm.ClassFile.FieldType.char), Jvm.Cond.code ({ cls := "java/lang/String", name := "<init>", desc := "([C)V" } : Jvm.MethodName) jdk_42_method_3_code (2 : Nat) (Option.none : Option Jvm.ClassFile.FieldType), Jvm.Cond.code ({ cls := "java/lang/String", name := "<init>", desc := "([CIILjava/lang/Void;)V" } : Jvm.MethodName) jdk_42_method_149_code (6 : Nat) (Option.none : Option Jvm.ClassFile.FieldType), Jvm.Cond.code ({ cls := "java/lang/Object", name := "<init>", desc := "()V" } : Jvm.MethodName) object_method_1_code (1 : Nat) (Option.none : Option Jvm.ClassFile.FieldType), Jvm.Cond.code ({ cls := "com/example/commit_feed/commitfeed/config/SqlNames", name := "unqualified", desc := "(Ljava/lang/String;)Ljava/lang/String;" } : Jvm.MethodName) prog_9_method_4_code (1 : Nat) (Option.some (Jvm.ClassFile.FieldType.object "java/lang/String")), Jvm.Cond.code ({ cls := "java/lang/String", name := "indexOf", desc := "(I)I" } : Jvm.MethodName) jdk_42_method_79_code (2 : Nat) (Option.some Jvm.ClassFile.FieldType.int), Jvm.Cond.code ({ cls := "java/lang/String", name := "indexOf", desc := "(II)I" } : Jvm.MethodName) jdk_42_method_80_code (3 : Nat) (Option.some Jvm.ClassFile.FieldType.int), Jvm.Cond.code ({ cls := "java/lang/String", name := "isLatin1", desc := "()Z" } : Jvm.MethodName) jdk_42_method_154_code (1 : Nat) (Option.some Jvm.ClassFile.FieldType.boolean), Jvm.Cond.code ({ cls := "java/lang/String", name := "length", desc := "()I" } : Jvm.MethodName) jdk_42_method_54_code (1 : Nat) (Option.some Jvm.ClassFile.FieldType.int), Jvm.Cond.code ({ cls := "java/lang/String", name := "coder", desc := "()B" } : Jvm.MethodName) jdk_42_method_152_code (1 : Nat) (Option.some Jvm.ClassFile.FieldType.byte), Jvm.Cond.code ({ cls := "java/lang/StringLatin1", name := "indexOf", desc := "([BIII)I" } : Jvm.MethodName) jdk_43_method_22_code (4 : Nat) (Option.some Jvm.ClassFile.FieldType.int), Jvm.Cond.code ({ cls := "java/lang/StringLatin1", name := "canEncode", desc := "(I)Z" } : Jvm.MethodName) jdk_43_method_4_code (1 : Nat) (Option.some Jvm.ClassFile.FieldType.boolean), Jvm.Cond.code ({ cls := "java/lang/Math", name := "max", desc := "(II)I" } : Jvm.MethodName) jdk_29_method_65_code (2 : Nat) (Option.some Jvm.ClassFile.FieldType.int), Jvm.Cond.code ({ cls := "java/lang/Math", name := "min", desc := "(II)I" } : Jvm.MethodName) jdk_29_method_69_code (2 : Nat) (Option.some Jvm.ClassFile.FieldType.int), Jvm.Cond.code ({ cls := "java/lang/String", name := "substring", desc := "(I)Ljava/lang/String;" } : Jvm.MethodName) jdk_42_method_91_code (2 : Nat) (Option.some (Jvm.ClassFile.FieldType.object "java/lang/String")), Jvm.Cond.code ({ cls := "java/lang/String", name := "substring", desc := "(II)Ljava/lang/String;" } : Jvm.MethodName) jdk_42_method_92_code (5 : Nat) (Option.some (Jvm.ClassFile.FieldType.object "java/lang/String")), Jvm.Cond.code ({ cls := "java/lang/String", name := "checkBoundsBeginEnd", desc := "(III)V" } : Jvm.MethodName) jdk_42_method_158_code (3 : Nat) (Option.none : Option Jvm.ClassFile.FieldType), Jvm.Cond.code ({ cls := "jdk/internal/util/Preconditions", name := "checkFromToIndex", desc := "(IIILjava/util/function/BiFunction;)I" } : Jvm.MethodName) jdk_41_method_12_code (4 : Nat) (Option.some Jvm.ClassFile.FieldType.int), Jvm.Cond.code ({ cls := "java/lang/String", name := "equals", desc := "(Ljava/lang/Object;)Z" } : Jvm.MethodName) jdk_42_method_66_code (3 : Nat) (Option.some Jvm.ClassFile.FieldType.boolean), Jvm.Cond.code ({ cls := "java/lang/StringLatin1", name := "equals", desc := "([B[B)Z" } : Jvm.MethodName) jdk_43_method_13_code (3 : Nat) (Option.some Jvm.ClassFile.FieldType.boolean), Jvm.Cond.code ({ cls := "java/lang/StringUTF16", name := "compress", desc := "([CII)[B" } : Jvm.MethodName) jdk_52_method_16_code (6 : Nat) (Option.some (Jvm.ClassFile.FieldType.array Jvm.ClassFile.FieldType.byte)), Jvm.Cond.code ({ cls := "java/lang/StringUTF16", name := "compress", desc := "([CI[BII)I" } : Jvm.MethodName) jdk_52_method_21_code (7 : Nat) (Option.some Jvm.ClassFile.FieldType.int), Jvm.Cond.code ({ cls := "java/lang/StringUTF16", name := "coderFromArrayLen", desc := "([BI)B" } : Jvm.MethodName) jdk_52_method_15_code (2 : Nat) (Option.some Jvm.ClassFile.FieldType.byte), Jvm.Cond.code ({ cls := "java/lang/StringLatin1", name := "indexOfChar", desc := "([BIII)I" } : Jvm.MethodName) jdk_43_method_23_code (6 : Nat) (Option.some Jvm.ClassFile.FieldType.int), Jvm.Cond.code ({ cls := "java/lang/StringLatin1", name := "newString", desc := "([BII)Ljava/lang/String;" } : Jvm.MethodName) jdk_43_method_47_code (3 : Nat) (Option.some (Jvm.ClassFile.FieldType.object "java/lang/String")), Jvm.Cond.code ({ cls := "java/util/Arrays", name := "copyOfRange", desc := "([BII)[B" } : Jvm.MethodName) jdk_65_method_132_code (3 : Nat) (Option.some (Jvm.ClassFile.FieldType.array Jvm.ClassFile.FieldType.byte)), Jvm.Cond.code ({ cls := "java/util/Arrays", name := "copyOfRangeByte", desc := "([BII)[B" } : Jvm.MethodName) jdk_65_method_133_code (5 : Nat) (Option.some (Jvm.ClassFile.FieldType.array Jvm.ClassFile.FieldType.byte)), Jvm.Cond.code ({ cls := "java/util/Arrays", name := "checkLength", desc := "(II)V" } : Jvm.MethodName) jdk_65_method_131_code (2 : Nat) (Option.none : Option Jvm.ClassFile.FieldType), Jvm.Cond.code ({ cls := "java/lang/String", name := "<init>", desc := "([BB)V" } : Jvm.MethodName) jdk_42_method_151_code (3 : Nat) (Option.none : Option Jvm.ClassFile.FieldType)]
set_option maxRecDepth 65536 in
theorem codes_eq : words1.filter isCode = codes1 := rfl
theorem w_codes : ∀ c ∈ words1.filter isCode, c.before args0 about1 = true := by
  rw [codes_eq]
  intro c hc
  simp only [codes1, List.mem_cons, List.not_mem_nil, or_false] at hc
  rcases hc with rfl | rfl | rfl | rfl | rfl | rfl | rfl | rfl | rfl | rfl | rfl | rfl | rfl | rfl | rfl | rfl | rfl | rfl | rfl | rfl | rfl | rfl | rfl | rfl | rfl | rfl | rfl | rfl | rfl | rfl
  · exact w_c0
  · exact w_c1
  · exact w_c2
  · exact w_c3
  · exact w_c4
  · exact w_c5
  · exact w_c6
  · exact w_c7
  · exact w_c8
  · exact w_c9
  · exact w_c10
  · exact w_c11
  · exact w_c12
  · exact w_c13
  · exact w_c14
  · exact w_c15
  · exact w_c16
  · exact w_c17
  · exact w_c18
  · exact w_c19
  · exact w_c20
  · exact w_c21
  · exact w_c22
  · exact w_c23
  · exact w_c24
  · exact w_c25
  · exact w_c26
  · exact w_c27
  · exact w_c28
  · exact w_c29
set_option maxRecDepth 65536 in
theorem w_t1 : (words1.take 24).all (fun c => isCode c || c.before args0 about1) = true := by decide +kernel
set_option maxRecDepth 65536 in
theorem w_t2 : ((words1.drop 24).take 24).all (fun c => isCode c || c.before args0 about1) = true := by decide +kernel
set_option maxRecDepth 65536 in
theorem w_t3 : (((words1.drop 24).drop 24).take 24).all (fun c => isCode c || c.before args0 about1) = true := by decide +kernel
set_option maxRecDepth 65536 in
theorem w_t4 : ((((words1.drop 24).drop 24).drop 24).take 24).all (fun c => isCode c || c.before args0 about1) = true := by decide +kernel
set_option maxRecDepth 65536 in
theorem w_t5 : (((((words1.drop 24).drop 24).drop 24).drop 24).take 24).all (fun c => isCode c || c.before args0 about1) = true := by decide +kernel
set_option maxRecDepth 65536 in
theorem w_t6 : (((((words1.drop 24).drop 24).drop 24).drop 24).drop 24).all (fun c => isCode c || c.before args0 about1) = true := by decide +kernel
theorem w_tables : (allAtoms (Jvm.Cond.code x code maxLocals ret :: tables_1)).before args0 about1 = true := by
  rw [allAtoms_all]
  show words1.all (fun c => c.before args0 about1) = true
  refine all_split ?_ w_codes
  rw [← List.take_append_drop 24 words1, List.all_append, w_t1, ← List.take_append_drop 24 (words1.drop 24), List.all_append, w_t2, ← List.take_append_drop 24 ((words1.drop 24).drop 24), List.all_append, w_t3, ← List.take_append_drop 24 (((words1.drop 24).drop 24).drop 24), List.all_append, w_t4, ← List.take_append_drop 24 ((((words1.drop 24).drop 24).drop 24).drop 24), List.all_append, w_t5, w_t6]
  rfl
set_option maxRecDepth 65536 in
theorem w_rest : rest_1_c.before args0 about1 = true := by decide +kernel
set_option maxRecDepth 65536 in
theorem w_case : (Jvm.Cond.and given_1 narrow_1).before args0 about1 = true := by decide +kernel
set_option maxRecDepth 65536 in
theorem w_consts : constsHeld consts_1 about1 := Jvm.Lit.constsHeldB_iff.mp (by decide +kernel)
theorem w_applies : (headSpec (Jvm.Cond.code x code maxLocals ret :: tables_1) room_1).applies x e0.platform about1 = true :=
  (Spec.applies_iff w_frames).mpr ⟨w_running, w_runnable, w_alone, w_named, w_hears, w_ripe, w_room, w_tables⟩
theorem atStart : AtStart classFile x code maxLocals ret World_1 tables_1 room_1 Calls_1 rest_1 Pre_1 launch0 p0 e0 about1 theMethod args0 below0 :=
  ⟨lists_1, trivial, launch0.admits_env _ _ _, launch0.least_env, fairChoices_fair.cas, fairChoices_fair.clock, w_frames, w_args, w_heap, w_applies, ⟨w_consts, trivial⟩, w_rest, w_case⟩
end start1
theorem witness_1 : WitnessClaimed_1 := ⟨start1.p0, start1.e0, start1.about1, start1.theMethod, start1.args0, start1.below0, start1.atStart⟩
end Jvm.Pilot.@@N@@
