import JvmDerived
import JvmDerived.Pilot.@@N@@Statement
import JvmDerived.Pilot.@@N@@Code
set_option linter.unusedVariables false
set_option linter.unusedSimpArgs false
/- laws to paste: Road.backV, Road.lenW, Road.eqW, Road.codOf (cut by pick.py; bodies as the Statement names them) -/
namespace Jvm.Pilot.@@N@@
namespace StrChars
open Jvm Sem ClassFile Op Lib Jvm.Stand Jvm.Free.XT Jvm.Free.ALB Jvm.Free.JM Jvm.Free
open Jvm.Lib.Cold (StaticIs)
/-- a char array whose places are chars -/
def Ch (a : Addr) (A : Cell) (U : State) : Prop := Arr .char a A U ∧ Typed .char A
theorem Ch.mv {a : Addr} {A : Cell} {U U' : State} (h : Ch a A U) (hal : U.vm.Alike U'.vm) (hh : U'.heap = U.heap) : Ch a A U' := ⟨h.1.mv hal hh, h.2⟩
theorem Ch.keep {a : Addr} {A : Cell} {U U' : State} (h : Ch a A U) (hal : U.vm.Alike U'.vm) (hk : U'.heap[a]? = some A) : Ch a A U' := ⟨h.1.keep hal hk, h.2⟩
/-- what place i of a char[]'s cell holds -/
def cv (A : Cell) (i : Nat) : Int32 := match A.slots[i]? with | some (.int x) => x | _ => 0
theorem Ch.get {a : Addr} {A : Cell} {U : State} (h : Ch a A U) {i : Nat} (hi : i < A.slots.size) : A.slots[i]? = some (.int (cv A i)) := by
  have e := Array.getElem?_eq_getElem hi
  have f := h.2 i _ e
  unfold cv; rw [e]
  generalize A.slots[i] = v at f
  cases v <;> simp [fits] at f ⊢
/-- the byte that i2b leaves of a char -/
def lo8 (x : Int32) : Int32 := x.toInt8.toInt32
theorem fits_lo8 (y : Int32) : fits .byte (.int (lo8 y)) = true := by
  have h1 := y.toInt8.le_toInt
  have h2 := y.toInt8.toInt_lt
  simp only [lo8, fits, Bool.and_eq_true, decide_eq_true_eq, Int32.le_iff_toInt_le, Int8.toInt_toInt32, show (-128 : Int32).toInt = -128 from by decide, show (127 : Int32).toInt = 127 from by decide]
  omega
/-- A' is A but that each place j of lo .. hi - 1 holds f j -/
def Laid (A A' : Cell) (lo hi : Nat) (f : Nat → Value) : Prop := A'.cls = A.cls ∧ A'.vm = A.vm ∧ A'.slots.size = A.slots.size ∧ ∀ i, A'.slots[i]? = if lo ≤ i ∧ i < hi then some (f i) else A.slots[i]?
theorem Laid.zero (A : Cell) (lo : Nat) (f : Nat → Value) : Laid A A lo (lo + 0) f := ⟨rfl, rfl, rfl, fun i => by rw [if_neg (by omega)]⟩
theorem Laid.step {A Ak : Cell} {lo k : Nat} {f : Nat → Value} {v : Value} (h : Laid A Ak lo k f) (hlo : lo ≤ k) (hk : k < Ak.slots.size) (hv : v = f k) : Laid A (Ak.setSlot k v) lo (k + 1) f := by
  refine ⟨h.1, h.2.1, by simpa [Cell.setSlot] using h.2.2.1, fun i => ?_⟩
  by_cases e : k = i
  · subst e; rw [Cell.slots_setSlot_self v hk, if_pos (by omega), hv]
  · rw [Cell.slots_setSlot_ne v e, h.2.2.2 i]
    by_cases q : lo ≤ i ∧ i < k
    · rw [if_pos q, if_pos (by omega)]
    · rw [if_neg q, if_neg (by omega)]
def U16 : String := "java/lang/StringUTF16"
namespace Cmp5
def yN : MethodName := ⟨"java/lang/StringUTF16", "compress", "([CI[BII)I"⟩
abbrev yB : ByteArray := jdk_52_method_21_code
theorem d0 : decode yB 0 = .ok (.iconst 0, 1) := by decide +kernel
theorem d1 : decode yB 1 = .ok (.istore 5, 2) := by decide +kernel
theorem d3 : decode yB 3 = .ok (.iload 5, 2) := by decide +kernel
theorem d5 : decode yB 5 = .ok (.iload 4, 2) := by decide +kernel
theorem d7 : decode yB 7 = .ok (.if_icmp (.ge) 37, 3) := by decide +kernel
theorem d10 : decode yB 10 = .ok (.aload_n 0, 1) := by decide +kernel
theorem d11 : decode yB 11 = .ok (.iload_n 1, 1) := by decide +kernel
theorem d12 : decode yB 12 = .ok (.caload, 1) := by decide +kernel
theorem d13 : decode yB 13 = .ok (.istore 6, 2) := by decide +kernel
theorem d15 : decode yB 15 = .ok (.iload 6, 2) := by decide +kernel
theorem d17 : decode yB 17 = .ok (.sipush 255, 3) := by decide +kernel
theorem d20 : decode yB 20 = .ok (.if_icmp (.le) 6, 3) := by decide +kernel
theorem d26 : decode yB 26 = .ok (.aload_n 2, 1) := by decide +kernel
theorem d27 : decode yB 27 = .ok (.iload_n 3, 1) := by decide +kernel
theorem d28 : decode yB 28 = .ok (.iload 6, 2) := by decide +kernel
theorem d30 : decode yB 30 = .ok (.i2b, 1) := by decide +kernel
theorem d31 : decode yB 31 = .ok (.bastore, 1) := by decide +kernel
theorem d32 : decode yB 32 = .ok (.iinc 1 1, 3) := by decide +kernel
theorem d35 : decode yB 35 = .ok (.iinc 3 1, 3) := by decide +kernel
theorem d38 : decode yB 38 = .ok (.iinc 5 1, 3) := by decide +kernel
theorem d41 : decode yB 41 = .ok (.goto (-38), 3) := by decide +kernel
theorem d44 : decode yB 44 = .ok (.iload 4, 2) := by decide +kernel
theorem d46 : decode yB 46 = .ok (.ireturn, 1) := by decide +kernel
def site : List Cond := []
def tab : Cond := tabOf yN yB 7 (some .int) site
def P (b : Addr) (A : Cell) (d : Addr) (B : Cell) (o q len : Nat) (args : Array Value) (s : State) : Prop := args = #[.ref b, .int (Int32.ofNat o), .ref d, .int (Int32.ofNat q), .int (Int32.ofNat len)] ∧ Ch b A s ∧ Arr .byte d B s ∧ b ≠ d ∧ o + len ≤ A.slots.size ∧ q + len ≤ B.slots.size ∧ ∀ i, i < len → ¬ 255 < cv A (o + i)
def E (b : Addr) (A : Cell) (d : Addr) (B : Cell) (o q len : Nat) (r : Option Value) (s u : State) : Prop := r = some (.int (Int32.ofNat len)) ∧ ∃ B', Put d B' s u ∧ Laid B B' q (q + len) (fun j => Value.int (lo8 (cv A (o + (j - q)))))
/-- no char of the range above 255: len; the places written hold each char's low byte -/
theorem law (l : Launch) (b : Addr) (A : Cell) (d : Addr) (B : Cell) (o q len : Nat) : Law l yN 5 5 0 0 yB 7 (some .int) site (P b A d B o q len) (E b A d B o q len) (copyLocs d q len) 0 0 := by
  refine Law.of_walk (plainFor_of_name (by decide +kernel)) (by decide +kernel) (by decide +kernel) (by decide) (fun _ _ h => by rw [h.1]; rfl) (fun _ U U' hal hh h => ⟨h.1, h.2.1.mv hal hh, h.2.2.1.mv hal hh, h.2.2.2⟩) (fun r U U' V V' h1 hal h2 h => ⟨h.1, h.2.elim fun B' q => ⟨B', q.1.mv h1 h2, q.2⟩⟩) ?_
  intro p e s m args below meth c s₁ X0 hexec hbytes hml hret hlk hnm hown hh0 W hP
  obtain ⟨rfl, hA, hB, hne, l1, l2, hp⟩ := hP
  have c1 : Steps p.tables e below (s₁.setTop (entryFrame m #[.ref b, .int (Int32.ofNat o), .ref d, .int (Int32.ofNat q), .int (Int32.ofNat len)] 7)) (s₁.setTop (mkF m 0 #[.val (.ref b), .val (.int (Int32.ofNat o)), .val (.ref d), .val (.int (Int32.ofNat q)), .val (.int (Int32.ofNat len)), .unset, .unset] [])) := entry rfl
  have hA0 := hA.1.mv X0.warmed.alike hh0
  have hB0 := hB.mv X0.warmed.alike hh0
  have a31 := hA.1.2.2.2
  have c2 : Steps p.tables e below (s₁.setTop (entryFrame m #[.ref b, .int (Int32.ofNat o), .ref d, .int (Int32.ofNat q), .int (Int32.ofNat len)] 7)) (s₁.setTop (mkF m 3 #[.val (.ref b), .val (.int (Int32.ofNat o)), .val (.ref d), .val (.int (Int32.ofNat q)), .val (.int (Int32.ofNat len)), .val (.int 0), .unset] [])) := c1.trans (by
    refine iconstV X0.here hexec rfl 0 (hb hbytes d0) (by decide) ?_
    refine XS.istore X0.here hexec rfl (hb hbytes d1) rfl rfl ?_
    exact Steps.refl _)
  have loop : ∀ (r i : Nat), i + r = len → ∀ (z : Slot), (z = .unset ∨ ∃ w, z = .val w ∧ w.category = 1) → ∀ (Tl : State) (Bk : Cell), Stand p l e { frames := 0, locals := 0, cells := 0, slots := 0 } s m #[.ref b, .int (Int32.ofNat o), .ref d, .int (Int32.ofNat q), .int (Int32.ofNat len)] below meth c Tl ([] ++ copyLocs d q i) 0 0 → Put d Bk s₁ Tl → Laid B Bk q (q + i) (fun j => Value.int (lo8 (cv A (o + (j - q))))) →
      Steps p.tables e below (s₁.setTop (entryFrame m #[.ref b, .int (Int32.ofNat o), .ref d, .int (Int32.ofNat q), .int (Int32.ofNat len)] 7)) (Tl.setTop (mkF m 3 #[.val (.ref b), .val (.int (Int32.ofNat (o + i))), .val (.ref d), .val (.int (Int32.ofNat (q + i))), .val (.int (Int32.ofNat len)), .val (.int (Int32.ofNat i)), z] [])) → ∃ (T' : State) (B' : Cell) (z' : Slot), Stand p l e { frames := 0, locals := 0, cells := 0, slots := 0 } s m #[.ref b, .int (Int32.ofNat o), .ref d, .int (Int32.ofNat q), .int (Int32.ofNat len)] below meth c T' ([] ++ copyLocs d q len) 0 0 ∧ Put d B' s₁ T' ∧ Laid B B' q (q + len) (fun j => Value.int (lo8 (cv A (o + (j - q))))) ∧
      Steps p.tables e below (s₁.setTop (entryFrame m #[.ref b, .int (Int32.ofNat o), .ref d, .int (Int32.ofNat q), .int (Int32.ofNat len)] 7)) (T'.setTop (mkF m 3 #[.val (.ref b), .val (.int (Int32.ofNat (o + len))), .val (.ref d), .val (.int (Int32.ofNat (q + len))), .val (.int (Int32.ofNat len)), .val (.int (Int32.ofNat len)), z'] [])) := by
    intro r
    induction r with
    | zero =>
      intro i hi z hz Tl Bk Xl pl fl cl
      have hil : i = len := by omega
      rw [hil] at Xl fl cl
      exact ⟨Tl, Bk, z, Xl, pl, fl, cl⟩
    | succ r ih =>
      intro i hi z hz Tl Bk Xl pl fl cl
      have all := X0.warmed.alike.symm.trans Xl.warmed.alike
      have hAl := hA0.keep all (pl.other hne hA0.1)
      have hBk := hB0.like all pl.1 fl.1 fl.2.1 fl.2.2.1
      have hlt : q + i < Bk.slots.size := by rw [fl.2.2.1]; omega
      have c3 : Steps p.tables e below (s₁.setTop (entryFrame m #[.ref b, .int (Int32.ofNat o), .ref d, .int (Int32.ofNat q), .int (Int32.ofNat len)] 7)) (Tl.setTop (mkF m 12 #[.val (.ref b), .val (.int (Int32.ofNat (o + i))), .val (.ref d), .val (.int (Int32.ofNat (q + i))), .val (.int (Int32.ofNat len)), .val (.int (Int32.ofNat i)), z] [.int (Int32.ofNat (o + i)), .ref b])) := cl.trans (by
        refine XS.iload Xl.here hexec rfl (hb hbytes d3) rfl ?_
        refine XS.iload Xl.here hexec rfl (hb hbytes d5) rfl ?_
        refine XS.icmpNo Xl.here hexec rfl (hb hbytes d7) rfl (ii_ge_f (lt32 (by omega) (by omega))) ?_
        refine XS.aloadN Xl.here hexec rfl (hb hbytes d10) rfl rfl ?_
        refine XS.iloadN Xl.here hexec rfl (hb hbytes d11) rfl ?_
        exact Steps.refl _)
      have c4 : Steps p.tables e below (s₁.setTop (entryFrame m #[.ref b, .int (Int32.ofNat o), .ref d, .int (Int32.ofNat q), .int (Int32.ofNat len)] 7)) (Tl.setTop (mkF m 13 #[.val (.ref b), .val (.int (Int32.ofNat (o + i))), .val (.ref d), .val (.int (Int32.ofNat (q + i))), .val (.int (Int32.ofNat len)), .val (.int (Int32.ofNat i)), z] [.int (cv A (o + i))])) := c3.trans (by
        refine Xl.aget hexec hAl rfl (hA.get (i := o + i) (by omega)) rfl rfl (hb hbytes d12) ?_
        exact Steps.refl _)
      have c5 : Steps p.tables e below (s₁.setTop (entryFrame m #[.ref b, .int (Int32.ofNat o), .ref d, .int (Int32.ofNat q), .int (Int32.ofNat len)] 7)) (Tl.setTop (mkF m 15 #[.val (.ref b), .val (.int (Int32.ofNat (o + i))), .val (.ref d), .val (.int (Int32.ofNat (q + i))), .val (.int (Int32.ofNat len)), .val (.int (Int32.ofNat i)), .val (.int (cv A (o + i)))] [])) := c4.trans (by
        refine XS.istoreS Xl.here hexec rfl (hb hbytes d13) rfl rfl hz ?_
        exact Steps.refl _)
      have c6 : Steps p.tables e below (s₁.setTop (entryFrame m #[.ref b, .int (Int32.ofNat o), .ref d, .int (Int32.ofNat q), .int (Int32.ofNat len)] 7)) (Tl.setTop (mkF m 31 #[.val (.ref b), .val (.int (Int32.ofNat (o + i))), .val (.ref d), .val (.int (Int32.ofNat (q + i))), .val (.int (Int32.ofNat len)), .val (.int (Int32.ofNat i)), .val (.int (cv A (o + i)))] [.int (lo8 (cv A (o + i))), .int (Int32.ofNat (q + i)), .ref d])) := c5.trans (by
        refine XS.iload Xl.here hexec rfl (hb hbytes d15) rfl ?_
        refine sipushV Xl.here hexec rfl 255 (hb hbytes d17) (by decide) ?_
        refine XS.icmpYes Xl.here hexec rfl (pc0 := 20) rfl (hb hbytes d20) rfl (ii_le_t (hp i (by omega))) (by decide) rfl ?_
        refine XS.aloadN Xl.here hexec rfl (hb hbytes d26) rfl rfl ?_
        refine XS.iloadN Xl.here hexec rfl (hb hbytes d27) rfl ?_
        refine XS.iload Xl.here hexec rfl (hb hbytes d28) rfl ?_
        refine i2b Xl.here hexec rfl (hb hbytes d30) rfl ?_
        exact Steps.refl _)
      obtain ⟨T7, X7, p7, st7⟩ := Xl.aput hexec hBk rfl hlt rfl (fits_lo8 (cv A (o + i))) (g := (mkF m 31 #[.val (.ref b), .val (.int (Int32.ofNat (o + i))), .val (.ref d), .val (.int (Int32.ofNat (q + i))), .val (.int (Int32.ofNat len)), .val (.int (Int32.ofNat i)), .val (.int (cv A (o + i)))] [.int (lo8 (cv A (o + i))), .int (Int32.ofNat (q + i)), .ref d])) rfl (rest := []) rfl (hb hbytes d31)
      have c8 : Steps p.tables e below (s₁.setTop (entryFrame m #[.ref b, .int (Int32.ofNat o), .ref d, .int (Int32.ofNat q), .int (Int32.ofNat len)] 7)) (T7.setTop (mkF m 32 #[.val (.ref b), .val (.int (Int32.ofNat (o + i))), .val (.ref d), .val (.int (Int32.ofNat (q + i))), .val (.int (Int32.ofNat len)), .val (.int (Int32.ofNat i)), .val (.int (cv A (o + i)))] [])) := c6.trans (st7 _ (Steps.refl _))
      have c9 : Steps p.tables e below (s₁.setTop (entryFrame m #[.ref b, .int (Int32.ofNat o), .ref d, .int (Int32.ofNat q), .int (Int32.ofNat len)] 7)) (T7.setTop (mkF m 3 #[.val (.ref b), .val (.int (Int32.ofNat (o + i) + 1)), .val (.ref d), .val (.int (Int32.ofNat (q + i) + 1)), .val (.int (Int32.ofNat len)), .val (.int (Int32.ofNat i + 1)), .val (.int (cv A (o + i)))] [])) := c8.trans (by
        refine iincV X7.here hexec rfl 1 (hb hbytes d32) (by decide) rfl rfl ?_
        refine iincV X7.here hexec rfl 1 (hb hbytes d35) (by decide) rfl rfl ?_
        refine iincV X7.here hexec rfl 1 (hb hbytes d38) (by decide) rfl rfl ?_
        refine XS.goto X7.here hexec rfl (pc0 := 41) rfl (hb hbytes d41) (by decide) rfl ?_
        exact Steps.refl _)
      have c10 : Steps p.tables e below (s₁.setTop (entryFrame m #[.ref b, .int (Int32.ofNat o), .ref d, .int (Int32.ofNat q), .int (Int32.ofNat len)] 7)) (T7.setTop (mkF m 3 #[.val (.ref b), .val (.int (Int32.ofNat (o + (i + 1)))), .val (.ref d), .val (.int (Int32.ofNat (q + (i + 1)))), .val (.int (Int32.ofNat len)), .val (.int (Int32.ofNat (i + 1))), .val (.int (cv A (o + i)))] [])) := by
        have := c9
        rw [succ32, succ32, succ32] at this
        exact this
      exact ih (i + 1) (by omega) _ (Or.inr ⟨_, rfl, rfl⟩) T7 _ (by rw [copyLocs_step, ← List.append_assoc]; exact X7) (pl.trans p7) (fl.step (by omega) hlt (by simp)) c10
  obtain ⟨T9, B9, z9, X9, p9, f9, g9⟩ := loop len 0 (by omega) .unset (Or.inl rfl) s₁ B (by simpa [copyLocs] using X0) ⟨hB0.1, fun _ _ => rfl, rfl⟩ (Laid.zero _ _ _) c2
  have c11 : Steps p.tables e below (s₁.setTop (entryFrame m #[.ref b, .int (Int32.ofNat o), .ref d, .int (Int32.ofNat q), .int (Int32.ofNat len)] 7)) (T9.setTop (mkF m 46 #[.val (.ref b), .val (.int (Int32.ofNat (o + len))), .val (.ref d), .val (.int (Int32.ofNat (q + len))), .val (.int (Int32.ofNat len)), .val (.int (Int32.ofNat len)), z9] [.int (Int32.ofNat len)])) := g9.trans (by
    refine XS.iload X9.here hexec rfl (hb hbytes d3) rfl ?_
    refine XS.iload X9.here hexec rfl (hb hbytes d5) rfl ?_
    refine XS.icmpYes X9.here hexec rfl (pc0 := 7) rfl (hb hbytes d7) rfl (ii_ge_t (nlt32 (by omega) (Nat.le_refl _))) (by decide) rfl ?_
    refine XS.iload X9.here hexec rfl (hb hbytes d44) rfl ?_
    exact Steps.refl _)
  exact ⟨T9, some (.int (Int32.ofNat len)), _, _, _, X9, by simp, rfl, rfl, (fun h => by cases h), ⟨rfl, B9, p9.from hh0, f9⟩, fun fs hl => c11.trans (X9.ireturnOut hexec hret rfl (Or.inl rfl) (hb hbytes d46) hl)⟩
end Cmp5
namespace Cmp3
def yN : MethodName := ⟨"java/lang/StringUTF16", "compress", "([CII)[B"⟩
abbrev yB : ByteArray := jdk_52_method_16_code
theorem d0 : decode yB 0 = .ok (.iload_n 2, 1) := by decide +kernel
theorem d1 : decode yB 1 = .ok (.newarray .byte, 2) := by decide +kernel
theorem d3 : decode yB 3 = .ok (.astore_n 3, 1) := by decide +kernel
theorem d4 : decode yB 4 = .ok (.aload_n 0, 1) := by decide +kernel
theorem d5 : decode yB 5 = .ok (.iload_n 1, 1) := by decide +kernel
theorem d6 : decode yB 6 = .ok (.aload_n 3, 1) := by decide +kernel
theorem d7 : decode yB 7 = .ok (.iconst 0, 1) := by decide +kernel
theorem d8 : decode yB 8 = .ok (.iload_n 2, 1) := by decide +kernel
theorem d9 : decode yB 9 = .ok (.invokestatic 115, 3) := by decide +kernel
theorem d12 : decode yB 12 = .ok (.istore 4, 2) := by decide +kernel
theorem d14 : decode yB 14 = .ok (.iload 4, 2) := by decide +kernel
theorem d16 : decode yB 16 = .ok (.iload_n 2, 1) := by decide +kernel
theorem d17 : decode yB 17 = .ok (.if_icmp (.eq) 40, 3) := by decide +kernel
theorem d57 : decode yB 57 = .ok (.aload_n 3, 1) := by decide +kernel
theorem d58 : decode yB 58 = .ok (.areturn, 1) := by decide +kernel
def site : List Cond := [.arrayClass .byte, Cmp5.tab] ++ staticW U16 115 Cmp5.yN
def tab : Cond := tabOf yN yB 6 (some (.array .byte)) site
def P (b : Addr) (A : Cell) (o len : Nat) (args : Array Value) (s : State) : Prop := args = #[.ref b, .int (Int32.ofNat o), .int (Int32.ofNat len)] ∧ Ch b A s ∧ o + len ≤ A.slots.size ∧ len ≤ 536870912 ∧ ∀ i, i < len → ¬ 255 < cv A (o + i)
def E (b : Addr) (A : Cell) (o len : Nat) (r : Option Value) (s u : State) : Prop := NewArr .byte "[B" len (fun j => .int (lo8 (cv A (o + j)))) r s u ∧ u.heap.size = s.heap.size + 1
/-- no char of the range above 255: a new byte[] of their low bytes -/
theorem law (l : Launch) (b : Addr) (A : Cell) (o len : Nat) : Law l yN 3 3 1 18 yB 6 (some (.array .byte)) site (P b A o len) (E b A o len) [] 1 len := by
  refine Law.of_walk (plainFor_of_name (by decide +kernel)) (by decide +kernel) (by decide +kernel) (by decide) (fun _ _ h => by rw [h.1]; rfl) (fun _ U U' hal hh h => ⟨h.1, h.2.1.mv hal hh, h.2.2⟩) (fun r U U' V V' h1 hal h2 h => ⟨NewArr.mv r U U' V V' h1 hal h2 h.1, by rw [h1, h2]; exact h.2⟩) ?_
  intro p e s m args below meth c s₁ X0 hexec hbytes hml hret hlk hnm hown hh0 W hP
  obtain ⟨rfl, hA, l1, l2, hp⟩ := hP
  have a31 := hA.1.2.2.2
  have c1 : Steps p.tables e below (s₁.setTop (entryFrame m #[.ref b, .int (Int32.ofNat o), .int (Int32.ofNat len)] 6)) (s₁.setTop (mkF m 0 #[.val (.ref b), .val (.int (Int32.ofNat o)), .val (.int (Int32.ofNat len)), .unset, .unset, .unset] [])) := entry rfl
  have c2 : Steps p.tables e below (s₁.setTop (entryFrame m #[.ref b, .int (Int32.ofNat o), .int (Int32.ofNat len)] 6)) (s₁.setTop (mkF m 1 #[.val (.ref b), .val (.int (Int32.ofNat o)), .val (.int (Int32.ofNat len)), .unset, .unset, .unset] [.int (Int32.ofNat len)])) := c1.trans (by
    refine XS.iloadN X0.here hexec rfl (hb hbytes d0) rfl ?_
    exact Steps.refl _)
  obtain ⟨T3, B3, X3, ba3, bs3, bv3, bh3, bf3, st3⟩ := X0.anew hexec (atype := .byte) (wk W (.arrayClass .byte)) rfl (by show len * 1 ≤ _; omega) (by omega) (g := (mkF m 1 #[.val (.ref b), .val (.int (Int32.ofNat o)), .val (.int (Int32.ofNat len)), .unset, .unset, .unset] [.int (Int32.ofNat len)])) rfl (hb hbytes d1) (rest := []) rfl (Nat.le_refl _) (by show 0 + len ≤ len; omega)
  rw [hh0] at ba3 st3
  have kp3 : XT.Kept s T3 := (XT.Kept.of_eq hh0).push bh3
  have hA3 := hA.keep X3.warmed.alike (kp3 _ _ hA.1.1)
  have hne : b ≠ s.heap.size := hA.1.ne
  have c4 : Steps p.tables e below (s₁.setTop (entryFrame m #[.ref b, .int (Int32.ofNat o), .int (Int32.ofNat len)] 6)) (T3.setTop (mkF m 3 #[.val (.ref b), .val (.int (Int32.ofNat o)), .val (.int (Int32.ofNat len)), .unset, .unset, .unset] [.ref s.heap.size])) := c2.trans (st3 _ (Steps.refl _))
  have c5 : Steps p.tables e below (s₁.setTop (entryFrame m #[.ref b, .int (Int32.ofNat o), .int (Int32.ofNat len)] 6)) (T3.setTop (mkF m 9 #[.val (.ref b), .val (.int (Int32.ofNat o)), .val (.int (Int32.ofNat len)), .val (.ref s.heap.size), .unset, .unset] [.int (Int32.ofNat len), .int 0, .ref s.heap.size, .int (Int32.ofNat o), .ref b])) := c4.trans (by
    refine XS.astoreN X3.here hexec rfl (hb hbytes d3) rfl rfl rfl ?_
    refine XS.aloadN X3.here hexec rfl (hb hbytes d4) rfl rfl ?_
    refine XS.iloadN X3.here hexec rfl (hb hbytes d5) rfl ?_
    refine XS.aloadN X3.here hexec rfl (hb hbytes d6) rfl rfl ?_
    refine iconstV X3.here hexec rfl 0 (hb hbytes d7) (by decide) ?_
    refine XS.iloadN X3.here hexec rfl (hb hbytes d8) rfl ?_
    exact Steps.refl _)
  obtain ⟨v6, T6, X6, E6, g6⟩ := X3.callS hexec (Cmp5.law l b A s.heap.size B3 o 0 len) hown (wks W (staticW U16 115 Cmp5.yN)) (wk W Cmp5.tab) (W := 0) (Nat.le_of_ble_eq_true rfl) (Nat.le_of_ble_eq_true rfl) (Nat.le_refl _) (by show 0 + len + 0 ≤ len; omega) (g := (mkF m 9 #[.val (.ref b), .val (.int (Int32.ofNat o)), .val (.int (Int32.ofNat len)), .val (.ref s.heap.size), .unset, .unset] [.int (Int32.ofNat len), .int (Int32.ofNat 0), .ref s.heap.size, .int (Int32.ofNat o), .ref b])) rfl (by rw [hml]; rfl) c5 (argsL := [.ref b, .int (Int32.ofNat o), .ref s.heap.size, .int (Int32.ofNat 0), .int (Int32.ofNat len)]) (rest := []) rfl rfl (by show 2 * 0 + 0 ≤ _; decide) (hb hbytes d9) (⟨rfl, hA3, ba3, hne, l1, by rw [bs3]; simp, hp⟩)
  obtain ⟨rfl, B6, p6, f6⟩ := E6
  have c7 : Steps p.tables e below (s₁.setTop (entryFrame m #[.ref b, .int (Int32.ofNat o), .int (Int32.ofNat len)] 6)) (T6.setTop (mkF m 12 #[.val (.ref b), .val (.int (Int32.ofNat o)), .val (.int (Int32.ofNat len)), .val (.ref s.heap.size), .unset, .unset] [.int (Int32.ofNat len)])) := g6
  have c8 : Steps p.tables e below (s₁.setTop (entryFrame m #[.ref b, .int (Int32.ofNat o), .int (Int32.ofNat len)] 6)) (T6.setTop (mkF m 58 #[.val (.ref b), .val (.int (Int32.ofNat o)), .val (.int (Int32.ofNat len)), .val (.ref s.heap.size), .val (.int (Int32.ofNat len)), .unset] [.ref s.heap.size])) := c7.trans (by
    refine XS.istore X6.here hexec rfl (hb hbytes d12) rfl rfl ?_
    refine XS.iload X6.here hexec rfl (hb hbytes d14) rfl ?_
    refine XS.iloadN X6.here hexec rfl (hb hbytes d16) rfl ?_
    refine XS.icmpYes X6.here hexec rfl (pc0 := 17) rfl (hb hbytes d17) rfl (ii_eq_t rfl) (by decide) rfl ?_
    refine XS.aloadN X6.here hexec rfl (hb hbytes d57) rfl rfl ?_
    exact Steps.refl _)
  have X8 := X6.wide (L' := []) (cells' := 1) (slots' := len) (fun x hx hlt => by
    simp only [List.nil_append, copyLocs, List.mem_map, List.mem_range] at hx
    obtain ⟨i, -, rfl⟩ := hx
    exact absurd hlt (Nat.lt_irrefl _)) (Nat.le_refl _) (by omega)
  exact ⟨T6, some (.ref s.heap.size), _, _, _, X8, rfl, rfl, rfl, (fun h => by cases h), ⟨⟨rfl, B6, ba3.like (X3.warmed.alike.symm.trans X6.warmed.alike) p6.1 f6.1 f6.2.1 f6.2.2.1, f6.2.1.trans bv3, by rw [X6.warmed.alike.findClass, f6.1]; exact bf3, by rw [f6.2.2.1, bs3]; simp, fun j hj => by rw [f6.2.2.2 j, if_pos (by omega)]; rfl, kp3.put p6 (Nat.le_refl _)⟩, by rw [p6.2.2, bh3, hh0]; simp⟩, fun fs hl => c8.trans (X8.areturnOut hexec rfl hret rfl (hb hbytes d58) hl)⟩
end Cmp3
namespace CodL
def yN : MethodName := ⟨"java/lang/StringUTF16", "coderFromArrayLen", "([BI)B"⟩
abbrev yB : ByteArray := jdk_52_method_15_code
theorem d0 : decode yB 0 = .ok (.iload_n 1, 1) := by decide +kernel
theorem d1 : decode yB 1 = .ok (.aload_n 0, 1) := by decide +kernel
theorem d2 : decode yB 2 = .ok (.arraylength, 1) := by decide +kernel
theorem d3 : decode yB 3 = .ok (.isub, 1) := by decide +kernel
theorem d4 : decode yB 4 = .ok (.bipush 31, 2) := by decide +kernel
theorem d6 : decode yB 6 = .ok (.iushr, 1) := by decide +kernel
theorem d7 : decode yB 7 = .ok (.i2b, 1) := by decide +kernel
theorem d8 : decode yB 8 = .ok (.ireturn, 1) := by decide +kernel
def site : List Cond := []
def tab : Cond := tabOf yN yB 2 (some .byte) site
def P (d : Addr) (B : Cell) (args : Array Value) (s : State) : Prop := args = #[.ref d, .int (Int32.ofNat B.slots.size)] ∧ Arr .byte d B s
def E (r : Option Value) (s u : State) : Prop := XT.PureE (some (.int 0)) r s u
/-- an array as long as the number of chars: LATIN1 -/
theorem law (l : Launch) (d : Addr) (B : Cell) : Law l yN 2 2 0 0 yB 2 (some .byte) site (P d B) E [] 0 0 := by
  refine Law.of_walk (plainFor_of_name (by decide +kernel)) (by decide +kernel) (by decide +kernel) (by decide) (fun _ _ h => by rw [h.1]; rfl) (fun _ U U' hal hh h => ⟨h.1, h.2.mv hal hh⟩) (fun r U U' V V' h1 hal h2 h => XT.PureE.mv r U U' V V' h1 hal h2 h) ?_
  intro p e s m args below meth c s₁ X0 hexec hbytes hml hret hlk hnm hown hh0 W hP
  obtain ⟨rfl, hB⟩ := hP
  have hB0 := hB.mv X0.warmed.alike hh0
  have c1 : Steps p.tables e below (s₁.setTop (entryFrame m #[.ref d, .int (Int32.ofNat B.slots.size)] 2)) (s₁.setTop (mkF m 0 #[.val (.ref d), .val (.int (Int32.ofNat B.slots.size))] [])) := entry rfl
  have c2 : Steps p.tables e below (s₁.setTop (entryFrame m #[.ref d, .int (Int32.ofNat B.slots.size)] 2)) (s₁.setTop (mkF m 2 #[.val (.ref d), .val (.int (Int32.ofNat B.slots.size))] [.ref d, .int (Int32.ofNat B.slots.size)])) := c1.trans (by
    refine XS.iloadN X0.here hexec rfl (hb hbytes d0) rfl ?_
    refine XS.aloadN X0.here hexec rfl (hb hbytes d1) rfl rfl ?_
    exact Steps.refl _)
  have c3 : Steps p.tables e below (s₁.setTop (entryFrame m #[.ref d, .int (Int32.ofNat B.slots.size)] 2)) (s₁.setTop (mkF m 8 #[.val (.ref d), .val (.int (Int32.ofNat B.slots.size))] [.int (lo8 (ushr (Int32.ofNat B.slots.size - Int32.ofNat B.slots.size) 31))])) := c2.trans (by
    refine X0.alen hexec hB0 rfl rfl (hb hbytes d2) ?_
    refine XS.isub X0.here hexec rfl (hb hbytes d3) rfl ?_
    refine bipushV X0.here hexec rfl 31 (hb hbytes d4) (by decide) ?_
    refine iushr X0.here hexec rfl (hb hbytes d6) rfl ?_
    refine i2b X0.here hexec rfl (hb hbytes d7) rfl ?_
    exact Steps.refl _)
  have e0 : lo8 (ushr (Int32.ofNat B.slots.size - Int32.ofNat B.slots.size) 31) = 0 := by rw [Int32.sub_self]; decide
  rw [e0] at c3
  exact ⟨s₁, some (.int 0), _, _, _, X0, rfl, rfl, rfl, (fun h => by cases h), ⟨rfl, hh0⟩, fun fs hl => c3.trans (X0.ireturnOut hexec hret rfl (Or.inr (Or.inr (Or.inl rfl))) (hb hbytes d8) hl)⟩
end CodL
/-- the String at a is Latin-1 over a new byte[] (the heap's one new cell): the low bytes of the len chars of A from o on; every cell but a is kept -/
def Got (a : Addr) (D : Cell) (fV fC : Field) (A : Cell) (o len : Nat) (r : Option Value) (s u : State) : Prop := r = none ∧ ∃ D' V : Cell, Blank "java/lang/String" a D' u ∧ Same D D' [fV.slot, fC.slot] ∧ D'.slots[fV.slot]? = some (.ref s.heap.size) ∧ D'.slots[fC.slot]? = some (.int 0) ∧ Arr .byte s.heap.size V u ∧ V.vm = .none ∧ u.vm.findClass "[B" = some V.cls ∧ V.slots.size = len ∧ (∀ j, j < len → V.slots[j]? = some (.int (lo8 (cv A (o + j))))) ∧ (∀ (y : Addr) (c : Cell), y ≠ a → s.heap[y]? = some c → u.heap[y]? = some c) ∧ u.heap.size = s.heap.size + 1
theorem Got.mv {a : Addr} {D A : Cell} {fV fC : Field} {o len : Nat} : ∀ r (U U' V V' : State), U'.heap = U.heap → V.vm.Alike V'.vm → V'.heap = V.heap → Got a D fV fC A o len r U V → Got a D fV fC A o len r U' V' :=
  fun r U U' V V' h1 hal h2 ⟨e0, D', X, a1, a2, a3, a4, a5, a6, a7, a8, a9, a10, a11⟩ => ⟨e0, D', X, a1.mv hal h2, a2, by rw [h1]; exact a3, a4, by rw [h1]; exact a5.mv hal h2, a6, by rw [hal.findClass]; exact a7, a8, a9, by rw [h1, h2]; exact a10, by rw [h1, h2]; exact a11⟩
namespace New4
def yN : MethodName := ⟨"java/lang/String", "<init>", "([CIILjava/lang/Void;)V"⟩
abbrev yB : ByteArray := jdk_42_method_149_code
theorem d0 : decode yB 0 = .ok (.aload_n 0, 1) := by decide +kernel
theorem d1 : decode yB 1 = .ok (.invokespecial 1, 3) := by decide +kernel
theorem d4 : decode yB 4 = .ok (.iload_n 3, 1) := by decide +kernel
theorem d5 : decode yB 5 = .ok (.ifCond (.ne) 22, 3) := by decide +kernel
theorem d27 : decode yB 27 = .ok (.getstatic 38, 3) := by decide +kernel
theorem d30 : decode yB 30 = .ok (.ifCond (.eq) 28, 3) := by decide +kernel
theorem d33 : decode yB 33 = .ok (.aload_n 1, 1) := by decide +kernel
theorem d34 : decode yB 34 = .ok (.iload_n 2, 1) := by decide +kernel
theorem d35 : decode yB 35 = .ok (.iload_n 3, 1) := by decide +kernel
theorem d36 : decode yB 36 = .ok (.invokestatic 177, 3) := by decide +kernel
theorem d39 : decode yB 39 = .ok (.astore 5, 2) := by decide +kernel
theorem d41 : decode yB 41 = .ok (.aload_n 0, 1) := by decide +kernel
theorem d42 : decode yB 42 = .ok (.aload 5, 2) := by decide +kernel
theorem d44 : decode yB 44 = .ok (.iload_n 3, 1) := by decide +kernel
theorem d45 : decode yB 45 = .ok (.invokestatic 47, 3) := by decide +kernel
theorem d48 : decode yB 48 = .ok (.putfield 15, 3) := by decide +kernel
theorem d51 : decode yB 51 = .ok (.aload_n 0, 1) := by decide +kernel
theorem d52 : decode yB 52 = .ok (.aload 5, 2) := by decide +kernel
theorem d54 : decode yB 54 = .ok (.putfield 9, 3) := by decide +kernel
theorem d57 : decode yB 57 = .ok (.return_, 1) := by decide +kernel
def site : List Cond := [.fieldLink "java/lang/String" 38 "java/lang/String" "COMPACT_STRINGS" "Z", Cmp3.tab, CodL.tab, .laysFinal "java/lang/String" "java/lang/String" "value" "[B", .fieldLink "java/lang/String" 9 "java/lang/String" "value" "[B", .laysFinal "java/lang/String" "java/lang/String" "coder" "B", .fieldLink "java/lang/String" 15 "java/lang/String" "coder" "B"] ++ objW "java/lang/String" 1 ++ staticW "java/lang/String" 177 Cmp3.yN ++ staticW "java/lang/String" 47 CodL.yN
def tab : Cond := tabOf yN yB 6 none site
def P (a : Addr) (D : Cell) (fV fC : Field) (b : Addr) (A : Cell) (z : Int32) (o len : Nat) (args : Array Value) (s : State) : Prop := args = #[.ref a, .ref b, .int (Int32.ofNat o), .int (Int32.ofNat len), .null] ∧ Blank "java/lang/String" a D s ∧ Found "java/lang/String" "value" "[B" fV s ∧ Found "java/lang/String" "coder" "B" fC s ∧ Ch b A s ∧ StaticIs s "java/lang/String" "COMPACT_STRINGS" "Z" (.int z) ∧ ¬ z = 0 ∧ 0 < len ∧ o + len ≤ A.slots.size ∧ len ≤ 536870912 ∧ ∀ i, i < len → ¬ 255 < cv A (o + i)
def E (a : Addr) (D : Cell) (fV fC : Field) (A : Cell) (o len : Nat) (r : Option Value) (s u : State) : Prop := Got a D fV fC A o len r s u
/-- len > 0, no char of the range above 255: a Latin-1 String of their low bytes -/
theorem law (l : Launch) (a : Addr) (D : Cell) (fV fC : Field) (b : Addr) (A : Cell) (z : Int32) (o len : Nat) : Law l yN 5 4 2 35 yB 6 none site (P a D fV fC b A z o len) (E a D fV fC A o len) [⟨a, fC.slot⟩, ⟨a, fV.slot⟩] 1 len := by
  refine Law.of_walk (plainFor_of_name (by decide +kernel)) (by decide +kernel) (by decide +kernel) (by decide) (fun _ _ h => by rw [h.1]; rfl) (fun _ U U' hal hh h => ⟨h.1, h.2.1.mv hal hh, h.2.2.1.al hal, h.2.2.2.1.al hal, h.2.2.2.2.1.mv hal hh, h.2.2.2.2.2.1.there hal hh, h.2.2.2.2.2.2⟩) (fun r U U' V V' h1 hal h2 h => Got.mv r U U' V V' h1 hal h2 h) ?_
  intro p e s m args below meth c s₁ X0 hexec hbytes hml hret hlk hnm hown hh0 W hP
  obtain ⟨rfl, hB, f1, f2, hA, s1, hz, l0, l1, l2, hp⟩ := hP
  have a31 := hA.1.2.2.2
  have c1 : Steps p.tables e below (s₁.setTop (entryFrame m #[.ref a, .ref b, .int (Int32.ofNat o), .int (Int32.ofNat len), .null] 6)) (s₁.setTop (mkF m 0 #[.val (.ref a), .val (.ref b), .val (.int (Int32.ofNat o)), .val (.int (Int32.ofNat len)), .val .null, .unset] [])) := entry rfl
  have c2 : Steps p.tables e below (s₁.setTop (entryFrame m #[.ref a, .ref b, .int (Int32.ofNat o), .int (Int32.ofNat len), .null] 6)) (s₁.setTop (mkF m 1 #[.val (.ref a), .val (.ref b), .val (.int (Int32.ofNat o)), .val (.int (Int32.ofNat len)), .val .null, .unset] [.ref a])) := c1.trans (by
    refine XS.aloadN X0.here hexec rfl (hb hbytes d0) rfl rfl ?_
    exact Steps.refl _)
  obtain ⟨T3, X3, q3, st3⟩ := X0.oinit hexec hown (wks W (objW "java/lang/String" 1)) (g := (mkF m 1 #[.val (.ref a), .val (.ref b), .val (.int (Int32.ofNat o)), .val (.int (Int32.ofNat len)), .val .null, .unset] [.ref a])) rfl (by rw [hml]; rfl) (rest := []) rfl (hb hbytes d1) (W := 0) (by show 2 * 0 + 0 ≤ _; decide) (Nat.le_of_ble_eq_true rfl) (Nat.le_of_ble_eq_true rfl)
  have hh3 := q3.trans hh0
  have c4 : Steps p.tables e below (s₁.setTop (entryFrame m #[.ref a, .ref b, .int (Int32.ofNat o), .int (Int32.ofNat len), .null] 6)) (T3.setTop (mkF m 27 #[.val (.ref a), .val (.ref b), .val (.int (Int32.ofNat o)), .val (.int (Int32.ofNat len)), .val .null, .unset] [])) := (c2.trans (st3 _ (Steps.refl _))).trans (by
    refine XS.iloadN X3.here hexec rfl (hb hbytes d4) rfl ?_
    refine XS.ifYes X3.here hexec rfl (pc0 := 5) rfl (hb hbytes d5) rfl (i0_ne_t (nz32 (by omega) l0)) (by decide) rfl ?_
    exact Steps.refl _)
  obtain ⟨T5, X5, q5, st5⟩ := X3.sget hexec hown (wk W (.fieldLink "java/lang/String" 38 "java/lang/String" "COMPACT_STRINGS" "Z")) s1 (fun _ _ h => by rw [hh3]; exact h) (g := (mkF m 27 #[.val (.ref a), .val (.ref b), .val (.int (Int32.ofNat o)), .val (.int (Int32.ofNat len)), .val .null, .unset] [])) rfl (hb hbytes d27)
  have hh5 := q5.trans hh3
  have c6 : Steps p.tables e below (s₁.setTop (entryFrame m #[.ref a, .ref b, .int (Int32.ofNat o), .int (Int32.ofNat len), .null] 6)) (T5.setTop (mkF m 30 #[.val (.ref a), .val (.ref b), .val (.int (Int32.ofNat o)), .val (.int (Int32.ofNat len)), .val .null, .unset] [.int z])) := c4.trans (st5 _ (Steps.refl _))
  have c7 : Steps p.tables e below (s₁.setTop (entryFrame m #[.ref a, .ref b, .int (Int32.ofNat o), .int (Int32.ofNat len), .null] 6)) (T5.setTop (mkF m 36 #[.val (.ref a), .val (.ref b), .val (.int (Int32.ofNat o)), .val (.int (Int32.ofNat len)), .val .null, .unset] [.int (Int32.ofNat len), .int (Int32.ofNat o), .ref b])) := c6.trans (by
    refine XS.ifNo X5.here hexec rfl (hb hbytes d30) rfl (i0_eq_f hz) ?_
    refine XS.aloadN X5.here hexec rfl (hb hbytes d33) rfl rfl ?_
    refine XS.iloadN X5.here hexec rfl (hb hbytes d34) rfl ?_
    refine XS.iloadN X5.here hexec rfl (hb hbytes d35) rfl ?_
    exact Steps.refl _)
  obtain ⟨v8, T8, X8, E8, g8⟩ := X5.callS hexec (Cmp3.law l b A o len) hown (wks W (staticW "java/lang/String" 177 Cmp3.yN)) (wk W Cmp3.tab) (W := 0) (Nat.le_of_ble_eq_true rfl) (Nat.le_of_ble_eq_true rfl) (Nat.le_refl _) (by show 0 + len ≤ len; omega) (g := (mkF m 36 #[.val (.ref a), .val (.ref b), .val (.int (Int32.ofNat o)), .val (.int (Int32.ofNat len)), .val .null, .unset] [.int (Int32.ofNat len), .int (Int32.ofNat o), .ref b])) rfl (by rw [hml]; rfl) c7 (argsL := [.ref b, .int (Int32.ofNat o), .int (Int32.ofNat len)]) (rest := []) rfl rfl (by show 2 * 0 + 0 ≤ _; decide) (hb hbytes d36) (⟨rfl, hA.mv X5.warmed.alike hh5, l1, l2, hp⟩)
  obtain ⟨e8, z8⟩ := E8
  obtain ⟨rfl, N, n1, n2, n3, n4, n5, n6⟩ := NewArr.mv _ T5 s _ _ hh5.symm (Vm.Alike.refl _) rfl e8
  rw [hh5] at z8
  have hB1 := hB.keep X8.warmed.alike (n6 _ _ hB.1)
  have hne : s.heap.size ≠ a := (Nat.ne_of_lt (Array.getElem?_eq_some_iff.mp hB.1).1).symm
  have c9 : Steps p.tables e below (s₁.setTop (entryFrame m #[.ref a, .ref b, .int (Int32.ofNat o), .int (Int32.ofNat len), .null] 6)) (T8.setTop (mkF m 39 #[.val (.ref a), .val (.ref b), .val (.int (Int32.ofNat o)), .val (.int (Int32.ofNat len)), .val .null, .unset] [.ref s.heap.size])) := g8
  have c10 : Steps p.tables e below (s₁.setTop (entryFrame m #[.ref a, .ref b, .int (Int32.ofNat o), .int (Int32.ofNat len), .null] 6)) (T8.setTop (mkF m 45 #[.val (.ref a), .val (.ref b), .val (.int (Int32.ofNat o)), .val (.int (Int32.ofNat len)), .val .null, .val (.ref s.heap.size)] [.int (Int32.ofNat N.slots.size), .ref s.heap.size, .ref a])) := by
    have hc : Steps p.tables e below (s₁.setTop (entryFrame m #[.ref a, .ref b, .int (Int32.ofNat o), .int (Int32.ofNat len), .null] 6)) (T8.setTop (mkF m 45 #[.val (.ref a), .val (.ref b), .val (.int (Int32.ofNat o)), .val (.int (Int32.ofNat len)), .val .null, .val (.ref s.heap.size)] [.int (Int32.ofNat len), .ref s.heap.size, .ref a])) := c9.trans (by
      refine XS.astore X8.here hexec rfl (hb hbytes d39) rfl rfl rfl ?_
      refine XS.aloadN X8.here hexec rfl (hb hbytes d41) rfl rfl ?_
      refine XS.aload X8.here hexec rfl (hb hbytes d42) rfl rfl ?_
      refine XS.iloadN X8.here hexec rfl (hb hbytes d44) rfl ?_
      exact Steps.refl _)
    rw [n4]; exact hc
  obtain ⟨v11, T11, X11, E11, g11⟩ := X8.callS hexec (CodL.law l s.heap.size N) hown (wks W (staticW "java/lang/String" 47 CodL.yN)) (wk W CodL.tab) (W := 1) (Nat.le_of_ble_eq_true rfl) (Nat.le_of_ble_eq_true rfl) (Nat.le_refl _) (by show 0 + len + 0 ≤ len; omega) (g := (mkF m 45 #[.val (.ref a), .val (.ref b), .val (.int (Int32.ofNat o)), .val (.int (Int32.ofNat len)), .val .null, .val (.ref s.heap.size)] [.int (Int32.ofNat N.slots.size), .ref s.heap.size, .ref a])) rfl (by rw [hml]; rfl) c10 (argsL := [.ref s.heap.size, .int (Int32.ofNat N.slots.size)]) (rest := [.ref a]) rfl rfl (by show 2 * 0 + (1 + 0) ≤ _; decide) (hb hbytes d45) (⟨rfl, n1⟩)
  obtain ⟨rfl, q11⟩ := E11
  have hB11 := hB1.mv (X8.warmed.alike.symm.trans X11.warmed.alike) q11
  have c12 : Steps p.tables e below (s₁.setTop (entryFrame m #[.ref a, .ref b, .int (Int32.ofNat o), .int (Int32.ofNat len), .null] 6)) (T11.setTop (mkF m 48 #[.val (.ref a), .val (.ref b), .val (.int (Int32.ofNat o)), .val (.int (Int32.ofNat len)), .val .null, .val (.ref s.heap.size)] [.int 0, .ref a])) := g11
  obtain ⟨T13, X13, p13, bl13, sl13, st13⟩ := X11.finit hexec hown (wk W (.fieldLink "java/lang/String" 15 "java/lang/String" "coder" "B")) (Or.inr ⟨_, (wk W (.laysFinal "java/lang/String" "java/lang/String" "coder" "B"))⟩) (Or.inl ⟨rfl, hnm⟩) f2 (Or.inl rfl) hB11 (t := .byte) (by decide +kernel) rfl (g := (mkF m 48 #[.val (.ref a), .val (.ref b), .val (.int (Int32.ofNat o)), .val (.int (Int32.ofNat len)), .val .null, .val (.ref s.heap.size)] [.int 0, .ref a])) rfl (rest := []) rfl (hb hbytes d48)
  have c14 : Steps p.tables e below (s₁.setTop (entryFrame m #[.ref a, .ref b, .int (Int32.ofNat o), .int (Int32.ofNat len), .null] 6)) (T13.setTop (mkF m 54 #[.val (.ref a), .val (.ref b), .val (.int (Int32.ofNat o)), .val (.int (Int32.ofNat len)), .val .null, .val (.ref s.heap.size)] [.ref s.heap.size, .ref a])) := (c12.trans (st13 _ (Steps.refl _))).trans (by
    refine XS.aloadN X13.here hexec rfl (hb hbytes d51) rfl rfl ?_
    refine XS.aload X13.here hexec rfl (hb hbytes d52) rfl rfl ?_
    exact Steps.refl _)
  obtain ⟨T15, X15, p15, bl15, sl15, st15⟩ := X13.finit hexec hown (wk W (.fieldLink "java/lang/String" 9 "java/lang/String" "value" "[B")) (Or.inr ⟨_, (wk W (.laysFinal "java/lang/String" "java/lang/String" "value" "[B"))⟩) (Or.inl ⟨rfl, hnm⟩) f1 (Or.inl rfl) bl13 (t := (.array .byte)) (by decide +kernel) rfl (g := (mkF m 54 #[.val (.ref a), .val (.ref b), .val (.int (Int32.ofNat o)), .val (.int (Int32.ofNat len)), .val .null, .val (.ref s.heap.size)] [.ref s.heap.size, .ref a])) rfl (rest := []) rfl (hb hbytes d54)
  have c16 : Steps p.tables e below (s₁.setTop (entryFrame m #[.ref a, .ref b, .int (Int32.ofNat o), .int (Int32.ofNat len), .null] 6)) (T15.setTop (mkF m 57 #[.val (.ref a), .val (.ref b), .val (.int (Int32.ofNat o)), .val (.int (Int32.ofNat len)), .val .null, .val (.ref s.heap.size)] [])) := c14.trans (st15 _ (Steps.refl _))
  have ap := apart (Or.inr ⟨_, (wk W (.laysFinal "java/lang/String" "java/lang/String" "value" "[B"))⟩) (Or.inr ⟨_, (wk W (.laysFinal "java/lang/String" "java/lang/String" "coder" "B"))⟩) f1 f2 (t₁ := .array .byte) (t₂ := .byte) (by decide +kernel) (by decide +kernel) (by decide)
  have al := X8.warmed.alike.symm.trans X15.warmed.alike
  have n7 : T11.heap[s.heap.size]? = some N := by rw [q11]; exact n1.1
  exact ⟨T15, none, _, _, _, X15, by simp, rfl, by omega, (fun _ => rfl), ⟨rfl, _, N, bl15, ((Same.refl D _).set _ (by simp)).set _ (by simp), sl15, (Cell.slots_setSlot_ne _ ap).trans sl13, n1.keep al (p15.other hne (p13.other hne n7)), n2, by rw [al.findClass]; exact n3, n4, n5, fun y c h1 h2 => p15.other h1 (p13.other h1 (by rw [q11]; exact n6 y c h2)), by rw [p15.2.2, p13.2.2, q11]; exact z8⟩, fun fs hl => c16.trans (X15.returnOut hexec hret (hb hbytes d57) hl)⟩
end New4
namespace New1
def yN : MethodName := ⟨"java/lang/String", "<init>", "([C)V"⟩
abbrev yB : ByteArray := jdk_42_method_3_code
theorem d0 : decode yB 0 = .ok (.aload_n 0, 1) := by decide +kernel
theorem d1 : decode yB 1 = .ok (.aload_n 1, 1) := by decide +kernel
theorem d2 : decode yB 2 = .ok (.iconst 0, 1) := by decide +kernel
theorem d3 : decode yB 3 = .ok (.aload_n 1, 1) := by decide +kernel
theorem d4 : decode yB 4 = .ok (.arraylength, 1) := by decide +kernel
theorem d5 : decode yB 5 = .ok (.aconst_null, 1) := by decide +kernel
theorem d6 : decode yB 6 = .ok (.invokespecial 27, 3) := by decide +kernel
theorem d9 : decode yB 9 = .ok (.return_, 1) := by decide +kernel
def site : List Cond := [New4.tab] ++ initW "java/lang/String" 27 New4.yN
def tab : Cond := tabOf yN yB 2 none site
def P (a : Addr) (D : Cell) (fV fC : Field) (b : Addr) (A : Cell) (z : Int32) (args : Array Value) (s : State) : Prop := args = #[.ref a, .ref b] ∧ Blank "java/lang/String" a D s ∧ Found "java/lang/String" "value" "[B" fV s ∧ Found "java/lang/String" "coder" "B" fC s ∧ Ch b A s ∧ StaticIs s "java/lang/String" "COMPACT_STRINGS" "Z" (.int z) ∧ ¬ z = 0 ∧ 0 < A.slots.size ∧ A.slots.size ≤ 536870912 ∧ ∀ i, i < A.slots.size → ¬ 255 < cv A i
def E (a : Addr) (D : Cell) (fV fC : Field) (A : Cell) (r : Option Value) (s u : State) : Prop := Got a D fV fC A 0 A.slots.size r s u
/-- new String(chars), not empty, no char above 255: a Latin-1 String of their low bytes -/
theorem law (l : Launch) (a : Addr) (D : Cell) (fV fC : Field) (b : Addr) (A : Cell) (z : Int32) : Law l yN 2 1 3 52 yB 2 none site (P a D fV fC b A z) (E a D fV fC A) [⟨a, fC.slot⟩, ⟨a, fV.slot⟩] 1 A.slots.size := by
  refine Law.of_walk (plainFor_of_name (by decide +kernel)) (by decide +kernel) (by decide +kernel) (by decide) (fun _ _ h => by rw [h.1]; rfl) (fun _ U U' hal hh h => ⟨h.1, h.2.1.mv hal hh, h.2.2.1.al hal, h.2.2.2.1.al hal, h.2.2.2.2.1.mv hal hh, h.2.2.2.2.2.1.there hal hh, h.2.2.2.2.2.2⟩) (fun r U U' V V' h1 hal h2 h => Got.mv r U U' V V' h1 hal h2 h) ?_
  intro p e s m args below meth c s₁ X0 hexec hbytes hml hret hlk hnm hown hh0 W hP
  obtain ⟨rfl, hB, f1, f2, hA, s1, hz, l0, l2, hp⟩ := hP
  have c1 : Steps p.tables e below (s₁.setTop (entryFrame m #[.ref a, .ref b] 2)) (s₁.setTop (mkF m 0 #[.val (.ref a), .val (.ref b)] [])) := entry rfl
  have c2 : Steps p.tables e below (s₁.setTop (entryFrame m #[.ref a, .ref b] 2)) (s₁.setTop (mkF m 6 #[.val (.ref a), .val (.ref b)] [.null, .int (Int32.ofNat A.slots.size), .int 0, .ref b, .ref a])) := c1.trans (by
    refine XS.aloadN X0.here hexec rfl (hb hbytes d0) rfl rfl ?_
    refine XS.aloadN X0.here hexec rfl (hb hbytes d1) rfl rfl ?_
    refine iconstV X0.here hexec rfl 0 (hb hbytes d2) (by decide) ?_
    refine XS.aloadN X0.here hexec rfl (hb hbytes d3) rfl rfl ?_
    refine X0.alen hexec (hA.1.mv X0.warmed.alike hh0) rfl rfl (hb hbytes d4) ?_
    refine XS.aconstNull X0.here hexec rfl (hb hbytes d5) ?_
    exact Steps.refl _)
  obtain ⟨v3, T3, X3, E3, g3⟩ := X0.callN hexec (New4.law l a D fV fC b A z 0 A.slots.size) rfl hown (wks W (initW "java/lang/String" 27 New4.yN)) (W New4.tab (by simp only [site, List.mem_cons, List.mem_append, true_or, or_true])) (W := 0) (Nat.le_of_ble_eq_true rfl) (Nat.le_of_ble_eq_true rfl) (Nat.le_refl _) (by show 0 + A.slots.size ≤ A.slots.size; omega) (g := (mkF m 6 #[.val (.ref a), .val (.ref b)] [.null, .int (Int32.ofNat A.slots.size), .int (Int32.ofNat 0), .ref b, .ref a])) rfl (by rw [hml]; rfl) c2 (argsL := [.ref b, .int (Int32.ofNat 0), .int (Int32.ofNat A.slots.size), .null]) (rest := []) rfl rfl (by show 2 * 0 + 0 ≤ _; decide) (hb hbytes d6) (⟨rfl, hB.mv X0.warmed.alike hh0, f1.al X0.warmed.alike, f2.al X0.warmed.alike, hA.mv X0.warmed.alike hh0, s1.there X0.warmed.alike hh0, hz, l0, by omega, l2, fun i hi => by rw [Nat.zero_add]; exact hp i hi⟩)
  have e0 := Got.mv _ s₁ s _ _ hh0.symm (Vm.Alike.refl _) rfl E3
  obtain rfl := e0.1
  have c4 : Steps p.tables e below (s₁.setTop (entryFrame m #[.ref a, .ref b] 2)) (T3.setTop (mkF m 9 #[.val (.ref a), .val (.ref b)] [])) := g3
  exact ⟨T3, none, _, _, _, X3, by simp, rfl, by omega, (fun _ => rfl), e0, fun fs hl => c4.trans (X3.returnOut hexec hret (hb hbytes d9) hl)⟩
theorem pays {l : Launch} {R : Room} {p : Program} {e : Env} {below : List Frame} {s : State} {sargs : Array Value} {len W : Nat} (a : Addr) (D : Cell) (fV fC : Field) (b : Addr) (A : Cell) (z : Int32) (htab : tab.before sargs s = true) (hfr : 4 ≤ R.frames) (hlo : W + 65 ≤ R.locals) :
    Back l R p e below s sargs yN len W (fun A₁ a₁ => A₁.cells + 1 ≤ R.cells ∧ A₁.slots + A.slots.size ≤ R.slots ∧ P a D fV fC b A z a₁ A₁.U) (fun A₁ _ v₁ B₁ => E a D fV fC A v₁ A₁.U B₁.U ∧ B₁.locs = A₁.locs ++ [⟨a, fC.slot⟩, ⟨a, fV.slot⟩] ∧ B₁.cells = A₁.cells + 1 ∧ B₁.slots = A₁.slots + A.slots.size) :=
  (law l a D fV fC b A z).pays htab hfr (by omega)
end New1
/-- the byte, read back as charAt reads it, is the char -/
theorem lo8_mask {x : Int32} (h0 : ¬ x < 0) (h1 : ¬ 255 < x) : lo8 x &&& 255 = x := by
  have t : ∀ k : Fin 256, lo8 (Int32.ofNat k.val) &&& 255 = Int32.ofNat k.val := by decide +kernel
  rw [Int32.lt_iff_toInt_lt] at h0 h1
  have e0 : (0 : Int32).toInt = 0 := rfl
  have e1 : (255 : Int32).toInt = 255 := rfl
  obtain ⟨k, hk⟩ : ∃ k : Nat, x.toInt = k := ⟨x.toInt.toNat, by omega⟩
  have hx : x = Int32.ofNat k := Int32.toInt_inj.mp (by rw [hk, Int32.toInt_ofNat_small (by omega)])
  rw [hx]
  exact t ⟨k, by omega⟩
end StrChars
namespace StrChars.Road
open Jvm Sem ClassFile Op Lib Jvm.Stand Jvm.Free Jvm.Free.XT
open Jvm.Lib.Cold (StaticIs)
abbrev ST : String := "java/lang/String"
/-- every table word that New1's law asks, flat -/
abbrev words : List Jvm.Cond := [.code New1.yN New1.yB 2 none, .initialized ST, .methodLink ST 27 New4.yN, .instanceMethod New4.yN,
  .code New4.yN New4.yB 6 none, .fieldLink ST 38 ST "COMPACT_STRINGS" "Z", .laysFinal ST ST "value" "[B", .fieldLink ST 9 ST "value" "[B", .laysFinal ST ST "coder" "B", .fieldLink ST 15 ST "coder" "B",
  .methodLink ST 1 Lib.objectInit, .instanceMethod Lib.objectInit, .code Lib.objectInit ⟨#[0xb1]⟩ 1 none, .methodLink ST 177 Cmp3.yN, .static Cmp3.yN, .methodLink ST 47 CodL.yN, .static CodL.yN,
  .code Cmp3.yN Cmp3.yB 6 (some (.array .byte)), .initialized U16, .arrayClass .byte, .methodLink U16 115 Cmp5.yN, .static Cmp5.yN, .code Cmp5.yN Cmp5.yB 7 (some .int), .code CodL.yN CodL.yB 2 (some .byte)]
theorem tab_of {a : Array Value} {s : State} (h : ∀ w ∈ words, w.before a s = true) : New1.tab.before a s = true := by
  have h5 : Cmp5.tab.before a s = true := unparts (wk h (.code Cmp5.yN Cmp5.yB 7 (some .int))) (wks h (.initialized Cmp5.yN.cls :: Cmp5.site))
  have hc : CodL.tab.before a s = true := unparts (wk h (.code CodL.yN CodL.yB 2 (some .byte))) (wks h (.initialized CodL.yN.cls :: CodL.site))
  have q5 : ∀ w ∈ Cmp5.tab :: words, w.before a s = true := fun w hw => (List.mem_cons.mp hw).elim (fun e => e ▸ h5) (h w)
  have h3 : Cmp3.tab.before a s = true := unparts (wk q5 (.code Cmp3.yN Cmp3.yB 6 (some (.array .byte)))) (wks q5 (.initialized Cmp3.yN.cls :: Cmp3.site))
  have q3 : ∀ w ∈ Cmp3.tab :: CodL.tab :: words, w.before a s = true := fun w hw => (List.mem_cons.mp hw).elim (fun e => e ▸ h3) fun hw => (List.mem_cons.mp hw).elim (fun e => e ▸ hc) (h w)
  have h4 : New4.tab.before a s = true := unparts (wk q3 (.code New4.yN New4.yB 6 none)) (wks q3 (.initialized New4.yN.cls :: New4.site))
  have q4 : ∀ w ∈ New4.tab :: words, w.before a s = true := fun w hw => (List.mem_cons.mp hw).elim (fun e => e ▸ h4) (h w)
  exact unparts (wk q4 (.code New1.yN New1.yB 2 none)) (wks q4 (.initialized New1.yN.cls :: New1.site))
/-- the words ride from the start Z to the walk's own state -/
theorem moved {Z s : State} {a0 args : Array Value} (hZ : Z.Warmed39 s.vm) (hw : ∀ d ∈ words, d.before a0 Z = true) : ∀ d ∈ words, d.before args s = true := fun d hd => by
  have q := hw d hd
  have t : ∀ d ∈ words, d = .arrayClass .byte ∨ (d.onTables && d.keepsFace) = true := by decide +kernel
  rcases t d hd with rfl | t
  · exact RoadKit.mvA hZ q
  · exact RoadKit.mv hZ q t
/-- WHAT COMES BACK, over the tables of the start Z: h the heap at the call, h' behind it -/
def Q (Z : State) (x : Addr) (A : Cell) (h : Heap) (v : Option Value) (h' : Heap) (L : List Loc) : Prop := v = none ∧ (∀ y ∈ L, y.base = x) ∧ RoadKit.Keep h h' [x] ∧ h'.size = h.size + 1 ∧ RoadKit.Exa Z h' x ST ∧ RoadKit.Fld Z h' x ST "value" "[B" (.ref h.size) ∧ RoadKit.Fld Z h' x ST "coder" "B" (.int 0) ∧
  (∃ V : Cell, RoadKit.Arr Z h' h.size V .byte ∧ V.vm = .none ∧ Z.vm.findClass "[B" = some V.cls ∧ V.slots.size = A.slots.size ∧ ∀ j, j < A.slots.size → V.slots[j]? = some (.int (lo8 (cv A j)))) ∧
  ∀ (O n d : String) (w : Value), RoadKit.Fld Z h x O n d w → RoadKit.slotOf Z O n d ≠ RoadKit.slotOf Z ST "value" "[B" → RoadKit.slotOf Z O n d ≠ RoadKit.slotOf Z ST "coder" "B" → RoadKit.Fld Z h' x O n d w
/-- **new String(chars) AT A CALL, IN THE ROAD'S FORM**: for specialBack behind newO: x the fresh String, b the char[] with the cell A -/
theorem back {p : Program} {l : Launch} {e : Env} {R : Room} {s : State} {args : Array Value} {below : List Frame} {len W : Nat} {Z : State} {a0 : Array Value} {h : Heap} (hZ : Z.Warmed39 s.vm) (hw : ∀ d ∈ words, d.before a0 Z = true) {kI : Nat} (wi : (Jvm.Cond.instantiable ST kI).before a0 Z = true)
    {x b : Addr} {A : Cell} {z : Int32} {v0 c0 : Value} (E : RoadKit.Exa Z h x ST) (V : RoadKit.Fld Z h x ST "value" "[B" v0) (C : RoadKit.Fld Z h x ST "coder" "B" c0) (K : RoadKit.Arr Z h b A .char) (hty : Typed .char A) (S : RoadKit.Sta Z h ST "COMPACT_STRINGS" "Z" (.int z)) (hz : ¬ z = 0)
    (l0 : 0 < A.slots.size) (l2 : A.slots.size ≤ 536870912) (hp : ∀ i, i < A.slots.size → ¬ 255 < cv A i) (hfr : 4 ≤ R.frames) (hlo : W + 65 ≤ R.locals) :
    Back l R p e below s args New1.yN len W (fun P a => a = #[.ref x, .ref b] ∧ P.U.heap = h ∧ P.cells + 1 ≤ R.cells ∧ P.slots + A.slots.size ≤ R.slots)
      (fun P _ v B => ∃ L, Q Z x A h v B.U.heap L ∧ B.locs = P.locs ++ L ∧ B.cells = P.cells + 1 ∧ B.slots = P.slots + A.slots.size) := by
  intro m meth c P g ig mk a X hg hsize hdg hW hn hp'
  obtain ⟨rfl, rfl, r1, r2⟩ := hp'
  have al : Z.vm.Alike P.U.vm := hZ.alike.trans X.warmed.alike
  obtain ⟨D, cfV, kV, iV, fV, hD, gV, stV, knV, obV, asV, slV⟩ := id V
  obtain ⟨D', cfC, kC, iC, fC, hD', gC, stC, -, -, asC, slC⟩ := id C
  cases hD.symm.trans hD'
  obtain ⟨D2, kD, e1, e2, e3, e4, e5⟩ := id E
  cases hD.symm.trans e1
  obtain ⟨c2, k2, i1, i2, i3, -⟩ := Cond.instantiable_spec wi
  cases e2.symm.trans i1
  cases e3.symm.trans i2
  obtain ⟨kU, u1, u2⟩ := al.2.2 _ _ e3
  have hB : Blank ST x D P.U := ⟨hD, ⟨knV, fun q hq => by rw [hq] at obV; cases obV⟩, by rw [al.findClass]; exact e2, kU, u1, by rw [u2]; exact i3, by rw [u2]; exact e5 i3⟩
  have F1 : Found ST "value" "[B" fV P.U := ⟨SBG.found_only al ⟨cfV, kV, iV, gV⟩, stV⟩
  have F2 : Found ST "coder" "B" fC P.U := ⟨SBG.found_only al ⟨cfC, kC, iC, gC⟩, stC⟩
  have hA : Ch b A P.U := ⟨⟨K.1, State.isArrayOf_alike al K.2.1, K.2.2, by omega⟩, hty⟩
  have hS : StaticIs P.U ST "COMPACT_STRINGS" "Z" (.int z) := by
    obtain ⟨cfS, iS, kS, fS, st, cS, t1, t2, t3, t4, t5, t6, t7⟩ := S
    exact StaticIs.there (s := { Z with heap := P.U.heap }) ⟨cfS, iS, kS, fS, st, cS, t1, t2, t3, t4, t5, (fun q => by rw [q] at t6; cases t6), t7⟩ al rfl
  obtain ⟨v, B, X', ⟨⟨hv, E', V', q1, q2, q3, q4, q5, q6, q7, q8, q9, q10, q11⟩, hl, hc, hs⟩, st⟩ := New1.pays x D fV fC b A z (tab_of (moved hZ hw)) hfr hlo m meth c P g ig mk _ X hg hsize hdg hW hn ⟨r1, r2, rfl, hB, F1, F2, hA, hS, hz, l0, l2, hp⟩
  have al' : Z.vm.Alike B.U.vm := hZ.alike.trans X'.warmed.alike
  have hsz : E'.slots.size = D.slots.size := by
    obtain ⟨-, -, -, kB, w1, w2, w3⟩ := q1
    obtain ⟨kB', y1, y2⟩ := al'.2.2 _ _ e3
    rw [q2.2.1] at w1
    cases w1.symm.trans y1
    rw [w3, e5 i3, y2]
  refine ⟨v, B, X', ⟨_, ⟨hv, ?_, ⟨by omega, fun y cy hy hn' => q10 y cy (by simpa using hn') hy, fun y cy hy => ?_⟩, q11, ⟨E', _, q1.1, by rw [q2.2.1]; exact e2, by rw [q2.2.1]; exact e3, by rw [q2.1]; exact obV, fun _ => by rw [hsz]; exact e5 i3⟩,
    ⟨E', cfV, kV, iV, fV, q1.1, gV, stV, by rw [q2.1]; exact knV, by rw [q2.1]; exact obV, by rw [q2.2.1]; exact asV, q3⟩, ⟨E', cfC, kC, iC, fC, q1.1, gC, stC, by rw [q2.1]; exact knV, by rw [q2.1]; exact obV, by rw [q2.2.1]; exact asC, q4⟩,
    ⟨V', ⟨q5.1, State.isArrayOf_alike al'.symm q5.2.1, q5.2.2.1⟩, q6, by rw [← al'.findClass]; exact q7, q8, fun j hj => by have := q9 j hj; rwa [Nat.zero_add] at this⟩, fun O n d w F n1 n2 => ?_⟩, hl, hc, hs⟩, st⟩
  · intro y hy
    simp only [List.mem_cons, List.not_mem_nil, or_false] at hy
    rcases hy with rfl | rfl <;> rfl
  · by_cases q : y = x
    · subst q
      cases hD.symm.trans hy
      exact ⟨E', q1.1, q2.2.1, q2.1, hsz⟩
    · exact ⟨cy, q10 y cy q hy, rfl, rfl, rfl⟩
  · obtain ⟨D3, cf, k, i, f, g1, g2, g3, g4, g5, g6, g7⟩ := F
    cases hD.symm.trans g1
    simp only [RoadKit.slotOf, g2, gV, gC, Option.map_some, Option.getD_some] at n1 n2
    exact ⟨E', cf, k, i, f, q1.1, g2, g3, by rw [q2.1]; exact g4, by rw [q2.1]; exact g5, by rw [q2.2.1]; exact g6, by rw [q2.2.2 f.slot (by simp [n1, n2])]; exact g7⟩
end StrChars.Road
namespace StrChars.Road
open Jvm Sem ClassFile Op Lib Jvm.Stand Jvm.Free Jvm.Free.XT
/-- WHAT COMES BACK, the byte[] as a list of values -/
def QA (Z : State) (x : Addr) (zn : Int32) (cs : List Int32) (h : Heap) (v : Option Value) (h' : Heap) (L : List Loc) : Prop := v = none ∧ (∀ y ∈ L, y.base = x) ∧ RoadKit.Keep h h' [x] ∧ h'.size = h.size + 1 ∧ RoadKit.Exa Z h' x ST ∧ RoadKit.Fld Z h' x ST "value" "[B" (.ref h.size) ∧ RoadKit.Fld Z h' x ST "coder" "B" (.int 0) ∧
  (∃ kb, Z.vm.findClass "[B" = some kb ∧ RoadKit.Arv Z h' h.size kb .byte zn (cs.map fun c => .int (lo8 c)) (.int 0)) ∧
  ∀ (O n d : String) (w : Value), RoadKit.Fld Z h x O n d w → RoadKit.slotOf Z O n d ≠ RoadKit.slotOf Z ST "value" "[B" → RoadKit.slotOf Z O n d ≠ RoadKit.slotOf Z ST "coder" "B" → RoadKit.Fld Z h' x O n d w
/-- **new String(chars) AT A CALL, THE ARRAYS AS LISTS**: the char[] at b holds cs, not empty, no char above 255 -/
theorem backArv {p : Program} {l : Launch} {e : Env} {R : Room} {s : State} {args : Array Value} {below : List Frame} {len W : Nat} {Z : State} {a0 : Array Value} {h : Heap} (hZ : Z.Warmed39 s.vm) (hw : ∀ d ∈ words, d.before a0 Z = true) {kI : Nat} (wi : (Jvm.Cond.instantiable ST kI).before a0 Z = true)
    {x b : Addr} {k : ClassId} {zn z : Int32} {cs : List Int32} {dv v0 c0 : Value} (E : RoadKit.Exa Z h x ST) (V : RoadKit.Fld Z h x ST "value" "[B" v0) (C : RoadKit.Fld Z h x ST "coder" "B" c0) (K : RoadKit.Arv Z h b k .char zn (cs.map Value.int) dv) (S : RoadKit.Sta Z h ST "COMPACT_STRINGS" "Z" (.int z)) (hz : ¬ z = 0)
    (hlen : zn.toNatClampNeg = cs.length) (h0 : 0 < cs.length) (hbig : cs.length ≤ 536870912) (hall : ∀ c ∈ cs, ¬ 255 < c) (hfr : 4 ≤ R.frames) (hlo : W + 65 ≤ R.locals) :
    Back l R p e below s args New1.yN len W (fun P a => a = #[.ref x, .ref b] ∧ P.U.heap = h ∧ P.cells + 1 ≤ R.cells ∧ P.slots + cs.length ≤ R.slots)
      (fun P _ v B => ∃ L, QA Z x zn cs h v B.U.heap L ∧ B.locs = P.locs ++ L ∧ B.cells = P.cells + 1 ∧ B.slots = P.slots + cs.length) := by
  obtain ⟨A, K1, K2, K3, K4, K5, K6⟩ := K
  have e : A.slots.size = cs.length := K3.trans hlen
  have hat : ∀ (i : Nat) (hi : i < cs.length), A.slots[i]? = some (.int cs[i]) := fun i hi => by rw [K5 i (by omega)]; simp [List.getD_eq_getElem?_getD, hi]
  have hcv : ∀ (i : Nat) (hi : i < cs.length), cv A i = cs[i] := fun i hi => by unfold cv; rw [hat i hi]
  have hty : Typed .char A := fun i v hv => by
    have hi : i < A.slots.size := (Array.getElem?_eq_some_iff.mp hv).1
    have q := K5 i hi
    rw [hv] at q
    rw [Option.some.inj q]
    exact K6 i hi
  refine Back.mono (back hZ hw wi E V C K1 hty S hz (by omega) (by omega) (fun i hi => by rw [hcv i (by omega)]; exact hall _ (List.getElem_mem _)) hfr hlo) (fun P a hp => ⟨hp.1, hp.2.1, hp.2.2.1, by rw [e]; exact hp.2.2.2⟩) (fun P a v B hp hq => ?_)
  obtain ⟨L, ⟨q1, q2, q3, q4, q5, q6, q7, ⟨V', v1, v2, v3, v4, v5⟩, q9⟩, hl, hc, hs⟩ := hq
  refine ⟨L, ⟨q1, q2, q3, q4, q5, q6, q7, ⟨V'.cls, v3, V', v1, rfl, by rw [v4, e, hlen], K4, fun i hi => ?_, fun i hi => ?_⟩, q9⟩, hl, hc, by rw [hs, e]⟩
  · have hi' : i < cs.length := by omega
    rw [v5 i (by omega), hcv i hi']; simp [List.getD_eq_getElem?_getD, hi']
  · have hi' : i < cs.length := by omega
    simp only [List.getD_eq_getElem?_getD, List.getElem?_map, List.getElem?_eq_getElem hi', Option.map_some, Option.getD_some]
    exact fits_lo8 _
end StrChars.Road
namespace StrChars.Road
open Jvm Sem ClassFile Op Lib Jvm.Stand Jvm.Free Jvm.Free.XT
/-- WHAT COMES BACK, in the writer's own shape -/
def QV (Z : State) (x : Addr) (N : Int32) (bs : List Int32) (h : Heap) (n0 : Nat) (v : Option Value) (h' : Heap) (L : List Loc) : Prop := v = none ∧ RoadKit.Fr n0 L ∧ RoadKit.Keep h h' [x] ∧ RoadKit.Exa Z h' x ST ∧ RoadKit.Fld Z h' x ST "coder" "B" (.int 0) ∧
  ∃ (t : Addr) (kb : ClassId), n0 ≤ t ∧ h.size ≤ t ∧ ¬ t = x ∧ RoadKit.Fld Z h' x ST "value" "[B" (.ref t) ∧ RoadKit.Arv Z h' t kb .byte N (bs.map Value.int) (.int 0)
/-- **new String(chars) AT A CALL, FOR THE WRITER**: a char[] of n known ints, each 0 to 255 -/
theorem backV {p : Program} {l : Launch} {e : Env} {R : Room} {s : State} {args : Array Value} {below : List Frame} {len W : Nat} {Z : State} {a0 : Array Value} {h : Heap} (hZ : Z.Warmed39 s.vm) (hw : ∀ d ∈ words, d.before a0 Z = true) {kI : Nat} (wi : (Jvm.Cond.instantiable ST kI).before a0 Z = true)
    {x b : Addr} {kC : ClassId} {cs bs : List Int32} {d v0 c0 : Value} {z N : Int32} {n n0 : Nat} (hx0 : n0 ≤ x) (hh0 : n0 ≤ h.size) (E : RoadKit.Exa Z h x ST) (V : RoadKit.Fld Z h x ST "value" "[B" v0) (C : RoadKit.Fld Z h x ST "coder" "B" c0) (K : RoadKit.Arv Z h b kC .char N (cs.map Value.int) d) (S : RoadKit.Sta Z h ST "COMPACT_STRINGS" "Z" (.int z)) (hz : ¬ z = 0)
    (hn : cs.length = n) (hN : N = Int32.ofNat n) (l0 : 0 < n) (l2 : n ≤ 4000) (hp : ∀ c ∈ cs, ¬ c < 0 ∧ ¬ (255 : Int32) < c) (hb : bs = cs.map (fun c => c.toInt8.toInt32)) (hfr : 4 ≤ R.frames) (hlo : W + 65 ≤ R.locals) :
    Back l R p e below s args (⟨"java/lang/String", "<init>", "([C)V"⟩ : MethodName) len W (fun P a => a = #[.ref x, .ref b] ∧ P.U.heap = h ∧ P.cells + 1 ≤ R.cells ∧ P.slots + n ≤ R.slots)
      (fun P _ v B => ∃ L, QV Z x N bs h n0 v B.U.heap L ∧ B.locs = P.locs ++ L ∧ B.cells = P.cells + 1 ∧ B.slots = P.slots + n) := by
  subst hn hN hb
  refine Back.mono (backArv hZ hw wi E V C K S hz (n32 (by omega)) l0 (by omega) (fun c hc => (hp c hc).2) hfr hlo) (fun P a hp => hp) (fun P a v B hp hq => ?_)
  obtain ⟨L, ⟨q1, q2, q3, q4, q5, q6, q7, ⟨kb, v1, v2⟩, q9⟩, hl, hc, hs⟩ := hq
  exact ⟨L, ⟨q1, fun y hy => by rw [q2 y hy]; exact hx0, q3, q5, q7, h.size, kb, hh0, Nat.le_refl _, Nat.ne_of_gt E.lt, q6, by rw [List.map_map]; exact v2⟩, hl, hc, hs⟩
end StrChars.Road
namespace StrChars
open Jvm Sem ClassFile Op Lib Jvm.Stand Jvm.Free.XT Jvm.Free.ALB Jvm.Free.JM Jvm.Free
open Jvm.Lib.Cold (StaticIs)
def hi8 (x : Int32) : Int32 := lo8 (x >>> ((8 : Int32) &&& 31))
/-- what StringUTF16.getChar makes of two bytes -/
def pairCh (u v : Int32) : Int32 := (((u &&& 255) <<< ((0 : Int32) &&& 31)) ||| ((v &&& 255) <<< ((8 : Int32) &&& 31))).toUInt32.toUInt16.toUInt32.toInt32
theorem shr0 (c : Int32) : c >>> ((0 : Int32) &&& 31) = c := by
  have e : ((0 : Int32) &&& 31) = 0 := by decide
  rw [e]
  apply Int32.toBitVec_inj.mp
  rw [Int32.toBitVec_shiftRight]
  have e1 : ((0 : Int32).toBitVec.smod 32) = 0#32 := by decide
  rw [e1, BitVec.sshiftRight_eq']
  exact BitVec.sshiftRight_zero
theorem lo8_and (x : Int32) : (lo8 x &&& 255).toBitVec.toNat = x.toBitVec.toNat % 256 := by
  have h : (lo8 x).toBitVec = (x.toBitVec.signExtend 8).signExtend 32 := by rw [lo8, Int8.toBitVec_toInt32, Int32.toBitVec_toInt8]
  rw [Int32.toBitVec_and, BitVec.toNat_and, h]
  have e : ((x.toBitVec.signExtend 8).signExtend 32).toNat % 256 = x.toBitVec.toNat % 256 := by
    rw [BitVec.toNat_signExtend]
    have hlt := x.toBitVec.isLt
    simp only [BitVec.toNat_setWidth, BitVec.toNat_signExtend]
    split <;> split <;> omega
  rw [← e]
  exact Nat.and_two_pow_sub_one_eq_mod _ 8
theorem pair_says {c : Int32} (h0 : ¬ c < 0) (h1 : ¬ 65535 < c) : pairCh (lo8 c) (hi8 c) = c := by
  rw [Int32.lt_iff_toInt_lt] at h0 h1
  have e0 : (0 : Int32).toInt = 0 := rfl
  have e1 : (65535 : Int32).toInt = 65535 := rfl
  have hc : c.toInt = c.toBitVec.toNat := by
    have := c.toBitVec.isLt
    have e : c.toInt = c.toBitVec.toInt := rfl
    rw [e] at h0 h1
    rw [e]
    rw [BitVec.toInt_eq_toNat_cond] at h0 h1 ⊢
    split at h0 <;> split <;> omega
  have hn : c.toBitVec.toNat < 65536 := by omega
  have a1 := lo8_and c
  have a2 : (hi8 c &&& 255).toBitVec.toNat = c.toBitVec.toNat / 256 := by
    rw [hi8, lo8_and]
    have e : ((8 : Int32) &&& 31) = 8 := by decide
    rw [e, Int32.toBitVec_shiftRight]
    have e2 : ((8 : Int32).toBitVec.smod 32) = 8#32 := by decide
    rw [e2, BitVec.sshiftRight_eq', BitVec.toNat_sshiftRight_of_msb_false (by rw [BitVec.msb_eq_false_iff_two_mul_lt]; omega)]
    show c.toBitVec.toNat >>> 8 % 256 = _
    rw [Nat.shiftRight_eq_div_pow]
    omega
  unfold pairCh
  apply Int32.toBitVec_inj.mp
  apply BitVec.eq_of_toNat_eq
  have f0 : ((0 : Int32) &&& 31) = 0 := by decide
  have f8 : ((8 : Int32) &&& 31) = 8 := by decide
  rw [f0, f8]
  have g : (((lo8 c &&& 255) <<< (0 : Int32)) ||| ((hi8 c &&& 255) <<< (8 : Int32))).toBitVec.toNat = c.toBitVec.toNat := by
    rw [Int32.toBitVec_or, Int32.toBitVec_shiftLeft, Int32.toBitVec_shiftLeft]
    have s0 : ((0 : Int32).toBitVec.smod 32) = 0#32 := by decide
    have s8 : ((8 : Int32).toBitVec.smod 32) = 8#32 := by decide
    rw [s0, s8, BitVec.toNat_or]
    simp only [BitVec.shiftLeft_eq', BitVec.toNat_shiftLeft, a1, a2]
    show (c.toBitVec.toNat % 256) <<< 0 % 2 ^ 32 ||| (c.toBitVec.toNat / 256) <<< 8 % 2 ^ 32 = _
    rw [Nat.shiftLeft_zero, Nat.mod_eq_of_lt (show c.toBitVec.toNat % 256 < 2 ^ 32 by omega), Nat.mod_eq_of_lt (show (c.toBitVec.toNat / 256) <<< 8 < 2 ^ 32 by rw [Nat.shiftLeft_eq]; omega), Nat.or_comm, ← Nat.shiftLeft_add_eq_or_of_lt (by omega), Nat.shiftLeft_eq]
    omega
  show BitVec.toNat (((((lo8 c &&& 255) <<< (0 : Int32)) ||| ((hi8 c &&& 255) <<< (8 : Int32))).toBitVec.setWidth 16).setWidth 32) = _
  rw [BitVec.toNat_setWidth, BitVec.toNat_setWidth, g]
  omega
end StrChars
namespace StrChars
open Jvm Sem ClassFile Op Lib Jvm.Stand Jvm.Free.XT Jvm.Free.ALB Jvm.Free.JM Jvm.Free
open Jvm.Lib.Cold (StaticIs)
theorem shr1 {n : Nat} (h : 2 * n < 2 ^ 31) : Int32.ofNat (2 * n) >>> ((1 : Int32) &&& 31) = Int32.ofNat n := by
  have e : ((1 : Int32) &&& 31) = 1 := by decide
  rw [e]
  apply Int32.toBitVec_inj.mp
  rw [Int32.toBitVec_shiftRight]
  have e1 : ((1 : Int32).toBitVec.smod 32) = 1#32 := by decide
  have hm : (BitVec.ofNat 32 (2 * n)).toNat = 2 * n := by rw [BitVec.toNat_ofNat, Nat.mod_eq_of_lt (by omega)]
  rw [e1, BitVec.sshiftRight_eq']
  apply BitVec.eq_of_toNat_eq
  show ((BitVec.ofNat 32 (2 * n)).sshiftRight 1).toNat = (BitVec.ofNat 32 n).toNat
  rw [BitVec.toNat_sshiftRight_of_msb_false (by rw [BitVec.msb_eq_false_iff_two_mul_lt, hm]; omega), hm, BitVec.toNat_ofNat, Nat.shiftRight_eq_div_pow]
  omega
/-- the array's cell V codes the n chars f 0 .. f (n - 1) by the coder cd, as the JDK does: coder 1 just where some char is above 255 -/
def Cod (cd : Int32) (n : Nat) (f : Nat → Int32) (V : Cell) : Prop := (cd = 0 ∧ V.slots.size = n ∧ ∀ j, j < n → V.slots[j]? = some (.int (lo8 (f j))) ∧ ¬ 255 < f j) ∨ (cd = 1 ∧ V.slots.size = 2 * n ∧ (∀ j, j < n → V.slots[2 * j]? = some (.int (lo8 (f j))) ∧ V.slots[2 * j + 1]? = some (.int (hi8 (f j)))) ∧ ∃ j, j < n ∧ 255 < f j)
theorem Cod.cd {cd : Int32} {n : Nat} {f : Nat → Int32} {V : Cell} (h : Cod cd n f V) : cd = 0 ∨ cd = 1 := h.imp (fun q => q.1) fun q => q.1
theorem Cod.len {cd : Int32} {n : Nat} {f : Nat → Int32} {V : Cell} (h : Cod cd n f V) (hs : V.slots.size < 2 ^ 31) : Int32.ofNat V.slots.size >>> (cd &&& 31) = Int32.ofNat n := by
  rcases h with ⟨rfl, h, -⟩ | ⟨rfl, h, -⟩
  · rw [shr0, h]
  · rw [h, shr1 (by omega)]
/-- **x is a String of the n chars f 0 .. f (n - 1)**, Latin-1 or UTF-16; its array at t has the cell V -/
def Txt (x t : Addr) (V : Cell) (cd : Int32) (n : Nat) (f : Nat → Int32) (U : State) : Prop := Exact "java/lang/String" x U ∧ Has x "java/lang/String" "value" "[B" (.ref t) U ∧ Has x "java/lang/String" "coder" "B" (.int cd) U ∧ XT.Arr .byte t V U ∧ Cod cd n f V ∧ ∀ j, j < n → ¬ f j < 0 ∧ ¬ 65535 < f j
theorem Txt.mv {x t : Addr} {V : Cell} {cd : Int32} {n : Nat} {f : Nat → Int32} {U U' : State} (h : Txt x t V cd n f U) (hal : U.vm.Alike U'.vm) (hh : U'.heap = U.heap) : Txt x t V cd n f U' := ⟨h.1.mv hal hh, h.2.1.mv hal hh, h.2.2.1.mv hal hh, h.2.2.2.1.mv hal hh, h.2.2.2.2⟩
namespace Cdr
def yN : MethodName := ⟨"java/lang/String", "coder", "()B"⟩
abbrev yB : ByteArray := jdk_42_method_152_code
theorem d0 : decode yB 0 = .ok (.getstatic 38, 3) := by decide +kernel
theorem d3 : decode yB 3 = .ok (.ifCond (.eq) 10, 3) := by decide +kernel
theorem d6 : decode yB 6 = .ok (.aload_n 0, 1) := by decide +kernel
theorem d7 : decode yB 7 = .ok (.getfield 15, 3) := by decide +kernel
theorem d10 : decode yB 10 = .ok (.goto 4, 3) := by decide +kernel
theorem d14 : decode yB 14 = .ok (.ireturn, 1) := by decide +kernel
def site : List Cond := [.fieldLink "java/lang/String" 38 "java/lang/String" "COMPACT_STRINGS" "Z", .fieldLink "java/lang/String" 15 "java/lang/String" "coder" "B"]
def tab : Cond := tabOf yN yB 1 (some .byte) site
def P (x : Addr) (cd z : Int32) (args : Array Value) (s : State) : Prop := args = #[.ref x] ∧ Has x "java/lang/String" "coder" "B" (.int cd) s ∧ (cd = 0 ∨ cd = 1) ∧ StaticIs s "java/lang/String" "COMPACT_STRINGS" "Z" (.int z) ∧ ¬ z = 0
def E (cd : Int32) (r : Option Value) (s u : State) : Prop := XT.PureE (some (.int cd)) r s u
theorem law (l : Launch) (x : Addr) (cd z : Int32) : Law l yN 1 0 0 0 yB 1 (some .byte) site (P x cd z) (E cd) [] 0 0 := by
  refine Law.of_walk (plainFor_of_name (by decide +kernel)) (by decide +kernel) (by decide +kernel) (by decide) (fun _ _ h => by rw [h.1]; rfl) (fun _ U U' hal hh h => ⟨h.1, h.2.1.mv hal hh, h.2.2.1, h.2.2.2.1.there hal hh, h.2.2.2.2⟩) (fun r U U' V V' h1 hal h2 h => XT.PureE.mv r U U' V V' h1 hal h2 h) ?_
  intro p e s m args below meth c s₁ X0 hexec hbytes hml hret hlk hnm hown hh0 W hP
  obtain ⟨rfl, hx, hc, s1, hz⟩ := hP
  have c1 : Steps p.tables e below (s₁.setTop (entryFrame m #[.ref x] 1)) (s₁.setTop (mkF m 0 #[.val (.ref x)] [])) := entry rfl
  obtain ⟨T2, X2, q2, st2⟩ := X0.sget hexec hown (wk W (.fieldLink "java/lang/String" 38 "java/lang/String" "COMPACT_STRINGS" "Z")) s1 (fun _ _ h => by rw [hh0]; exact h) (g := (mkF m 0 #[.val (.ref x)] [])) rfl (hb hbytes d0)
  have hh2 := q2.trans hh0
  have c3 : Steps p.tables e below (s₁.setTop (entryFrame m #[.ref x] 1)) (T2.setTop (mkF m 7 #[.val (.ref x)] [.ref x])) := (c1.trans (st2 _ (Steps.refl _))).trans (by
    refine XS.ifNo X2.here hexec rfl (hb hbytes d3) rfl (i0_eq_f hz) ?_
    refine XS.aloadN X2.here hexec rfl (hb hbytes d6) rfl rfl ?_
    exact Steps.refl _)
  obtain ⟨T4, X4, q4, st4⟩ := X2.hget hexec hown (wk W (.fieldLink "java/lang/String" 15 "java/lang/String" "coder" "B")) (hx.mv X2.warmed.alike hh2) (g := (mkF m 7 #[.val (.ref x)] [.ref x])) rfl (rest := []) rfl (hb hbytes d7)
  have c5 : Steps p.tables e below (s₁.setTop (entryFrame m #[.ref x] 1)) (T4.setTop (mkF m 14 #[.val (.ref x)] [.int cd])) := (c3.trans (st4 _ (Steps.refl _))).trans (by
    refine XS.goto X4.here hexec rfl (pc0 := 10) rfl (hb hbytes d10) (by decide) rfl ?_
    exact Steps.refl _)
  exact ⟨T4, some (.int cd), _, _, _, X4, rfl, rfl, rfl, (fun h => by cases h), ⟨rfl, q4.trans hh2⟩, fun fs hl => c5.trans (X4.ireturnOut hexec hret (by rcases hc with rfl | rfl <;> rfl) (Or.inr (Or.inr (Or.inl rfl))) (hb hbytes d14) hl)⟩
end Cdr
namespace Len
def yN : MethodName := ⟨"java/lang/String", "length", "()I"⟩
abbrev yB : ByteArray := jdk_42_method_54_code
theorem d0 : decode yB 0 = .ok (.aload_n 0, 1) := by decide +kernel
theorem d1 : decode yB 1 = .ok (.getfield 9, 3) := by decide +kernel
theorem d4 : decode yB 4 = .ok (.arraylength, 1) := by decide +kernel
theorem d5 : decode yB 5 = .ok (.aload_n 0, 1) := by decide +kernel
theorem d6 : decode yB 6 = .ok (.invokevirtual 335, 3) := by decide +kernel
theorem d9 : decode yB 9 = .ok (.ishr, 1) := by decide +kernel
theorem d10 : decode yB 10 = .ok (.ireturn, 1) := by decide +kernel
def site : List Cond := [.fieldLink "java/lang/String" 9 "java/lang/String" "value" "[B", Cdr.tab] ++ virtW "java/lang/String" 335 "java/lang/String" Cdr.yN Cdr.yN
def tab : Cond := tabOf yN yB 1 (some .int) site
def P (x t : Addr) (V : Cell) (cd : Int32) (n : Nat) (f : Nat → Int32) (z : Int32) (args : Array Value) (s : State) : Prop := args = #[.ref x] ∧ Txt x t V cd n f s ∧ StaticIs s "java/lang/String" "COMPACT_STRINGS" "Z" (.int z) ∧ ¬ z = 0
def E (n : Nat) (r : Option Value) (s u : State) : Prop := XT.PureE (some (.int (Int32.ofNat n))) r s u
/-- length() of a String of n chars, in either coding -/
theorem law (l : Launch) (x t : Addr) (V : Cell) (cd : Int32) (n : Nat) (f : Nat → Int32) (z : Int32) : Law l yN 1 0 1 13 yB 1 (some .int) site (P x t V cd n f z) (E n) [] 0 0 := by
  refine Law.of_walk (plainFor_of_name (by decide +kernel)) (by decide +kernel) (by decide +kernel) (by decide) (fun _ _ h => by rw [h.1]; rfl) (fun _ U U' hal hh h => ⟨h.1, h.2.1.mv hal hh, h.2.2.1.there hal hh, h.2.2.2⟩) (fun r U U' V V' h1 hal h2 h => XT.PureE.mv r U U' V V' h1 hal h2 h) ?_
  intro p e s m args below meth c s₁ X0 hexec hbytes hml hret hlk hnm hown hh0 W hP
  obtain ⟨rfl, hx, s1, hz⟩ := hP
  have v31 := hx.2.2.2.1.2.2.2
  have c1 : Steps p.tables e below (s₁.setTop (entryFrame m #[.ref x] 1)) (s₁.setTop (mkF m 1 #[.val (.ref x)] [.ref x])) := Steps.trans (entry rfl) (by
    show Steps p.tables e below (s₁.setTop (mkF m 0 #[.val (.ref x)] [])) _
    refine XS.aloadN X0.here hexec rfl (hb hbytes d0) rfl rfl ?_
    exact Steps.refl _)
  obtain ⟨T2, X2, q2, st2⟩ := X0.hget hexec hown (wk W (.fieldLink "java/lang/String" 9 "java/lang/String" "value" "[B")) (hx.mv X0.warmed.alike hh0).2.1 (g := (mkF m 1 #[.val (.ref x)] [.ref x])) rfl (rest := []) rfl (hb hbytes d1)
  have hh2 := q2.trans hh0
  have hx2 := hx.mv X2.warmed.alike hh2
  have c3 : Steps p.tables e below (s₁.setTop (entryFrame m #[.ref x] 1)) (T2.setTop (mkF m 6 #[.val (.ref x)] [.ref x, .int (Int32.ofNat V.slots.size)])) := (c1.trans (st2 _ (Steps.refl _))).trans (by
    refine X2.alen hexec hx2.2.2.2.1 rfl rfl (hb hbytes d4) ?_
    refine XS.aloadN X2.here hexec rfl (hb hbytes d5) rfl rfl ?_
    exact Steps.refl _)
  obtain ⟨v4, T4, X4, E4, g4⟩ := X2.callV hexec (Cdr.law l x cd z) hown (wks W (virtW "java/lang/String" 335 "java/lang/String" Cdr.yN Cdr.yN)) rfl (by decide) (wk W Cdr.tab) (W := 1) (Nat.le_of_ble_eq_true rfl) (Nat.le_of_ble_eq_true rfl) (Nat.le_refl _) (Nat.le_refl _) (hx2.1.fc X2.warmed.alike) hx2.1.is (g := (mkF m 6 #[.val (.ref x)] [.ref x, .int (Int32.ofNat V.slots.size)])) rfl (by rw [hml]; rfl) c3 (argsL := []) (rest := [.int (Int32.ofNat V.slots.size)]) rfl rfl (by show 2 * 0 + (1 + 0) ≤ _; decide) (hb hbytes d6) (⟨rfl, hx2.2.2.1, hx.2.2.2.2.1.cd, s1.there X2.warmed.alike hh2, hz⟩)
  obtain ⟨rfl, q4⟩ := E4
  have c5 : Steps p.tables e below (s₁.setTop (entryFrame m #[.ref x] 1)) (T4.setTop (mkF m 10 #[.val (.ref x)] [.int (Int32.ofNat V.slots.size >>> (cd &&& 31))])) := Steps.trans g4 (by
    refine ishr X4.here hexec rfl (hb hbytes d9) rfl ?_
    exact Steps.refl _)
  rw [hx.2.2.2.2.1.len v31] at c5
  exact ⟨T4, some (.int (Int32.ofNat n)), _, _, _, X4, rfl, rfl, rfl, (fun h => by cases h), ⟨rfl, q4.trans hh2⟩, fun fs hl => c5.trans (X4.ireturnOut hexec hret rfl (Or.inl rfl) (hb hbytes d10) hl)⟩
theorem pays {l : Launch} {R : Room} {p : Program} {e : Env} {below : List Frame} {s : State} {sargs : Array Value} {len W : Nat} (x t : Addr) (V : Cell) (cd : Int32) (n : Nat) (f : Nat → Int32) (z : Int32) (htab : tab.before sargs s = true) (hfr : 2 ≤ R.frames) (hlo : W + 25 ≤ R.locals) :
    Back l R p e below s sargs yN len W (fun A₁ a₁ => A₁.cells + 0 ≤ R.cells ∧ A₁.slots + 0 ≤ R.slots ∧ P x t V cd n f z a₁ A₁.U) (fun A₁ _ v₁ B₁ => E n v₁ A₁.U B₁.U ∧ B₁.locs = A₁.locs ++ [] ∧ B₁.cells = A₁.cells + 0 ∧ B₁.slots = A₁.slots + 0) :=
  (law l x t V cd n f z).pays htab hfr (by omega)
end Len
end StrChars
namespace StrChars.Road
open Jvm Sem ClassFile Op Lib Jvm.Stand Jvm.Free Jvm.Free.XT
open Jvm.Lib.Cold (StaticIs)
theorem consq {a : Array Value} {s : State} {c : Jvm.Cond} {L : List Jvm.Cond} (h0 : c.before a s = true) (h : ∀ w ∈ L, w.before a s = true) : ∀ w ∈ c :: L, w.before a s = true := fun w hw => (List.mem_cons.mp hw).elim (fun e => e ▸ h0) (h w)
/-- the words of String.length(), either coding -/
abbrev wordsLen : List Jvm.Cond := [.code Len.yN Len.yB 1 (some .int), .initialized ST, .fieldLink ST 9 ST "value" "[B", .fieldLink ST 38 ST "COMPACT_STRINGS" "Z", .fieldLink ST 15 ST "coder" "B", .code Cdr.yN Cdr.yB 1 (some .byte), .methodLink ST 335 Cdr.yN, .declares Cdr.yN, .selects ST Cdr.yN Cdr.yN, .instanceMethod Cdr.yN]
theorem tabLen_of {a : Array Value} {s : State} (h : ∀ w ∈ wordsLen, w.before a s = true) : Len.tab.before a s = true := by
  have hc : Cdr.tab.before a s = true := unparts (wk h (.code Cdr.yN Cdr.yB 1 (some .byte))) (wks h (.initialized Cdr.yN.cls :: Cdr.site))
  have q := consq hc h
  exact unparts (wk q (.code Len.yN Len.yB 1 (some .int))) (wks q (.initialized Len.yN.cls :: Len.site))
theorem movedLen {Z s : State} {a0 args : Array Value} (hZ : Z.Warmed39 s.vm) (hw : ∀ d ∈ wordsLen, d.before a0 Z = true) : ∀ d ∈ wordsLen, d.before args s = true := fun d hd => by
  have q := hw d hd
  have t : ∀ d ∈ wordsLen, d = .arrayClass .byte ∨ (d.onTables && d.keepsFace) = true := by decide +kernel
  rcases t d hd with rfl | t
  · exact RoadKit.mvA hZ q
  · exact RoadKit.mv hZ q t
/-- the bytes of the chars cs, low before high -/
def wideBytes : List Int32 → List Value
  | [] => []
  | c :: cs => .int (lo8 c) :: .int (hi8 c) :: wideBytes cs
theorem wide_lo (d : Value) : ∀ (cs : List Int32) (j : Nat), j < cs.length → (wideBytes cs).getD (2 * j) d = .int (lo8 (cs.getD j 0))
  | [], j, h => absurd h (Nat.not_lt_zero j)
  | c :: cs, 0, _ => rfl
  | c :: cs, j + 1, h => by
    have q := wide_lo d cs j (by simpa using h)
    rw [show 2 * (j + 1) = 2 * j + 1 + 1 from by omega]
    simpa [wideBytes] using q
theorem wide_hi (d : Value) : ∀ (cs : List Int32) (j : Nat), j < cs.length → (wideBytes cs).getD (2 * j + 1) d = .int (hi8 (cs.getD j 0))
  | [], j, h => absurd h (Nat.not_lt_zero j)
  | c :: cs, 0, _ => rfl
  | c :: cs, j + 1, h => by
    have q := wide_hi d cs j (by simpa using h)
    rw [show 2 * (j + 1) + 1 = 2 * j + 1 + 1 + 1 from by omega]
    simpa [wideBytes] using q
theorem low_at (d : Value) (cs : List Int32) (j : Nat) (h : j < cs.length) : (cs.map fun c => Value.int (lo8 c)).getD j d = .int (lo8 (cs.getD j 0)) := by
  simp [List.getD_eq_getElem?_getD, h]
/-- an array of N2 bytes vs codes the chars cs by the coder cd -/
def CodA (cs : List Int32) (cd N2 : Int32) (vs : List Value) : Prop := (cd = 0 ∧ N2 = Int32.ofNat cs.length ∧ vs = (cs.map fun c => Value.int (lo8 c)) ∧ ∀ c ∈ cs, ¬ 255 < c) ∨ (cd = 1 ∧ N2 = Int32.ofNat (2 * cs.length) ∧ vs = wideBytes cs ∧ ∃ c ∈ cs, 255 < c)
theorem CodA.cod {cs : List Int32} {cd N2 : Int32} {vs : List Value} {V : Cell} (h : CodA cs cd N2 vs) (hn : 2 * cs.length < 2 ^ 31) (hs : V.slots.size = N2.toNatClampNeg) (hv : RoadKit.Has V vs (.int 0)) : Cod cd cs.length (fun j => cs.getD j 0) V := by
  rcases h with ⟨rfl, rfl, rfl, h⟩ | ⟨rfl, rfl, rfl, c, hc, hw⟩
  · rw [n32 (by omega)] at hs
    exact Or.inl ⟨rfl, hs, fun j hj => ⟨by rw [hv j (by omega), low_at _ _ _ hj], by
      have e : cs.getD j 0 = cs[j] := by simp [List.getD_eq_getElem?_getD, hj]
      show ¬ 255 < cs.getD j 0
      rw [e]; exact h _ (List.getElem_mem _)⟩⟩
  · rw [n32 (by omega)] at hs
    obtain ⟨j, hj, rfl⟩ := List.getElem_of_mem hc
    exact Or.inr ⟨rfl, hs, fun j hj => ⟨by rw [hv _ (by omega), wide_lo _ _ _ hj], by rw [hv _ (by omega), wide_hi _ _ _ hj]⟩, j, hj, by
      have e : cs.getD j 0 = cs[j] := by simp [List.getD_eq_getElem?_getD, hj]
      show 255 < cs.getD j 0
      rw [e]; exact hw⟩
/-- an object of exactly java/lang/String, its two fields found: as the laws ask it -/
theorem strObj {Z U : State} {a0 : Array Value} {kI : Nat} (wi : (Jvm.Cond.instantiable ST kI).before a0 Z = true) (al : Z.vm.Alike U.vm) {x : Addr} {v0 c0 : Value} (E : RoadKit.Exa Z U.heap x ST) (V : RoadKit.Fld Z U.heap x ST "value" "[B" v0) (C : RoadKit.Fld Z U.heap x ST "coder" "B" c0) :
    ∃ (D : Cell) (fV fC : Field), Blank ST x D U ∧ Found ST "value" "[B" fV U ∧ Found ST "coder" "B" fC U ∧ D.slots[fV.slot]? = some v0 ∧ D.slots[fC.slot]? = some c0 ∧ RoadKit.slotOf Z ST "value" "[B" = fV.slot ∧ RoadKit.slotOf Z ST "coder" "B" = fC.slot := by
  obtain ⟨D, cfV, kV, iV, fV, hD, gV, stV, knV, obV, asV, slV⟩ := V
  obtain ⟨D', cfC, kC, iC, fC, hD', gC, stC, -, -, asC, slC⟩ := C
  cases hD.symm.trans hD'
  obtain ⟨D2, kD, e1, e2, e3, e4, e5⟩ := E
  cases hD.symm.trans e1
  obtain ⟨c2, k2, i1, i2, i3, -⟩ := Cond.instantiable_spec wi
  cases e2.symm.trans i1
  cases e3.symm.trans i2
  obtain ⟨kU, u1, u2⟩ := al.2.2 _ _ e3
  exact ⟨D, fV, fC, ⟨hD, ⟨knV, fun q hq => by rw [hq] at obV; cases obV⟩, by rw [al.findClass]; exact e2, kU, u1, by rw [u2]; exact i3, by rw [u2]; exact e5 i3⟩, ⟨SBG.found_only al ⟨cfV, kV, iV, gV⟩, stV⟩, ⟨SBG.found_only al ⟨cfC, kC, iC, gC⟩, stC⟩, slV, slC, by simp [RoadKit.slotOf, gV], by simp [RoadKit.slotOf, gC]⟩
theorem sta_is {Z U : State} (al : Z.vm.Alike U.vm) {C n d : String} {v : Value} (S : RoadKit.Sta Z U.heap C n d v) : StaticIs U C n d v := by
  obtain ⟨cfS, iS, kS, fS, st, cS, t1, t2, t3, t4, t5, t6, t7⟩ := S
  exact StaticIs.there (s := { Z with heap := U.heap }) ⟨cfS, iS, kS, fS, st, cS, t1, t2, t3, t4, t5, (fun q => by rw [q] at t6; cases t6), t7⟩ al rfl
/-- **length() OF SUCH A STRING** -/
theorem lenW {p : Program} {l : Launch} {e : Env} {R : Room} {s : State} {args : Array Value} {below : List Frame} {len W : Nat} {Z : State} {a0 : Array Value} {h : Heap} (hZ : Z.Warmed39 s.vm) (hw : ∀ d ∈ wordsLen, d.before a0 Z = true) {kI : Nat} (wi : (Jvm.Cond.instantiable ST kI).before a0 Z = true)
    {x t : Addr} {kb : ClassId} {cs : List Int32} {cd N2 z : Int32} {vs : List Value} (E : RoadKit.Exa Z h x ST) (V : RoadKit.Fld Z h x ST "value" "[B" (.ref t)) (C : RoadKit.Fld Z h x ST "coder" "B" (.int cd)) (K : RoadKit.Arv Z h t kb .byte N2 vs (.int 0)) (hc : CodA cs cd N2 vs) (hb : ∀ c ∈ cs, ¬ c < 0 ∧ ¬ (65535 : Int32) < c)
    (S : RoadKit.Sta Z h ST "COMPACT_STRINGS" "Z" (.int z)) (hz : ¬ z = 0) (l2 : cs.length ≤ 4000) (hfr : 2 ≤ R.frames) (hlo : W + 25 ≤ R.locals) :
    Back l R p e below s args (⟨"java/lang/String", "length", "()I"⟩ : MethodName) len W (fun P a => a = #[.ref x] ∧ P.U.heap = h ∧ P.cells + 0 ≤ R.cells ∧ P.slots + 0 ≤ R.slots)
      (fun P _ v B => ∃ L, (v = some (.int (Int32.ofNat cs.length)) ∧ L = [] ∧ B.U.heap = h) ∧ B.locs = P.locs ++ L ∧ B.cells = P.cells + 0 ∧ B.slots = P.slots + 0) := by
  obtain ⟨A, K1, K2, K3, K4, K5, K6⟩ := K
  have hcod := hc.cod (by omega) K3 K5
  intro m meth c P g ig mk a X hg hsize hdg hW hn hp'
  obtain ⟨rfl, rfl, r1, r2⟩ := hp'
  have al : Z.vm.Alike P.U.vm := hZ.alike.trans X.warmed.alike
  obtain ⟨D, fV, fC, hB, F1, F2, g1, g2, -, -⟩ := strObj wi al E V C
  have hx : Txt x t A cd cs.length (fun j => cs.getD j 0) P.U := ⟨⟨_, hB.2.2.1, D, hB.1, rfl, by cases q : D.vm <;> first | rfl | exact absurd q (hB.2.1.2 _)⟩, Has.of hB F1 g1, Has.of hB F2 g2, ⟨K1.1, State.isArrayOf_alike al K1.2.1, K1.2.2, by rcases hcod with ⟨-, q, -⟩ | ⟨-, q, -⟩ <;> omega⟩, hcod, fun j hj => by
    have e : cs.getD j 0 = cs[j] := by simp [List.getD_eq_getElem?_getD, hj]
    show ¬ cs.getD j 0 < 0 ∧ ¬ 65535 < cs.getD j 0
    rw [e]; exact hb _ (List.getElem_mem _)⟩
  obtain ⟨v, B, X', ⟨⟨hv, hh⟩, hl, hk, hs⟩, st⟩ := Len.pays x t A cd cs.length (fun j => cs.getD j 0) z (tabLen_of (movedLen hZ hw)) hfr hlo m meth c P g ig mk _ X hg hsize hdg hW hn ⟨r1, r2, rfl, hx, sta_is al S, hz⟩
  exact ⟨v, B, X', ⟨[], ⟨hv, rfl, hh⟩, hl, hk, hs⟩, st⟩
end StrChars.Road
namespace StrChars
open Jvm Sem ClassFile Op Lib Jvm.Stand Jvm.Free.XT Jvm.Free.ALB Jvm.Free.JM Jvm.Free
open Jvm.Lib.Cold (StaticIs)
/-- what place i of a byte[]'s cell holds -/
def yv (A : Cell) (i : Nat) : Int32 := match A.slots[i]? with | some (.int x) => x | _ => 0
theorem yv_get {a : Addr} {A : Cell} {U : State} (h : XT.Arr .byte a A U) (ht : Typed .byte A) {i : Nat} (hi : i < A.slots.size) : A.slots[i]? = some (.int (yv A i)) := by
  have e := Array.getElem?_eq_getElem hi
  have f := ht i _ e
  unfold yv; rw [e]
  generalize A.slots[i] = v at f
  cases v <;> simp [fits] at f ⊢
/-- the two arrays are equal, place for place -/
def EqC (A B : Cell) : Prop := A.slots.size = B.slots.size ∧ ∀ i, i < A.slots.size → yv A i = yv B i
/-- a boolean that says whether p -/
def Says01 (q : Prop) (r : Option Value) (s u : State) : Prop := ∃ v : Int32, r = some (.int v) ∧ u.heap = s.heap ∧ ((v = 1 ∧ q) ∨ (v = 0 ∧ ¬ q))
theorem Says01.mv {q : Prop} : ∀ r (U U' V V' : State), U'.heap = U.heap → V.vm.Alike V'.vm → V'.heap = V.heap → Says01 q r U V → Says01 q r U' V' :=
  fun r U U' V V' h1 _ h2 ⟨v, a, b, c⟩ => ⟨v, a, by rw [h1, h2]; exact b, c⟩
namespace LEq
def yN : MethodName := ⟨"java/lang/StringLatin1", "equals", "([B[B)Z"⟩
abbrev yB : ByteArray := jdk_43_method_13_code
theorem d0 : decode yB 0 = .ok (.aload_n 0, 1) := by decide +kernel
theorem d1 : decode yB 1 = .ok (.arraylength, 1) := by decide +kernel
theorem d2 : decode yB 2 = .ok (.aload_n 1, 1) := by decide +kernel
theorem d3 : decode yB 3 = .ok (.arraylength, 1) := by decide +kernel
theorem d4 : decode yB 4 = .ok (.if_icmp (.ne) 30, 3) := by decide +kernel
theorem d7 : decode yB 7 = .ok (.iconst 0, 1) := by decide +kernel
theorem d8 : decode yB 8 = .ok (.istore_n 2, 1) := by decide +kernel
theorem d9 : decode yB 9 = .ok (.iload_n 2, 1) := by decide +kernel
theorem d10 : decode yB 10 = .ok (.aload_n 0, 1) := by decide +kernel
theorem d11 : decode yB 11 = .ok (.arraylength, 1) := by decide +kernel
theorem d12 : decode yB 12 = .ok (.if_icmp (.ge) 20, 3) := by decide +kernel
theorem d15 : decode yB 15 = .ok (.aload_n 0, 1) := by decide +kernel
theorem d16 : decode yB 16 = .ok (.iload_n 2, 1) := by decide +kernel
theorem d17 : decode yB 17 = .ok (.baload, 1) := by decide +kernel
theorem d18 : decode yB 18 = .ok (.aload_n 1, 1) := by decide +kernel
theorem d19 : decode yB 19 = .ok (.iload_n 2, 1) := by decide +kernel
theorem d20 : decode yB 20 = .ok (.baload, 1) := by decide +kernel
theorem d21 : decode yB 21 = .ok (.if_icmp (.eq) 5, 3) := by decide +kernel
theorem d24 : decode yB 24 = .ok (.iconst 0, 1) := by decide +kernel
theorem d25 : decode yB 25 = .ok (.ireturn, 1) := by decide +kernel
theorem d26 : decode yB 26 = .ok (.iinc 2 1, 3) := by decide +kernel
theorem d29 : decode yB 29 = .ok (.goto (-20), 3) := by decide +kernel
theorem d32 : decode yB 32 = .ok (.iconst 1, 1) := by decide +kernel
theorem d33 : decode yB 33 = .ok (.ireturn, 1) := by decide +kernel
theorem d34 : decode yB 34 = .ok (.iconst 0, 1) := by decide +kernel
theorem d35 : decode yB 35 = .ok (.ireturn, 1) := by decide +kernel
def site : List Cond := []
def tab : Cond := tabOf yN yB 3 (some .boolean) site
def P (a : Addr) (A : Cell) (b : Addr) (B : Cell) (args : Array Value) (s : State) : Prop := args = #[.ref a, .ref b] ∧ XT.Arr .byte a A s ∧ Typed .byte A ∧ XT.Arr .byte b B s ∧ Typed .byte B
/-- whether two byte[] are equal, place for place -/
theorem law (l : Launch) (a : Addr) (A : Cell) (b : Addr) (B : Cell) : Law l yN 2 2 0 0 yB 3 (some .boolean) site (P a A b B) (Says01 (EqC A B)) [] 0 0 := by
  refine Law.of_walk (plainFor_of_name (by decide +kernel)) (by decide +kernel) (by decide +kernel) (by decide) (fun _ _ h => by rw [h.1]; rfl) (fun _ U U' hal hh h => ⟨h.1, h.2.1.mv hal hh, h.2.2.1, h.2.2.2.1.mv hal hh, h.2.2.2.2⟩) (fun r U U' V V' h1 hal h2 h => Says01.mv r U U' V V' h1 hal h2 h) ?_
  intro p e s m args below meth c s₁ X0 hexec hbytes hml hret hlk hnm hown hh0 W hP
  obtain ⟨rfl, hA, tA, hB, tB⟩ := hP
  have a31 := hA.2.2.2
  have b31 := hB.2.2.2
  have hA0 := hA.mv X0.warmed.alike hh0
  have hB0 := hB.mv X0.warmed.alike hh0
  have c1 : Steps p.tables e below (s₁.setTop (entryFrame m #[.ref a, .ref b] 3)) (s₁.setTop (mkF m 0 #[.val (.ref a), .val (.ref b), .unset] [])) := entry rfl
  have c2 : Steps p.tables e below (s₁.setTop (entryFrame m #[.ref a, .ref b] 3)) (s₁.setTop (mkF m 4 #[.val (.ref a), .val (.ref b), .unset] [.int (Int32.ofNat B.slots.size), .int (Int32.ofNat A.slots.size)])) := c1.trans (by
    refine XS.aloadN X0.here hexec rfl (hb hbytes d0) rfl rfl ?_
    refine X0.alen hexec hA0 rfl rfl (hb hbytes d1) ?_
    refine XS.aloadN X0.here hexec rfl (hb hbytes d2) rfl rfl ?_
    refine X0.alen hexec hB0 rfl rfl (hb hbytes d3) ?_
    exact Steps.refl _)
  by_cases hs : A.slots.size = B.slots.size
  · have c3 : Steps p.tables e below (s₁.setTop (entryFrame m #[.ref a, .ref b] 3)) (s₁.setTop (mkF m 9 #[.val (.ref a), .val (.ref b), .val (.int 0)] [])) := c2.trans (by
      refine XS.icmpNo X0.here hexec rfl (hb hbytes d4) rfl (ii_ne_f (by rw [hs])) ?_
      refine iconstV X0.here hexec rfl 0 (hb hbytes d7) (by decide) ?_
      refine XS.istoreN X0.here hexec rfl (hb hbytes d8) rfl rfl ?_
      exact Steps.refl _)
    have loop : ∀ (r i : Nat), i + r = A.slots.size → (∀ j, j < i → yv A j = yv B j) → Steps p.tables e below (s₁.setTop (entryFrame m #[.ref a, .ref b] 3)) (s₁.setTop (mkF m 9 #[.val (.ref a), .val (.ref b), .val (.int (Int32.ofNat i))] [])) → ∃ (pc : Nat) (Ls : Array Slot) (v : Int32), (pc = 25 ∨ pc = 33) ∧ ((v = 1 ∧ EqC A B) ∨ (v = 0 ∧ ¬ EqC A B)) ∧ Steps p.tables e below (s₁.setTop (entryFrame m #[.ref a, .ref b] 3)) (s₁.setTop (mkF m pc Ls [.int v])) := by
      intro r
      induction r with
      | zero =>
        intro i hi he cl
        exact ⟨33, _, 1, Or.inr rfl, Or.inl ⟨rfl, hs, fun j hj => he j (by omega)⟩, cl.trans (by
          refine XS.iloadN X0.here hexec rfl (hb hbytes d9) rfl ?_
          refine XS.aloadN X0.here hexec rfl (hb hbytes d10) rfl rfl ?_
          refine X0.alen hexec hA0 rfl rfl (hb hbytes d11) ?_
          refine XS.icmpYes X0.here hexec rfl (pc0 := 12) rfl (hb hbytes d12) rfl (ii_ge_t (nlt32 (by omega) (by omega))) (by decide) rfl ?_
          refine iconstV X0.here hexec rfl 1 (hb hbytes d32) (by decide) ?_
          exact Steps.refl _)⟩
      | succ r ih =>
        intro i hi he cl
        have c4 : Steps p.tables e below (s₁.setTop (entryFrame m #[.ref a, .ref b] 3)) (s₁.setTop (mkF m 21 #[.val (.ref a), .val (.ref b), .val (.int (Int32.ofNat i))] [.int (yv B i), .int (yv A i)])) := cl.trans (by
          refine XS.iloadN X0.here hexec rfl (hb hbytes d9) rfl ?_
          refine XS.aloadN X0.here hexec rfl (hb hbytes d10) rfl rfl ?_
          refine X0.alen hexec hA0 rfl rfl (hb hbytes d11) ?_
          refine XS.icmpNo X0.here hexec rfl (hb hbytes d12) rfl (ii_ge_f (lt32 (by omega) (by omega))) ?_
          refine XS.aloadN X0.here hexec rfl (hb hbytes d15) rfl rfl ?_
          refine XS.iloadN X0.here hexec rfl (hb hbytes d16) rfl ?_
          refine X0.aget hexec hA0 rfl (yv_get hA tA (i := i) (by omega)) rfl rfl (hb hbytes d17) ?_
          refine XS.aloadN X0.here hexec rfl (hb hbytes d18) rfl rfl ?_
          refine XS.iloadN X0.here hexec rfl (hb hbytes d19) rfl ?_
          refine X0.aget hexec hB0 rfl (yv_get hB tB (i := i) (by omega)) rfl rfl (hb hbytes d20) ?_
          exact Steps.refl _)
        by_cases hv : yv A i = yv B i
        · have c5 : Steps p.tables e below (s₁.setTop (entryFrame m #[.ref a, .ref b] 3)) (s₁.setTop (mkF m 9 #[.val (.ref a), .val (.ref b), .val (.int (Int32.ofNat i + 1))] [])) := c4.trans (by
            refine XS.icmpYes X0.here hexec rfl (pc0 := 21) rfl (hb hbytes d21) rfl (ii_eq_t hv) (by decide) rfl ?_
            refine iincV X0.here hexec rfl 1 (hb hbytes d26) (by decide) rfl rfl ?_
            refine XS.goto X0.here hexec rfl (pc0 := 29) rfl (hb hbytes d29) (by decide) rfl ?_
            exact Steps.refl _)
          rw [succ32] at c5
          exact ih (i + 1) (by omega) (fun j hj => by
            by_cases e : j = i
            · rw [e]; exact hv
            · exact he j (by omega)) c5
        · exact ⟨25, _, 0, Or.inl rfl, Or.inr ⟨rfl, fun q => hv (q.2 i (by omega))⟩, c4.trans (by
            refine XS.icmpNo X0.here hexec rfl (hb hbytes d21) rfl (ii_eq_f hv) ?_
            refine iconstV X0.here hexec rfl 0 (hb hbytes d24) (by decide) ?_
            exact Steps.refl _)⟩
    obtain ⟨pc, Ls, v, hpc, hv, cz⟩ := loop A.slots.size 0 (by omega) (fun j hj => absurd hj (Nat.not_lt_zero j)) c3
    have nv : narrow .boolean (.int v) = .int v := by rcases hv with ⟨rfl, -⟩ | ⟨rfl, -⟩ <;> rfl
    rcases hpc with rfl | rfl
    · exact ⟨s₁, some (.int v), _, _, _, X0, rfl, rfl, rfl, (fun h => by cases h), ⟨v, rfl, hh0, hv⟩, fun fs hl => cz.trans (X0.ireturnOut hexec hret nv (Or.inr (Or.inl rfl)) (hb hbytes d25) hl)⟩
    · exact ⟨s₁, some (.int v), _, _, _, X0, rfl, rfl, rfl, (fun h => by cases h), ⟨v, rfl, hh0, hv⟩, fun fs hl => cz.trans (X0.ireturnOut hexec hret nv (Or.inr (Or.inl rfl)) (hb hbytes d33) hl)⟩
  · have c3 : Steps p.tables e below (s₁.setTop (entryFrame m #[.ref a, .ref b] 3)) (s₁.setTop (mkF m 35 #[.val (.ref a), .val (.ref b), .unset] [.int 0])) := c2.trans (by
      refine XS.icmpYes X0.here hexec rfl (pc0 := 4) rfl (hb hbytes d4) rfl (ii_ne_t (ne32 a31 b31 hs)) (by decide) rfl ?_
      refine iconstV X0.here hexec rfl 0 (hb hbytes d34) (by decide) ?_
      exact Steps.refl _)
    exact ⟨s₁, some (.int 0), _, _, _, X0, rfl, rfl, rfl, (fun h => by cases h), ⟨0, rfl, hh0, Or.inr ⟨rfl, fun q => hs q.1⟩⟩, fun fs hl => c3.trans (X0.ireturnOut hexec hret rfl (Or.inr (Or.inl rfl)) (hb hbytes d35) hl)⟩
end LEq
theorem Cod.ty {cd : Int32} {n : Nat} {f : Nat → Int32} {V : Cell} (h : Cod cd n f V) : Typed .byte V := fun i v hv => by
  have hi : i < V.slots.size := (Array.getElem?_eq_some_iff.mp hv).1
  rcases h with ⟨-, k1, k2⟩ | ⟨-, k1, k2, -⟩
  · rw [(k2 i (by omega)).1] at hv; cases hv; exact fits_lo8 _
  · rcases Nat.mod_two_eq_zero_or_one i with e | e
    · obtain ⟨j, rfl⟩ : ∃ j, i = 2 * j := ⟨i / 2, by omega⟩
      rw [(k2 j (by omega)).1] at hv; cases hv; exact fits_lo8 _
    · obtain ⟨j, rfl⟩ : ∃ j, i = 2 * j + 1 := ⟨i / 2, by omega⟩
      rw [(k2 j (by omega)).2] at hv; cases hv; exact fits_lo8 _
/-- the same text -/
def SameT (n : Nat) (f : Nat → Int32) (k : Nat) (g : Nat → Int32) : Prop := n = k ∧ ∀ j, j < n → f j = g j
theorem lo8_inj {x y : Int32} (h0 : ¬ x < 0) (h1 : ¬ 255 < x) (k0 : ¬ y < 0) (k1 : ¬ 255 < y) (h : lo8 x = lo8 y) : x = y := by
  rw [← lo8_mask h0 h1, ← lo8_mask k0 k1, h]
/-- arrays coded by one coder are equal just where the texts are -/
theorem Cod.eqv {cd : Int32} {n k : Nat} {f g : Nat → Int32} {V V' : Cell} (h : Cod cd n f V) (h' : Cod cd k g V') (hf : ∀ j, j < n → ¬ f j < 0 ∧ ¬ 65535 < f j) (hg : ∀ j, j < k → ¬ g j < 0 ∧ ¬ 65535 < g j) : EqC V V' ↔ SameT n f k g := by
  have yvv : ∀ {W : Cell} {i : Nat} {x : Int32}, W.slots[i]? = some (.int x) → yv W i = x := fun q => by unfold yv; rw [q]
  rcases h with ⟨rfl, k1, k2⟩ | ⟨rfl, k1, k2, -⟩
  · rcases h' with ⟨-, m1, m2⟩ | ⟨e, -⟩
    · constructor
      · rintro ⟨e1, e2⟩
        refine ⟨by omega, fun j hj => ?_⟩
        have q := e2 j (by omega)
        rw [yvv (k2 j hj).1, yvv (m2 j (by omega)).1] at q
        exact lo8_inj (hf j hj).1 (k2 j hj).2 (hg j (by omega)).1 (m2 j (by omega)).2 q
      · rintro ⟨rfl, e2⟩
        refine ⟨by omega, fun j hj => ?_⟩
        rw [yvv (k2 j (by omega)).1, yvv (m2 j (by omega)).1, e2 j (by omega)]
    · exact absurd e (by decide)
  · rcases h' with ⟨e, -⟩ | ⟨-, m1, m2, -⟩
    · exact absurd e (by decide)
    · constructor
      · rintro ⟨e1, e2⟩
        refine ⟨by omega, fun j hj => ?_⟩
        have q1 := e2 (2 * j) (by omega)
        have q2 := e2 (2 * j + 1) (by omega)
        rw [yvv (k2 j hj).1, yvv (m2 j (by omega)).1] at q1
        rw [yvv (k2 j hj).2, yvv (m2 j (by omega)).2] at q2
        rw [← pair_says (hf j hj).1 (hf j hj).2, ← pair_says (hg j (by omega)).1 (hg j (by omega)).2, q1, q2]
      · rintro ⟨rfl, e2⟩
        refine ⟨by omega, fun i hi => ?_⟩
        rcases Nat.mod_two_eq_zero_or_one i with e | e
        · obtain ⟨j, rfl⟩ : ∃ j, i = 2 * j := ⟨i / 2, by omega⟩
          rw [yvv (k2 j (by omega)).1, yvv (m2 j (by omega)).1, e2 j (by omega)]
        · obtain ⟨j, rfl⟩ : ∃ j, i = 2 * j + 1 := ⟨i / 2, by omega⟩
          rw [yvv (k2 j (by omega)).2, yvv (m2 j (by omega)).2, e2 j (by omega)]
/-- two codings differ: so do the texts -/
theorem Cod.dif {cd cd' : Int32} {n k : Nat} {f g : Nat → Int32} {V V' : Cell} (h : Cod cd n f V) (h' : Cod cd' k g V') (hne : ¬ cd = cd') : ¬ SameT n f k g := by
  rintro ⟨rfl, e⟩
  rcases h with ⟨rfl, -, k2⟩ | ⟨rfl, -, -, j, hj, hw⟩
  · rcases h' with ⟨rfl, -⟩ | ⟨-, -, -, j, hj, hw⟩
    · exact hne rfl
    · exact (k2 j hj).2 (by rw [e j hj]; exact hw)
  · rcases h' with ⟨-, -, m2⟩ | ⟨rfl, -⟩
    · exact (m2 j hj).2 (by rw [← e j hj]; exact hw)
    · exact hne rfl
/-- an object of exactly C is an instance of C -/
theorem cinst {p : Program} {l : Launch} {e : Env} {R : Room} {s : State} {m : MethodId} {args : Array Value} {below : List Frame} {meth : Method} {c : Code} {T : State} {locs : List Loc} {cells slots : Nat} (X : Stand p l e R s m args below meth c T locs cells slots) (hexec : p.tables.exec = Jvm.exec) {own C : String} {index : Nat} (hown : s.vm.findClass own = some m.cls) (hlink : (Cond.classLink own index C).before args s = true) {a : Addr} (hE : Exact C a T)
    {g : JFrame} (hg : g.method = m) {rest : List Value} (hstack : g.stack = .ref a :: rest) (hdg : decode c.code g.pc = .ok (.instanceof index, 3)) :
    ∃ T', Stand p l e R s m args below meth c T' locs cells slots ∧ T'.heap = T.heap ∧ ∀ target, Steps p.tables e below (T'.setTop { g with pc := g.pc + 3, stack := .int 1 :: rest }) target → Steps p.tables e below (T.setTop g) target := by
  obtain ⟨cB, h1, D, h2, h3, h4⟩ := hE
  have h1' : s.vm.findClass C = some cB := by rw [← X.warmed.alike.findClass]; exact h1
  obtain ⟨vm', X', st⟩ := X.instanceofYes hexec hown hlink h2 h4 h1' (by rw [h3]; exact Jvm.Free.SB.assignable_self _ _) hg hstack hdg
  exact ⟨_, X', rfl, st⟩
theorem cself {p : Program} {l : Launch} {e : Env} {R : Room} {s : State} {m : MethodId} {args : Array Value} {below : List Frame} {meth : Method} {c : Code} {T : State} {locs : List Loc} {cells slots : Nat} (X : Stand p l e R s m args below meth c T locs cells slots) (hexec : p.tables.exec = Jvm.exec) {own C : String} {index : Nat} (hown : s.vm.findClass own = some m.cls) (hlink : (Cond.classLink own index C).before args s = true) {a : Addr} (hE : Exact C a T)
    {g : JFrame} (hg : g.method = m) {rest : List Value} (hstack : g.stack = .ref a :: rest) (hdg : decode c.code g.pc = .ok (.checkcast index, 3)) :
    ∃ T', Stand p l e R s m args below meth c T' locs cells slots ∧ T'.heap = T.heap ∧ ∀ target, Steps p.tables e below (T'.setTop { g with pc := g.pc + 3, stack := .ref a :: rest }) target → Steps p.tables e below (T.setTop g) target := by
  obtain ⟨cB, h1, D, h2, h3, h4⟩ := hE
  have h1' : s.vm.findClass C = some cB := by rw [← X.warmed.alike.findClass]; exact h1
  obtain ⟨vm', X', st⟩ := X.checkcastYes hexec hown hlink h2 h4 h1' (by rw [h3]; exact Jvm.Free.SB.assignable_self _ _) hg hstack hdg
  exact ⟨_, X', rfl, fun t h => st t (by rw [← hstack] at h; exact h)⟩
namespace SEq
def yN : MethodName := ⟨"java/lang/String", "equals", "(Ljava/lang/Object;)Z"⟩
abbrev yB : ByteArray := jdk_42_method_66_code
theorem d0 : decode yB 0 = .ok (.aload_n 0, 1) := by decide +kernel
theorem d1 : decode yB 1 = .ok (.aload_n 1, 1) := by decide +kernel
theorem d2 : decode yB 2 = .ok (.if_acmp (.ne) 5, 3) := by decide +kernel
theorem d5 : decode yB 5 = .ok (.iconst 1, 1) := by decide +kernel
theorem d6 : decode yB 6 = .ok (.ireturn, 1) := by decide +kernel
theorem d7 : decode yB 7 = .ok (.aload_n 1, 1) := by decide +kernel
theorem d8 : decode yB 8 = .ok (.instanceof 10, 3) := by decide +kernel
theorem d11 : decode yB 11 = .ok (.ifCond (.eq) 43, 3) := by decide +kernel
theorem d14 : decode yB 14 = .ok (.aload_n 1, 1) := by decide +kernel
theorem d15 : decode yB 15 = .ok (.checkcast 10, 3) := by decide +kernel
theorem d18 : decode yB 18 = .ok (.astore_n 2, 1) := by decide +kernel
theorem d19 : decode yB 19 = .ok (.getstatic 38, 3) := by decide +kernel
theorem d22 : decode yB 22 = .ok (.ifCond (.eq) 14, 3) := by decide +kernel
theorem d25 : decode yB 25 = .ok (.aload_n 0, 1) := by decide +kernel
theorem d26 : decode yB 26 = .ok (.getfield 15, 3) := by decide +kernel
theorem d29 : decode yB 29 = .ok (.aload_n 2, 1) := by decide +kernel
theorem d30 : decode yB 30 = .ok (.getfield 15, 3) := by decide +kernel
theorem d33 : decode yB 33 = .ok (.if_icmp (.ne) 21, 3) := by decide +kernel
theorem d36 : decode yB 36 = .ok (.aload_n 0, 1) := by decide +kernel
theorem d37 : decode yB 37 = .ok (.getfield 9, 3) := by decide +kernel
theorem d40 : decode yB 40 = .ok (.aload_n 2, 1) := by decide +kernel
theorem d41 : decode yB 41 = .ok (.getfield 9, 3) := by decide +kernel
theorem d44 : decode yB 44 = .ok (.invokestatic 541, 3) := by decide +kernel
theorem d47 : decode yB 47 = .ok (.ifCond (.eq) 7, 3) := by decide +kernel
theorem d50 : decode yB 50 = .ok (.iconst 1, 1) := by decide +kernel
theorem d51 : decode yB 51 = .ok (.goto 4, 3) := by decide +kernel
theorem d54 : decode yB 54 = .ok (.iconst 0, 1) := by decide +kernel
theorem d55 : decode yB 55 = .ok (.ireturn, 1) := by decide +kernel
def site : List Cond := [.classLink "java/lang/String" 10 "java/lang/String", .fieldLink "java/lang/String" 38 "java/lang/String" "COMPACT_STRINGS" "Z", .fieldLink "java/lang/String" 15 "java/lang/String" "coder" "B", .fieldLink "java/lang/String" 9 "java/lang/String" "value" "[B", LEq.tab] ++ staticW "java/lang/String" 541 LEq.yN
def tab : Cond := tabOf yN yB 3 (some .boolean) site
def P (x t : Addr) (V : Cell) (cd : Int32) (n : Nat) (f : Nat → Int32) (y t' : Addr) (V' : Cell) (cd' : Int32) (k : Nat) (g : Nat → Int32) (z : Int32) (args : Array Value) (s : State) : Prop := args = #[.ref x, .ref y] ∧ Txt x t V cd n f s ∧ Txt y t' V' cd' k g s ∧ StaticIs s "java/lang/String" "COMPACT_STRINGS" "Z" (.int z) ∧ ¬ z = 0
/-- equals(Object) of two Strings: whether the texts are the same -/
theorem law (l : Launch) (x t : Addr) (V : Cell) (cd : Int32) (n : Nat) (f : Nat → Int32) (y t' : Addr) (V' : Cell) (cd' : Int32) (k : Nat) (g : Nat → Int32) (z : Int32) : Law l yN 2 1 1 14 yB 3 (some .boolean) site (P x t V cd n f y t' V' cd' k g z) (Says01 (SameT n f k g)) [] 0 0 := by
  refine Law.of_walk (plainFor_of_name (by decide +kernel)) (by decide +kernel) (by decide +kernel) (by decide) (fun _ _ h => by rw [h.1]; rfl) (fun _ U U' hal hh h => ⟨h.1, h.2.1.mv hal hh, h.2.2.1.mv hal hh, h.2.2.2.1.there hal hh, h.2.2.2.2⟩) (fun r U U' V V' h1 hal h2 h => Says01.mv r U U' V V' h1 hal h2 h) ?_
  intro p e s m args below meth c s₁ X0 hexec hbytes hml hret hlk hnm hown hh0 W hP
  obtain ⟨rfl, hx, hy, s1, hz⟩ := hP
  have c1 : Steps p.tables e below (s₁.setTop (entryFrame m #[.ref x, .ref y] 3)) (s₁.setTop (mkF m 2 #[.val (.ref x), .val (.ref y), .unset] [.ref y, .ref x])) := Steps.trans (entry rfl) (by
    show Steps p.tables e below (s₁.setTop (mkF m 0 #[.val (.ref x), .val (.ref y), .unset] [])) _
    refine XS.aloadN X0.here hexec rfl (hb hbytes d0) rfl rfl ?_
    refine XS.aloadN X0.here hexec rfl (hb hbytes d1) rfl rfl ?_
    exact Steps.refl _)
  by_cases hxy : x = y
  · have c2 : Steps p.tables e below (s₁.setTop (entryFrame m #[.ref x, .ref y] 3)) (s₁.setTop (mkF m 6 #[.val (.ref x), .val (.ref y), .unset] [.int 1])) := c1.trans (by
      refine acmpNo X0.here hexec rfl (hb hbytes d2) rfl rfl rfl (by simp [acmp, hxy]) ?_
      refine iconstV X0.here hexec rfl 1 (hb hbytes d5) (by decide) ?_
      exact Steps.refl _)
    subst hxy
    have ec : cd = cd' := by
      obtain ⟨D, fd, a1, a2, a3⟩ := hx.2.2.1
      obtain ⟨D', fd', b1, b2, b3⟩ := hy.2.2.1
      cases a1.symm.trans b1
      obtain ⟨q1, q2, q3, q4⟩ := a2.1
      obtain ⟨r1, r2, r3, r4⟩ := b2.1
      cases q4.symm.trans r4
      cases a3.symm.trans b3; rfl
    have et : t = t' := by
      obtain ⟨D, fd, a1, a2, a3⟩ := hx.2.1
      obtain ⟨D', fd', b1, b2, b3⟩ := hy.2.1
      cases a1.symm.trans b1
      obtain ⟨q1, q2, q3, q4⟩ := a2.1
      obtain ⟨r1, r2, r3, r4⟩ := b2.1
      cases q4.symm.trans r4
      cases a3.symm.trans b3; rfl
    subst ec et
    have ev : V = V' := by cases hx.2.2.2.1.1.symm.trans hy.2.2.2.1.1; rfl
    subst ev
    have hs : SameT n f k g := (Cod.eqv hx.2.2.2.2.1 hy.2.2.2.2.1 hx.2.2.2.2.2 hy.2.2.2.2.2).mp ⟨rfl, fun _ _ => rfl⟩
    exact ⟨s₁, some (.int 1), _, _, _, X0, rfl, rfl, rfl, (fun h => by cases h), ⟨1, rfl, hh0, Or.inl ⟨rfl, hs⟩⟩, fun fs hl => c2.trans (X0.ireturnOut hexec hret rfl (Or.inr (Or.inl rfl)) (hb hbytes d6) hl)⟩
  · have c2 : Steps p.tables e below (s₁.setTop (entryFrame m #[.ref x, .ref y] 3)) (s₁.setTop (mkF m 8 #[.val (.ref x), .val (.ref y), .unset] [.ref y])) := c1.trans (by
      refine acmpYes X0.here hexec rfl (pc0 := 2) rfl (hb hbytes d2) rfl rfl rfl (by simp [acmp, hxy]) (by decide) rfl ?_
      refine XS.aloadN X0.here hexec rfl (hb hbytes d7) rfl rfl ?_
      exact Steps.refl _)
    obtain ⟨T3, X3, q3, st3⟩ := cinst X0 hexec hown (wk W (.classLink "java/lang/String" 10 "java/lang/String")) (hy.mv X0.warmed.alike hh0).1 (g := (mkF m 8 #[.val (.ref x), .val (.ref y), .unset] [.ref y])) rfl (rest := []) rfl (hb hbytes d8)
    have hh3 := q3.trans hh0
    have c4 : Steps p.tables e below (s₁.setTop (entryFrame m #[.ref x, .ref y] 3)) (T3.setTop (mkF m 15 #[.val (.ref x), .val (.ref y), .unset] [.ref y])) := (c2.trans (st3 _ (Steps.refl _))).trans (by
      refine XS.ifNo X3.here hexec rfl (hb hbytes d11) rfl (i0_eq_f (by decide)) ?_
      refine XS.aloadN X3.here hexec rfl (hb hbytes d14) rfl rfl ?_
      exact Steps.refl _)
    obtain ⟨T5, X5, q5, st5⟩ := cself X3 hexec hown (wk W (.classLink "java/lang/String" 10 "java/lang/String")) (hy.mv X3.warmed.alike hh3).1 (g := (mkF m 15 #[.val (.ref x), .val (.ref y), .unset] [.ref y])) rfl (rest := []) rfl (hb hbytes d15)
    have hh5 := q5.trans hh3
    have c6 : Steps p.tables e below (s₁.setTop (entryFrame m #[.ref x, .ref y] 3)) (T5.setTop (mkF m 19 #[.val (.ref x), .val (.ref y), .val (.ref y)] [])) := (c4.trans (st5 _ (Steps.refl _))).trans (by
      refine XS.astoreN X5.here hexec rfl (hb hbytes d18) rfl rfl rfl ?_
      exact Steps.refl _)
    obtain ⟨T7, X7, q7, st7⟩ := X5.sget hexec hown (wk W (.fieldLink "java/lang/String" 38 "java/lang/String" "COMPACT_STRINGS" "Z")) s1 (fun _ _ h => by rw [hh5]; exact h) (g := (mkF m 19 #[.val (.ref x), .val (.ref y), .val (.ref y)] [])) rfl (hb hbytes d19)
    have hh7 := q7.trans hh5
    have c8 : Steps p.tables e below (s₁.setTop (entryFrame m #[.ref x, .ref y] 3)) (T7.setTop (mkF m 26 #[.val (.ref x), .val (.ref y), .val (.ref y)] [.ref x])) := (c6.trans (st7 _ (Steps.refl _))).trans (by
      refine XS.ifNo X7.here hexec rfl (hb hbytes d22) rfl (i0_eq_f hz) ?_
      refine XS.aloadN X7.here hexec rfl (hb hbytes d25) rfl rfl ?_
      exact Steps.refl _)
    obtain ⟨T9, X9, q9, st9⟩ := X7.hget hexec hown (wk W (.fieldLink "java/lang/String" 15 "java/lang/String" "coder" "B")) (hx.mv X7.warmed.alike hh7).2.2.1 (g := (mkF m 26 #[.val (.ref x), .val (.ref y), .val (.ref y)] [.ref x])) rfl (rest := []) rfl (hb hbytes d26)
    have hh9 := q9.trans hh7
    have c10 : Steps p.tables e below (s₁.setTop (entryFrame m #[.ref x, .ref y] 3)) (T9.setTop (mkF m 30 #[.val (.ref x), .val (.ref y), .val (.ref y)] [.ref y, .int cd])) := (c8.trans (st9 _ (Steps.refl _))).trans (by
      refine XS.aloadN X9.here hexec rfl (hb hbytes d29) rfl rfl ?_
      exact Steps.refl _)
    obtain ⟨T11, X11, q11, st11⟩ := X9.hget hexec hown (wk W (.fieldLink "java/lang/String" 15 "java/lang/String" "coder" "B")) (hy.mv X9.warmed.alike hh9).2.2.1 (g := (mkF m 30 #[.val (.ref x), .val (.ref y), .val (.ref y)] [.ref y, .int cd])) rfl (rest := [.int cd]) rfl (hb hbytes d30)
    have hh11 := q11.trans hh9
    have c12 : Steps p.tables e below (s₁.setTop (entryFrame m #[.ref x, .ref y] 3)) (T11.setTop (mkF m 33 #[.val (.ref x), .val (.ref y), .val (.ref y)] [.int cd', .int cd])) := c10.trans (st11 _ (Steps.refl _))
    by_cases hcd : cd = cd'
    · subst hcd
      have c13 : Steps p.tables e below (s₁.setTop (entryFrame m #[.ref x, .ref y] 3)) (T11.setTop (mkF m 37 #[.val (.ref x), .val (.ref y), .val (.ref y)] [.ref x])) := c12.trans (by
        refine XS.icmpNo X11.here hexec rfl (hb hbytes d33) rfl (ii_ne_f rfl) ?_
        refine XS.aloadN X11.here hexec rfl (hb hbytes d36) rfl rfl ?_
        exact Steps.refl _)
      obtain ⟨T14, X14, q14, st14⟩ := X11.hget hexec hown (wk W (.fieldLink "java/lang/String" 9 "java/lang/String" "value" "[B")) (hx.mv X11.warmed.alike hh11).2.1 (g := (mkF m 37 #[.val (.ref x), .val (.ref y), .val (.ref y)] [.ref x])) rfl (rest := []) rfl (hb hbytes d37)
      have hh14 := q14.trans hh11
      have c15 : Steps p.tables e below (s₁.setTop (entryFrame m #[.ref x, .ref y] 3)) (T14.setTop (mkF m 41 #[.val (.ref x), .val (.ref y), .val (.ref y)] [.ref y, .ref t])) := (c13.trans (st14 _ (Steps.refl _))).trans (by
        refine XS.aloadN X14.here hexec rfl (hb hbytes d40) rfl rfl ?_
        exact Steps.refl _)
      obtain ⟨T16, X16, q16, st16⟩ := X14.hget hexec hown (wk W (.fieldLink "java/lang/String" 9 "java/lang/String" "value" "[B")) (hy.mv X14.warmed.alike hh14).2.1 (g := (mkF m 41 #[.val (.ref x), .val (.ref y), .val (.ref y)] [.ref y, .ref t])) rfl (rest := [.ref t]) rfl (hb hbytes d41)
      have hh16 := q16.trans hh14
      have c17 : Steps p.tables e below (s₁.setTop (entryFrame m #[.ref x, .ref y] 3)) (T16.setTop (mkF m 44 #[.val (.ref x), .val (.ref y), .val (.ref y)] [.ref t', .ref t])) := c15.trans (st16 _ (Steps.refl _))
      obtain ⟨v18, T18, X18, E18, g18⟩ := X16.callS hexec (LEq.law l t V t' V') hown (wks W (staticW "java/lang/String" 541 LEq.yN)) (wk W LEq.tab) (W := 0) (Nat.le_of_ble_eq_true rfl) (Nat.le_of_ble_eq_true rfl) (Nat.le_refl _) (Nat.le_refl _) (g := (mkF m 44 #[.val (.ref x), .val (.ref y), .val (.ref y)] [.ref t', .ref t])) rfl (by rw [hml]; rfl) c17 (argsL := [.ref t, .ref t']) (rest := []) rfl rfl (by show 2 * 0 + 0 ≤ _; decide) (hb hbytes d44) (⟨rfl, hx.2.2.2.1.mv X16.warmed.alike hh16, hx.2.2.2.2.1.ty, hy.2.2.2.1.mv X16.warmed.alike hh16, hy.2.2.2.2.1.ty⟩)
      obtain ⟨v, rfl, q18, hv⟩ := E18
      have iff := Cod.eqv hx.2.2.2.2.1 hy.2.2.2.2.1 hx.2.2.2.2.2 hy.2.2.2.2.2
      rcases hv with ⟨rfl, he⟩ | ⟨rfl, he⟩
      · have c19 : Steps p.tables e below (s₁.setTop (entryFrame m #[.ref x, .ref y] 3)) (T18.setTop (mkF m 55 #[.val (.ref x), .val (.ref y), .val (.ref y)] [.int 1])) := Steps.trans g18 (by
          refine XS.ifNo X18.here hexec rfl (hb hbytes d47) rfl (i0_eq_f (by decide)) ?_
          refine iconstV X18.here hexec rfl 1 (hb hbytes d50) (by decide) ?_
          refine XS.goto X18.here hexec rfl (pc0 := 51) rfl (hb hbytes d51) (by decide) rfl ?_
          exact Steps.refl _)
        exact ⟨T18, some (.int 1), _, _, _, X18, rfl, rfl, rfl, (fun h => by cases h), ⟨1, rfl, q18.trans hh16, Or.inl ⟨rfl, iff.mp he⟩⟩, fun fs hl => c19.trans (X18.ireturnOut hexec hret rfl (Or.inr (Or.inl rfl)) (hb hbytes d55) hl)⟩
      · have c19 : Steps p.tables e below (s₁.setTop (entryFrame m #[.ref x, .ref y] 3)) (T18.setTop (mkF m 55 #[.val (.ref x), .val (.ref y), .val (.ref y)] [.int 0])) := Steps.trans g18 (by
          refine XS.ifYes X18.here hexec rfl (pc0 := 47) rfl (hb hbytes d47) rfl (i0_eq_t rfl) (by decide) rfl ?_
          refine iconstV X18.here hexec rfl 0 (hb hbytes d54) (by decide) ?_
          exact Steps.refl _)
        exact ⟨T18, some (.int 0), _, _, _, X18, rfl, rfl, rfl, (fun h => by cases h), ⟨0, rfl, q18.trans hh16, Or.inr ⟨rfl, fun q => he (iff.mpr q)⟩⟩, fun fs hl => c19.trans (X18.ireturnOut hexec hret rfl (Or.inr (Or.inl rfl)) (hb hbytes d55) hl)⟩
    · have c13 : Steps p.tables e below (s₁.setTop (entryFrame m #[.ref x, .ref y] 3)) (T11.setTop (mkF m 55 #[.val (.ref x), .val (.ref y), .val (.ref y)] [.int 0])) := c12.trans (by
        refine XS.icmpYes X11.here hexec rfl (pc0 := 33) rfl (hb hbytes d33) rfl (ii_ne_t hcd) (by decide) rfl ?_
        refine iconstV X11.here hexec rfl 0 (hb hbytes d54) (by decide) ?_
        exact Steps.refl _)
      exact ⟨T11, some (.int 0), _, _, _, X11, rfl, rfl, rfl, (fun h => by cases h), ⟨0, rfl, hh11, Or.inr ⟨rfl, Cod.dif hx.2.2.2.2.1 hy.2.2.2.2.1 hcd⟩⟩, fun fs hl => c13.trans (X11.ireturnOut hexec hret rfl (Or.inr (Or.inl rfl)) (hb hbytes d55) hl)⟩
theorem pays {l : Launch} {R : Room} {p : Program} {e : Env} {below : List Frame} {s : State} {sargs : Array Value} {len W : Nat} (x t : Addr) (V : Cell) (cd : Int32) (n : Nat) (f : Nat → Int32) (y t' : Addr) (V' : Cell) (cd' : Int32) (k : Nat) (g : Nat → Int32) (z : Int32) (htab : tab.before sargs s = true) (hfr : 2 ≤ R.frames) (hlo : W + 28 ≤ R.locals) :
    Back l R p e below s sargs yN len W (fun A₁ a₁ => A₁.cells + 0 ≤ R.cells ∧ A₁.slots + 0 ≤ R.slots ∧ P x t V cd n f y t' V' cd' k g z a₁ A₁.U) (fun A₁ _ v₁ B₁ => Says01 (SameT n f k g) v₁ A₁.U B₁.U ∧ B₁.locs = A₁.locs ++ [] ∧ B₁.cells = A₁.cells + 0 ∧ B₁.slots = A₁.slots + 0) :=
  (law l x t V cd n f y t' V' cd' k g z).pays htab hfr (by omega)
end SEq
end StrChars
namespace StrChars.Road
open Jvm Sem ClassFile Op Lib Jvm.Stand Jvm.Free Jvm.Free.XT
open Jvm.Lib.Cold (StaticIs)
/-- the words of String.equals(Object) -/
abbrev wordsEq : List Jvm.Cond := [.code SEq.yN SEq.yB 3 (some .boolean), .initialized ST, .classLink ST 10 ST, .fieldLink ST 38 ST "COMPACT_STRINGS" "Z", .fieldLink ST 15 ST "coder" "B", .fieldLink ST 9 ST "value" "[B", .methodLink ST 541 LEq.yN, .static LEq.yN, .code LEq.yN LEq.yB 3 (some .boolean), .initialized "java/lang/StringLatin1"]
theorem tabEq_of {a : Array Value} {s : State} (h : ∀ w ∈ wordsEq, w.before a s = true) : SEq.tab.before a s = true := by
  have hl : LEq.tab.before a s = true := unparts (wk h (.code LEq.yN LEq.yB 3 (some .boolean))) (wks h (.initialized LEq.yN.cls :: LEq.site))
  have q := consq hl h
  exact unparts (wk q (.code SEq.yN SEq.yB 3 (some .boolean))) (wks q (.initialized SEq.yN.cls :: SEq.site))
theorem movedEq {Z s : State} {a0 args : Array Value} (hZ : Z.Warmed39 s.vm) (hw : ∀ d ∈ wordsEq, d.before a0 Z = true) : ∀ d ∈ wordsEq, d.before args s = true := fun d hd => by
  have t : ∀ d ∈ wordsEq, (d.onTables && d.keepsFace) = true := by decide +kernel
  exact RoadKit.mv hZ (hw d hd) (t d hd)
/-- the road's facts of a String, as the laws ask it -/
theorem txt_of {Z U : State} {a0 : Array Value} {kI : Nat} (wi : (Jvm.Cond.instantiable ST kI).before a0 Z = true) (al : Z.vm.Alike U.vm) {x t : Addr} {kb : ClassId} {cs : List Int32} {cd N2 : Int32} {vs : List Value} (E : RoadKit.Exa Z U.heap x ST) (V : RoadKit.Fld Z U.heap x ST "value" "[B" (.ref t)) (C : RoadKit.Fld Z U.heap x ST "coder" "B" (.int cd)) (K : RoadKit.Arv Z U.heap t kb .byte N2 vs (.int 0)) (hc : CodA cs cd N2 vs) (hb : ∀ c ∈ cs, ¬ c < 0 ∧ ¬ (65535 : Int32) < c) (l2 : cs.length ≤ 4000) :
    ∃ A, Txt x t A cd cs.length (fun j => cs.getD j 0) U := by
  obtain ⟨A, K1, K2, K3, K4, K5, K6⟩ := K
  have hcod := hc.cod (by omega) K3 K5
  obtain ⟨D, fV, fC, hB, F1, F2, g1, g2, -, -⟩ := strObj wi al E V C
  exact ⟨A, ⟨_, hB.2.2.1, D, hB.1, rfl, by cases q : D.vm <;> first | rfl | exact absurd q (hB.2.1.2 _)⟩, Has.of hB F1 g1, Has.of hB F2 g2, ⟨K1.1, State.isArrayOf_alike al K1.2.1, K1.2.2, by rcases hcod with ⟨-, q, -⟩ | ⟨-, q, -⟩ <;> omega⟩, hcod, fun j hj => by
    have e : cs.getD j 0 = cs[j] := by simp [List.getD_eq_getElem?_getD, hj]
    show ¬ cs.getD j 0 < 0 ∧ ¬ 65535 < cs.getD j 0
    rw [e]; exact hb _ (List.getElem_mem _)⟩
theorem same_list (cs ds : List Int32) : SameT cs.length (fun j => cs.getD j 0) ds.length (fun j => ds.getD j 0) ↔ cs = ds := by
  constructor
  · rintro ⟨e, q⟩
    refine List.ext_getElem e fun j h1 h2 => ?_
    have := q j h1
    simpa [List.getD_eq_getElem?_getD, h1, h2] using this
  · rintro rfl
    exact ⟨rfl, fun _ _ => rfl⟩
/-- **equals(Object) OF TWO SUCH STRINGS**: 1 just where the chars are the same -/
theorem eqW {p : Program} {l : Launch} {e : Env} {R : Room} {s : State} {args : Array Value} {below : List Frame} {len W : Nat} {Z : State} {a0 : Array Value} {h : Heap} (hZ : Z.Warmed39 s.vm) (hw : ∀ d ∈ wordsEq, d.before a0 Z = true) {kI : Nat} (wi : (Jvm.Cond.instantiable ST kI).before a0 Z = true)
    {x t : Addr} {kb : ClassId} {cs : List Int32} {cd N2 : Int32} {vs : List Value} (E : RoadKit.Exa Z h x ST) (V : RoadKit.Fld Z h x ST "value" "[B" (.ref t)) (C : RoadKit.Fld Z h x ST "coder" "B" (.int cd)) (K : RoadKit.Arv Z h t kb .byte N2 vs (.int 0)) (hc : CodA cs cd N2 vs) (hb : ∀ c ∈ cs, ¬ c < 0 ∧ ¬ (65535 : Int32) < c) (l2 : cs.length ≤ 4000)
    {y t' : Addr} {kb' : ClassId} {ds : List Int32} {cd' N2' : Int32} {vs' : List Value} (E' : RoadKit.Exa Z h y ST) (V' : RoadKit.Fld Z h y ST "value" "[B" (.ref t')) (C' : RoadKit.Fld Z h y ST "coder" "B" (.int cd')) (K' : RoadKit.Arv Z h t' kb' .byte N2' vs' (.int 0)) (hc' : CodA ds cd' N2' vs') (hb' : ∀ c ∈ ds, ¬ c < 0 ∧ ¬ (65535 : Int32) < c) (l2' : ds.length ≤ 4000)
    {z : Int32} (S : RoadKit.Sta Z h ST "COMPACT_STRINGS" "Z" (.int z)) (hz : ¬ z = 0) (hfr : 2 ≤ R.frames) (hlo : W + 28 ≤ R.locals) :
    Back l R p e below s args (⟨"java/lang/String", "equals", "(Ljava/lang/Object;)Z"⟩ : MethodName) len W (fun P a => a = #[.ref x, .ref y] ∧ P.U.heap = h ∧ P.cells + 0 ≤ R.cells ∧ P.slots + 0 ≤ R.slots)
      (fun P _ v B => ∃ L, (((v = some (.int 1) ∧ cs = ds) ∨ (v = some (.int 0) ∧ ¬ cs = ds)) ∧ L = [] ∧ B.U.heap = h) ∧ B.locs = P.locs ++ L ∧ B.cells = P.cells + 0 ∧ B.slots = P.slots + 0) := by
  intro m meth c P g ig mk a X hg hsize hdg hW hn hp'
  obtain ⟨rfl, rfl, r1, r2⟩ := hp'
  have al : Z.vm.Alike P.U.vm := hZ.alike.trans X.warmed.alike
  obtain ⟨A, hx⟩ := txt_of wi al E V C K hc hb l2
  obtain ⟨A', hy⟩ := txt_of wi al E' V' C' K' hc' hb' l2'
  obtain ⟨v, B, X', ⟨⟨w, hv, hh, hq⟩, hl, hk, hs⟩, st⟩ := SEq.pays x t A cd cs.length (fun j => cs.getD j 0) y t' A' cd' ds.length (fun j => ds.getD j 0) z (tabEq_of (movedEq hZ hw)) hfr hlo m meth c P g ig mk _ X hg hsize hdg hW hn ⟨r1, r2, rfl, hx, hy, sta_is al S, hz⟩
  refine ⟨v, B, X', ⟨[], ⟨?_, rfl, hh⟩, hl, hk, hs⟩, st⟩
  rcases hq with ⟨rfl, q⟩ | ⟨rfl, q⟩
  · exact Or.inl ⟨hv, (same_list cs ds).mp q⟩
  · exact Or.inr ⟨hv, fun e => q ((same_list cs ds).mpr e)⟩
end StrChars.Road
namespace StrChars.Road
open Jvm Sem ClassFile Op Lib Jvm.Stand Jvm.Free Jvm.Free.XT
open Jvm.Lib.Cold (StaticIs)
/-- what backV says of its String, as the contracts of this text ask it: cs's low bytes, coder 0 -/
theorem codOf {cs : List Int32} {n : Nat} (hn : cs.length = n) (hb : ∀ c ∈ cs, ¬ 255 < c) : CodA cs 0 (Int32.ofNat n) ((cs.map lo8).map Value.int) := Or.inl ⟨rfl, by rw [hn], by simp [List.map_map, Function.comp_def], hb⟩
end StrChars.Road
end Jvm.Pilot.@@N@@
namespace Jvm.Pilot.@@N@@
open Jvm Jvm.ClassFile Sem Op Lib Jvm.Free Jvm.Stand Jvm.LawKit Jvm.RoadKit Bundle Jvm.Pilot.@@N@@.Jvm.D
-- own prelude: a walk as a chain of goals Go (from here the method comes to its end, and Fin holds there)
def PT (W : Bool) (EL : List (String × Nat)) (Z : State) (a0 : Array Value) (own : String) (p : Program) (l : Launch) (e : Env) (R : Room) (s : State) (m : MethodId) (args : Array Value) (below : List Frame) (meth : Method) (c : Code) (T : State) (h : Heap) (cells slots : Nat) : Prop :=
  ∃ (vm0 : Vm) (k0 : Nat) (locs : List Loc), (W = false → vm0 = s.vm) ∧ Stand p l e R (s.setVm vm0) m args below meth c T locs cells slots ∧ T.heap = h ∧ p.tables.exec = Jvm.exec ∧ Z.Warmed39 vm0 ∧ vm0.findClass own = some m.cls ∧ s.Since vm0 k0 ∧ k0 ≤ h.size ∧ EW Z a0 EL ∧ CHr Z EL s.vm s.heap vm0 h ∧ Fr Z.heap.size locs ∧ Old Z Z.heap.size h
def Go (W : Bool) (EL : List (String × Nat)) (Z : State) (a0 : Array Value) (own : String) (p : Program) (l : Launch) (e : Env) (R : Room) (s : State) (m : MethodId) (args : Array Value) (below : List Frame) (meth : Method) (c : Code) (F : Outcome → State → Prop) (h : Heap) (cells slots : Nat) (g : JFrame) : Prop :=
  ∀ T, PT W EL Z a0 own p l e R s m args below meth c T h cells slots → ∃ t o, Steps p.tables e below (T.setTop g) t ∧ t.status = .running ∧ Ended t below o ∧ F o t
def Fend (W : Bool) (EL : List (String × Nat)) (Z : State) (s : State) (h0 : Heap) (ws : List Addr) (Q : Option Value → Heap → Prop) (dc ds : Nat) (o : Outcome) (t : State) : Prop :=
  ∃ v L, o = .returned v ∧ (Q v t.heap ∧ Fr Z.heap.size L ∧ Keep h0 t.heap ws) ∧ (W = true → CHr Z EL s.vm s.heap t.vm t.heap ∧ ReturnedEndW s o t L dc ds) ∧ (W = false → FrameEnd s o t L dc ds)
def Con (W : Bool) (EL : List (String × Nat)) (l : Launch) (Z : State) (y : MethodName) (bytes : ByteArray) (maxL : Nat) (ret : Option FieldType) (wl : List Jvm.Cond) (rm : Room) (as' : Array Value) (h : Heap) (ws : List Addr) (Q : Option Value → Heap → Prop) : Prop :=
  MetFree l y (head1 (Jvm.Cond.code y bytes maxL ret :: wl) rm) (fun a U => a = as' ∧ Z.Warmed39 U.vm ∧ U.heap = h ∧ (W = true → CHv Z EL U.vm h)) (fun _ _ _ _ _ => True) (fun _ U o U' => Fend W EL Z U h ws Q rm.cells rm.slots o U')
def rvl (Q : Value → Heap → Prop) (v : Option Value) (h : Heap) : Prop := ∃ x, v = some x ∧ Q x h
def rno (Q : Heap → Prop) (v : Option Value) (h : Heap) : Prop := v = none ∧ Q h
def Pay (l : Launch) (R : Room) (p : Program) (e : Env) (below : List Frame) (Z : State) (y : MethodName) (Wd : Nat) (as' : Array Value) (h : Heap) (dc ds : Nat) (ws : List Addr) (Q : Option Value → Heap → Prop) : Prop :=
  ∀ (s : State) (args : Array Value), Z.Warmed39 s.vm → Back l R p e below s args y 3 Wd (fun A a => a = as' ∧ A.U.heap = h ∧ A.cells + dc ≤ R.cells ∧ A.slots + ds ≤ R.slots) (fun A _ v B => ∃ L, (Q v B.U.heap ∧ Fr Z.heap.size L ∧ Keep h B.U.heap ws) ∧ B.locs = A.locs ++ L ∧ B.cells = A.cells + dc ∧ B.slots = A.slots + ds)
def PayW (EL : List (String × Nat)) (l : Launch) (R : Room) (p : Program) (e : Env) (below : List Frame) (Z : State) (y : MethodName) (Wd : Nat) (as' : Array Value) (h : Heap) (dc ds : Nat) (ws : List Addr) (Q : Option Value → Heap → Prop) : Prop :=
  ∀ (s : State) (vm0 : Vm) (args : Array Value), Z.Warmed39 vm0 → CHv Z EL vm0 h → BackS l R p e below (s.setVm vm0) args y 3 Wd (fun A a => a = as' ∧ A.U.heap = h ∧ A.cells + dc ≤ R.cells ∧ A.slots + ds ≤ R.slots) (fun A _ v B => ∃ L, (Q v B.U.heap ∧ Fr Z.heap.size L ∧ Keep h B.U.heap ws) ∧ B.locs = A.locs ++ L ∧ B.cells = A.cells + dc ∧ B.slots = A.slots + ds ∧ CHr Z EL vm0 h B.U.vm B.U.heap)
abbrev rm4 (a b c d : Nat) : Room := { frames := a, cells := b, slots := c, locals := d }
theorem nb {a b : Nat} (q : Nat.ble a b = true) : a ≤ b := Nat.le_of_ble_eq_true q
abbrev vi (x : Int32) : Slot := .val (.int x)
abbrev vr (x : Addr) : Slot := .val (.ref x)
abbrev un : Slot := .unset
section Own
variable {W : Bool} {EL : List (String × Nat)} {Z : State} {a0 : Array Value} {own : String} {p : Program} {l : Launch} {e : Env} {R : Room} {s : State} {m : MethodId} {args : Array Value} {below : List Frame} {meth : Method} {c : Code} {F : Outcome → State → Prop} {h : Heap} {cells slots cells' slots' : Nat} {pc pc' : Nat} {ls ls' : Array Slot} {st : List Value}
variable (pc')
theorem safe_nil {vm : Vm} {x : Addr} : Safe Z [] vm h x := fun ⟨_, hp, _⟩ => nomatch hp
theorem chv_nil {vm : Vm} : CHv Z [] vm h := fun _ hp => nomatch hp
theorem con_of {y : MethodName} {bytes : ByteArray} {maxL : Nat} {ret : Option FieldType} {wl : List Jvm.Cond} {rm : Room} {as' : Array Value} {ws : List Addr} {Q : Option Value → Heap → Prop} (hname : plainFor y = true) (hWE : W = false → EL = []) (hEL : EW Z a0 EL) (hO : Old Z Z.heap.size h) (hef : ∀ m, entryFrame m as' maxL = mkF m 0 ls [])
    (body : ∀ (p : Program) (e : Env) (s : State) (m : MethodId) (below : List Frame) (meth : Method) (c : Code), (∀ {pc : Nat} {r : Except DecodeError (Instr × Nat)}, decode bytes pc = r → decode c.code pc = r) → c.maxLocals = maxL → meth.sig.returnType = ret → meth.locks = false → meth.name = y.name → Go W EL Z a0 y.cls p l e rm s m as' below meth c (Fend W EL Z s h ws Q rm.cells rm.slots) h 0 0 (mkF m 0 ls [])) :
    Con W EL l Z y bytes maxL ret wl rm as' h ws Q := by
  refine MetFree.of_bodySF hname hisR ?_
  intro p e s m args below meth c s₁ Bd hml hP _
  obtain ⟨rfl, hZ, hh, hC⟩ := hP
  have X0 : Stand p l e rm s m args below meth c s₁ [] 0 0 := Stand.of_body Bd
  have e0 : s₁.heap = h := by rw [← hh, Bd.state]; rfl
  have hown : s.vm.findClass y.cls = some m.cls := findClass_of_methodNamed Bd.named
  have hnm := (name_of_methodNamed Bd.named Bd.method).1
  have hcv : CHv Z EL s.vm h := by
    cases W
    · rw [hWE rfl]; exact chv_nil
    · exact hC rfl
  have hcr : CHr Z EL s.vm s.heap s.vm h := by rw [hh]; exact CHr.refl hcv
  obtain ⟨t, o, h1, h2⟩ := body p e s m below meth c (fun d => hb Bd.bytes d) hml Bd.returns Bd.notSynchronized hnm s₁ ⟨s.vm, h.size, [], fun _ => rfl, X0, e0, Bd.exec, hZ, hown, (State.WarmedH.refl s).since _, Nat.le_refl _, hEL, hcr, Fr.nil _, hO⟩
  exact ⟨t, o, castTop (hef m) h1, h2⟩
theorem sf00 {EL : List (String × Nat)} : ∀ vm, Z.vm.Alike vm → ∀ x ∈ ([] : List Addr), Safe Z EL vm h x := fun _ _ => sf0
theorem pay_of {y : MethodName} {bytes : ByteArray} {maxL : Nat} {ret : Option FieldType} {rm : Room} {as' : Array Value} {ws : List Addr} {Q : Option Value → Heap → Prop} {Wd : Nat} (hM : Con false [] l Z y bytes maxL ret [] rm as' h ws Q) (wc : (Jvm.Cond.code y bytes maxL ret).before a0 Z = true) (wz : (Jvm.Cond.initialized y.cls).before a0 Z = true) (hf : rm.frames + 1 ≤ R.frames := by decide) (hl : Wd + (maxL + 11) + rm.locals ≤ R.locals := by decide) :
    Pay l R p e below Z y Wd as' h rm.cells rm.slots ws Q := by
  intro s args hZ
  refine backOf (Q := fun v h' L => Q v h' ∧ Fr Z.heap.size L ∧ Keep h h' ws) ?_ hZ wc wz hf hl
  intro p e h1 h2 h3 s m args below h4 h5 h6 h7
  obtain ⟨n, o, q1, q2, q3, v, L, rfl, hq, -, hF⟩ := hM p e h1 h2 h3 s m args below h4 h5 ⟨h6.1, h6.2.1, h6.2.2, fun q => nomatch q⟩ h7
  exact ⟨n, _, q1, q2, q3, v, L, rfl, hq, hF rfl⟩
theorem payW_of {y : MethodName} {bytes : ByteArray} {maxL : Nat} {ret : Option FieldType} {rm : Room} {as' : Array Value} {ws : List Addr} {Q : Option Value → Heap → Prop} {Wd : Nat} (hM : Con true EL l Z y bytes maxL ret [] rm as' h ws Q) (wc : (Jvm.Cond.code y bytes maxL ret).before a0 Z = true) (wz : (Jvm.Cond.initialized y.cls).before a0 Z = true) (hEL : EW Z a0 EL) (hf : rm.frames + 1 ≤ R.frames := by decide) (hl : Wd + (maxL + 11) + rm.locals ≤ R.locals := by decide) :
    PayW EL l R p e below Z y Wd as' h rm.cells rm.slots ws Q := by
  intro s vm0 args hZ H
  refine backOfSH (Q := fun v h' L => Q v h' ∧ Fr Z.heap.size L ∧ Keep h h' ws) ?_ hZ wc wz hf hl hEL H
  intro p e h1 h2 h3 s m args below h4 h5 h6 h7
  obtain ⟨n, o, q1, q2, q3, v, L, rfl, hq, hC, -⟩ := hM p e h1 h2 h3 s m args below h4 h5 ⟨h6.1, h6.2.1, h6.2.2.1, fun _ => h6.2.2.2⟩ h7
  exact ⟨n, _, q1, q2, q3, v, L, rfl, hq, (hC rfl).1, (hC rfl).2⟩
theorem go_old {g0 : JFrame} (k : Old Z Z.heap.size h → Go W EL Z a0 own p l e R s m args below meth c F h cells slots (g0)) : Go W EL Z a0 own p l e R s m args below meth c F h cells slots (g0) := by
  intro T P
  exact k P.choose_spec.choose_spec.choose_spec.2.2.2.2.2.2.2.2.2.2.2 T P
theorem go_pure {g g' : JFrame} (stp : ∀ T : State, At T m c below → p.tables.exec = Jvm.exec → ∀ target, Steps p.tables e below (T.setTop g') target → Steps p.tables e below (T.setTop g) target) (k : Go W EL Z a0 own p l e R s m args below meth c F h cells slots (g')) : Go W EL Z a0 own p l e R s m args below meth c F h cells slots (g) := by
  intro T P
  obtain ⟨t, o, h1, h2⟩ := k T P
  obtain ⟨vm0, k0, locs, -, X, -, hx, -⟩ := P
  exact ⟨t, o, stp T X.here hx _ h1, h2⟩
theorem go_iconst {i : Int} {v : Int32} (hd : decode c.code pc = .ok (.iconst i, 1)) (hp : pc + 1 = pc') (hv : Int32.ofInt i = v) (k : Go W EL Z a0 own p l e R s m args below meth c F h cells slots (mkF m pc' ls (.int v :: st))) : Go W EL Z a0 own p l e R s m args below meth c F h cells slots (mkF m pc ls st) := by
  subst hp hv
  exact go_pure (fun T ha hx target hr => XS.iconst ha hx rfl hd hr) k
theorem go_bipush {i : Int} {v : Int32} (hd : decode c.code pc = .ok (.bipush i, 2)) (hp : pc + 2 = pc') (hv : (Int8.ofInt i).toInt32 = v) (k : Go W EL Z a0 own p l e R s m args below meth c F h cells slots (mkF m pc' ls (.int v :: st))) : Go W EL Z a0 own p l e R s m args below meth c F h cells slots (mkF m pc ls st) := by
  subst hp hv
  exact go_pure (fun T ha hx target hr => XS.bipush ha hx rfl hd hr) k
theorem go_sipush {i : Int} {v : Int32} (hd : decode c.code pc = .ok (.sipush i, 3)) (hp : pc + 3 = pc') (hv : (Int16.ofInt i).toInt32 = v) (k : Go W EL Z a0 own p l e R s m args below meth c F h cells slots (mkF m pc' ls (.int v :: st))) : Go W EL Z a0 own p l e R s m args below meth c F h cells slots (mkF m pc ls st) := by
  subst hp hv
  exact go_pure (fun T ha hx target hr => XS.sipush ha hx rfl hd hr) k
theorem go_aload_n {i : Fin 4} {v : Value} (hd : decode c.code pc = .ok (.aload_n i, 1)) (hp : pc + 1 = pc') (hl : ls[i.val]? = some (.val v)) (hv : v.isRef = true) (k : Go W EL Z a0 own p l e R s m args below meth c F h cells slots (mkF m pc' ls (v :: st))) : Go W EL Z a0 own p l e R s m args below meth c F h cells slots (mkF m pc ls (st)) := by
  subst hp
  exact go_pure (fun T ha hx target hr => XS.aloadN ha hx rfl hd hl hv hr) k
theorem go_aload {i : Nat} {v : Value} (hd : decode c.code pc = .ok (.aload i, 2)) (hp : pc + 2 = pc') (hl : ls[i]? = some (.val v)) (hv : v.isRef = true) (k : Go W EL Z a0 own p l e R s m args below meth c F h cells slots (mkF m pc' ls (v :: st))) : Go W EL Z a0 own p l e R s m args below meth c F h cells slots (mkF m pc ls (st)) := by
  subst hp
  exact go_pure (fun T ha hx target hr => XS.aload ha hx rfl hd hl hv hr) k
theorem go_iload_n {i : Fin 4} {v : Int32} (hd : decode c.code pc = .ok (.iload_n i, 1)) (hp : pc + 1 = pc') (hl : ls[i.val]? = some (.val (.int v))) (k : Go W EL Z a0 own p l e R s m args below meth c F h cells slots (mkF m pc' ls (.int v :: st))) : Go W EL Z a0 own p l e R s m args below meth c F h cells slots (mkF m pc ls (st)) := by
  subst hp
  exact go_pure (fun T ha hx target hr => XS.iloadN ha hx rfl hd hl hr) k
theorem go_iload {i : Nat} {v : Int32} (hd : decode c.code pc = .ok (.iload i, 2)) (hp : pc + 2 = pc') (hl : ls[i]? = some (.val (.int v))) (k : Go W EL Z a0 own p l e R s m args below meth c F h cells slots (mkF m pc' ls (.int v :: st))) : Go W EL Z a0 own p l e R s m args below meth c F h cells slots (mkF m pc ls (st)) := by
  subst hp
  exact go_pure (fun T ha hx target hr => XS.iload ha hx rfl hd hl hr) k
theorem go_istore_n {i : Fin 4} {v : Int32} (hd : decode c.code pc = .ok (.istore_n i, 1)) (hp : pc + 1 = pc') (hl : storeLocals ls i.val (.int v) = some ls') (k : Go W EL Z a0 own p l e R s m args below meth c F h cells slots (mkF m pc' ls' (st))) : Go W EL Z a0 own p l e R s m args below meth c F h cells slots (mkF m pc ls (.int v :: st)) := by
  subst hp
  exact go_pure (fun T ha hx target hr => XS.istoreN ha hx rfl hd rfl hl hr) k
theorem go_istore {i : Nat} {v : Int32} (hd : decode c.code pc = .ok (.istore i, 2)) (hp : pc + 2 = pc') (hl : storeLocals ls i (.int v) = some ls') (k : Go W EL Z a0 own p l e R s m args below meth c F h cells slots (mkF m pc' ls' (st))) : Go W EL Z a0 own p l e R s m args below meth c F h cells slots (mkF m pc ls (.int v :: st)) := by
  subst hp
  exact go_pure (fun T ha hx target hr => XS.istore ha hx rfl hd rfl hl hr) k
theorem go_astore_n {i : Fin 4} {v : Value} (hd : decode c.code pc = .ok (.astore_n i, 1)) (hp : pc + 1 = pc') (hv : v.isRef = true) (hl : storeLocals ls i.val v = some ls') (k : Go W EL Z a0 own p l e R s m args below meth c F h cells slots (mkF m pc' ls' (st))) : Go W EL Z a0 own p l e R s m args below meth c F h cells slots (mkF m pc ls (v :: st)) := by
  subst hp
  exact go_pure (fun T ha hx target hr => XS.astoreN ha hx rfl hd rfl hv hl hr) k
theorem go_astore {i : Nat} {v : Value} (hd : decode c.code pc = .ok (.astore i, 2)) (hp : pc + 2 = pc') (hv : v.isRef = true) (hl : storeLocals ls i v = some ls') (k : Go W EL Z a0 own p l e R s m args below meth c F h cells slots (mkF m pc' ls' (st))) : Go W EL Z a0 own p l e R s m args below meth c F h cells slots (mkF m pc ls (v :: st)) := by
  subst hp
  exact go_pure (fun T ha hx target hr => XS.astore ha hx rfl hd rfl hv hl hr) k
theorem go_iadd {x y z : Int32} (hd : decode c.code pc = .ok (.iadd, 1)) (hp : pc + 1 = pc') (hz : x + y = z) (k : Go W EL Z a0 own p l e R s m args below meth c F h cells slots (mkF m pc' ls (.int z :: st))) : Go W EL Z a0 own p l e R s m args below meth c F h cells slots (mkF m pc ls (.int y :: .int x :: st)) := by
  subst hp hz
  exact go_pure (fun T ha hx target hr => XS.iadd ha hx rfl hd rfl hr) k
theorem go_isub {x y z : Int32} (hd : decode c.code pc = .ok (.isub, 1)) (hp : pc + 1 = pc') (hz : x - y = z) (k : Go W EL Z a0 own p l e R s m args below meth c F h cells slots (mkF m pc' ls (.int z :: st))) : Go W EL Z a0 own p l e R s m args below meth c F h cells slots (mkF m pc ls (.int y :: .int x :: st)) := by
  subst hp hz
  exact go_pure (fun T ha hx target hr => XS.isub ha hx rfl hd rfl hr) k
theorem go_iand {x y z : Int32} (hd : decode c.code pc = .ok (.iand, 1)) (hp : pc + 1 = pc') (hz : x &&& y = z) (k : Go W EL Z a0 own p l e R s m args below meth c F h cells slots (mkF m pc' ls (.int z :: st))) : Go W EL Z a0 own p l e R s m args below meth c F h cells slots (mkF m pc ls (.int y :: .int x :: st)) := by
  subst hp hz
  exact go_pure (fun T ha hx target hr => XS.iand ha hx rfl hd rfl hr) k
theorem go_i2c {x : Int32} {z : Int32} (hd : decode c.code pc = .ok (.i2c, 1)) (hp : pc + 1 = pc') (hz : x.toUInt32.toUInt16.toUInt32.toInt32 = z) (k : Go W EL Z a0 own p l e R s m args below meth c F h cells slots (mkF m pc' ls (.int z :: st))) : Go W EL Z a0 own p l e R s m args below meth c F h cells slots (mkF m pc ls (.int x :: st)) := by
  subst hp hz
  exact go_pure (fun T ha hx target hr => XT.i2c ha hx rfl hd rfl hr) k
theorem go_i2b {x : Int32} {z : Int32} (hd : decode c.code pc = .ok (.i2b, 1)) (hp : pc + 1 = pc') (hz : x.toInt8.toInt32 = z) (k : Go W EL Z a0 own p l e R s m args below meth c F h cells slots (mkF m pc' ls (.int z :: st))) : Go W EL Z a0 own p l e R s m args below meth c F h cells slots (mkF m pc ls (.int x :: st)) := by
  subst hp hz
  exact go_pure (fun T ha hx target hr => XT.i2b ha hx rfl hd rfl hr) k
theorem go_dup {v : Value} (hd : decode c.code pc = .ok (.dup, 1)) (hp : pc + 1 = pc') (hc : v.category = 1) (k : Go W EL Z a0 own p l e R s m args below meth c F h cells slots (mkF m pc' ls (v :: v :: st))) : Go W EL Z a0 own p l e R s m args below meth c F h cells slots (mkF m pc ls (v :: st)) := by
  subst hp
  exact go_pure (fun T ha hx target hr => XS.dup ha hx rfl hd rfl hc hr) k
theorem go_pop {v : Value} (hd : decode c.code pc = .ok (.pop, 1)) (hp : pc + 1 = pc') (hc : v.category = 1) (k : Go W EL Z a0 own p l e R s m args below meth c F h cells slots (mkF m pc' ls (st))) : Go W EL Z a0 own p l e R s m args below meth c F h cells slots (mkF m pc ls (v :: st)) := by
  subst hp
  exact go_pure (fun T ha hx target hr => XT.pop ha hx rfl hd rfl hc hr) k
theorem go_iinc {i : Nat} {q : Int} {x : Int32} (hd : decode c.code pc = .ok (.iinc i q, 3)) (hp : pc + 3 = pc') (hl : ls[i]? = some (.val (.int x))) {y : Int32} (hy : x + Int32.ofInt q = y) (hl' : storeLocals ls i (.int y) = some ls') (k : Go W EL Z a0 own p l e R s m args below meth c F h cells slots (mkF m pc' ls' st)) : Go W EL Z a0 own p l e R s m args below meth c F h cells slots (mkF m pc ls st) := by
  subst hp hy
  exact go_pure (fun T ha hx target hr => XS.iinc ha hx rfl hd hl hl' hr) k
theorem go_goto {o : Int} (hd : decode c.code pc = .ok (.goto o, 3)) (ho : 0 ≤ (pc : Int) + o) (hp : ((pc : Int) + o).toNat = pc') (k : Go W EL Z a0 own p l e R s m args below meth c F h cells slots (mkF m pc' ls st)) : Go W EL Z a0 own p l e R s m args below meth c F h cells slots (mkF m pc ls st) :=
  go_pure (fun T ha hx target hr => XS.goto ha hx rfl rfl hd ho hp hr) k
theorem go_ifT {o : Int} {cd : ClassFile.Cond} {x : Int32} (hd : decode c.code pc = .ok (.ifCond cd o, 3)) (ho : 0 ≤ (pc : Int) + o) (hp : ((pc : Int) + o).toNat = pc') (hc : ifCond.holds cd x = true) (k : Go W EL Z a0 own p l e R s m args below meth c F h cells slots (mkF m pc' ls st)) : Go W EL Z a0 own p l e R s m args below meth c F h cells slots (mkF m pc ls (.int x :: st)) :=
  go_pure (fun T ha hx target hr => XS.ifYes ha hx rfl rfl hd rfl hc ho hp hr) k
theorem go_ifF {o : Int} {cd : ClassFile.Cond} {x : Int32} (hd : decode c.code pc = .ok (.ifCond cd o, 3)) (hp : pc + 3 = pc') (hc : ifCond.holds cd x = false) (k : Go W EL Z a0 own p l e R s m args below meth c F h cells slots (mkF m pc' ls st)) : Go W EL Z a0 own p l e R s m args below meth c F h cells slots (mkF m pc ls (.int x :: st)) := by
  subst hp
  exact go_pure (fun T ha hx target hr => XS.ifNo ha hx rfl hd rfl hc hr) k
theorem go_icT {o : Int} {cd : ClassFile.Cond} {x y : Int32} (hd : decode c.code pc = .ok (.if_icmp cd o, 3)) (ho : 0 ≤ (pc : Int) + o) (hp : ((pc : Int) + o).toNat = pc') (hc : if_icmp.holds cd x y = true) (k : Go W EL Z a0 own p l e R s m args below meth c F h cells slots (mkF m pc' ls st)) : Go W EL Z a0 own p l e R s m args below meth c F h cells slots (mkF m pc ls (.int y :: .int x :: st)) :=
  go_pure (fun T ha hx target hr => XS.icmpYes ha hx rfl rfl hd rfl hc ho hp hr) k
theorem go_icF {o : Int} {cd : ClassFile.Cond} {x y : Int32} (hd : decode c.code pc = .ok (.if_icmp cd o, 3)) (hp : pc + 3 = pc') (hc : if_icmp.holds cd x y = false) (k : Go W EL Z a0 own p l e R s m args below meth c F h cells slots (mkF m pc' ls st)) : Go W EL Z a0 own p l e R s m args below meth c F h cells slots (mkF m pc ls (.int y :: .int x :: st)) := by
  subst hp
  exact go_pure (fun T ha hx target hr => XS.icmpNo ha hx rfl hd rfl hc hr) k
theorem go_acF {o : Int} {cd : ClassFile.ACond} {x y : Value} (hd : decode c.code pc = .ok (.if_acmp cd o, 3)) (hp : pc + 3 = pc') (hx1 : x.isRef = true) (hy1 : y.isRef = true) (hc : XT.acmp cd x y = false) (k : Go W EL Z a0 own p l e R s m args below meth c F h cells slots (mkF m pc' ls st)) : Go W EL Z a0 own p l e R s m args below meth c F h cells slots (mkF m pc ls (y :: x :: st)) := by
  subst hp
  exact go_pure (fun T ha hx target hr => XT.acmpNo ha hx rfl hd rfl hx1 hy1 hc hr) k
theorem go_nullT {o : Int} (hd : decode c.code pc = .ok (.ifnull o, 3)) (ho : 0 ≤ (pc : Int) + o) (hp : ((pc : Int) + o).toNat = pc') (k : Go W EL Z a0 own p l e R s m args below meth c F h cells slots (mkF m pc' ls st)) : Go W EL Z a0 own p l e R s m args below meth c F h cells slots (mkF m pc ls (.null :: st)) :=
  go_pure (fun T ha hx target hr => XS.ifnullYes ha hx rfl rfl hd rfl ho hp hr) k
theorem go_nullF {o : Int} {b : Addr} (hd : decode c.code pc = .ok (.ifnull o, 3)) (hp : pc + 3 = pc') (k : Go W EL Z a0 own p l e R s m args below meth c F h cells slots (mkF m pc' ls st)) : Go W EL Z a0 own p l e R s m args below meth c F h cells slots (mkF m pc ls (.ref b :: st)) := by
  subst hp
  exact go_pure (fun T ha hx target hr => XS.ifnullNo ha hx rfl hd rfl hr) k
theorem go_nnT {o : Int} {b : Addr} (hd : decode c.code pc = .ok (.ifnonnull o, 3)) (ho : 0 ≤ (pc : Int) + o) (hp : ((pc : Int) + o).toNat = pc') (k : Go W EL Z a0 own p l e R s m args below meth c F h cells slots (mkF m pc' ls st)) : Go W EL Z a0 own p l e R s m args below meth c F h cells slots (mkF m pc ls (.ref b :: st)) :=
  go_pure (fun T ha hx target hr => XT.ifnonnullYes ha hx rfl rfl hd rfl ho hp hr) k
theorem go_getF {a : Addr} {v : Value} {R0 O n d : String} {index : Nat} (w : (Jvm.Cond.fieldLink own index R0 n d).before a0 Z = true) (via : Via Z R0 O n d) (F0 : Fld Z h a O n d v) (hd : decode c.code pc = .ok (.getfield index, 3)) (hp : pc + 3 = pc') (k : Go W EL Z a0 own p l e R s m args below meth c F h cells slots (mkF m pc' ls (v :: st))) : Go W EL Z a0 own p l e R s m args below meth c F h cells slots (mkF m pc ls (.ref a :: st)) := by
  subst hp
  intro T P
  obtain ⟨vm0, k0, locs, hWf, X, eT, hx, hZ, hown, hS, hk, hEL, hC, hN, hO⟩ := P
  obtain ⟨T', X', e', st'⟩ := getF X hx hZ hown (host := "") (Or.inl w) via eT F0 (g := mkF m pc ls (.ref a :: st)) rfl rfl hd
  obtain ⟨t, o, h1, h2⟩ := k T' ⟨vm0, k0, locs, hWf, X', e', hx, hZ, hown, hS, hk, hEL, hC, hN, hO⟩
  exact ⟨t, o, st' _ h1, h2⟩
theorem go_getS {v : Value} {O n d : String} {index : Nat} (w : (Jvm.Cond.fieldLink own index O n d).before a0 Z = true) (F0 : Sta Z h O n d v) (hd : decode c.code pc = .ok (.getstatic index, 3)) (hp : pc + 3 = pc') (k : Go W EL Z a0 own p l e R s m args below meth c F h cells slots (mkF m pc' ls (v :: st))) : Go W EL Z a0 own p l e R s m args below meth c F h cells slots (mkF m pc ls st) := by
  subst hp
  intro T P
  obtain ⟨vm0, k0, locs, hWf, X, eT, hx, hZ, hown, hS, hk, hEL, hC, hN, hO⟩ := P
  obtain ⟨T', X', e', st'⟩ := getS X hx hZ hown (host := "") w Via.refl eT F0 (g := mkF m pc ls st) rfl hd
  obtain ⟨t, o, h1, h2⟩ := k T' ⟨vm0, k0, locs, hWf, X', e', hx, hZ, hown, hS, hk, hEL, hC, hN, hO⟩
  exact ⟨t, o, st' _ h1, h2⟩
theorem safe_of {vm : Vm} {a : Addr} {C : String} (hal : Z.vm.Alike vm) (E : Exa Z h a C) (hs : (C ≠ "java/lang/String" ∧ C ≠ "[B") ∨ EL = []) : Safe Z EL vm h a := by
  rcases hs with hs | rfl
  · exact Safe.exa hal E hs.1 hs.2
  · exact safe_nil
theorem go_putF {a : Addr} {v v' old : Value} {R0 O n d C : String} {index kk : Nat} {ty : FieldType} (w : (Jvm.Cond.fieldLink own index R0 n d).before a0 Z = true) (via : Via Z R0 O n d) (F0 : Fld Z h a O n d old) (E : Exa Z h a C) (L : (Jvm.Cond.lays C O n d).before a0 Z = true ∨ ((Jvm.Cond.laysFinal C O n d).before a0 Z = true ∧ own = O ∧ meth.name = "<init>")) (wi : (Jvm.Cond.instantiable C kk).before a0 Z = true)
    (hty : parseFieldDescriptor d = some ty) (hn : narrow ty v = v') (hf : fits ty v' = true) (ha : Z.heap.size ≤ a) (hs : (C ≠ "java/lang/String" ∧ C ≠ "[B") ∨ EL = []) (hd : decode c.code pc = .ok (.putfield index, 3)) (hp : pc + 3 = pc')
    (k : ∀ h', Wr h h' a (Jvm.RoadKit.slotOf Z O n d) v' → Go W EL Z a0 own p l e R s m args below meth c F h' cells slots (mkF m pc' ls st)) : Go W EL Z a0 own p l e R s m args below meth c F h cells slots (mkF m pc ls (v :: .ref a :: st)) := by
  subst hp
  intro T P
  obtain ⟨vm0, k0, locs, hWf, X, eT, hx, hZ, hown, hS, hk, hEL, hC, hN, hO⟩ := P
  obtain ⟨T', h', X', e', W', st'⟩ := putFN X hx hZ hown w via eT F0 E L wi hty hn hf (g := mkF m pc ls (v :: .ref a :: st)) rfl rfl hd
  have S0 : Safe Z EL vm0 h a := safe_of hZ.alike E hs
  obtain ⟨t, o, h1, h2⟩ := k h' W' T' ⟨vm0, k0, _, hWf, X', e', hx, hZ, hown, hS, by rw [W'.size]; exact hk, hEL, hC.trans (CHr.wr W' S0 hC.1), Fr.snoc X' hN ha, hO.wr W' ha⟩
  exact ⟨t, o, st' _ h1, h2⟩
theorem go_newO {C : String} {index n : Nat} (w : (Jvm.Cond.classLink own index C).before a0 Z = true) (wi : (Jvm.Cond.instantiable C n).before a0 Z = true) (wz : (Jvm.Cond.initialized C).before a0 Z = true) (hd : decode c.code pc = .ok (.new index, 3)) (hp : pc + 3 = pc') (hcl : cells + 1 = cells') (hsl : slots + n = slots') (hc : cells' ≤ R.cells) (hl : slots' ≤ R.slots)
    (k : ∀ (h' : Heap) (a : Addr), h.size = a → Ext h h' → Exa Z h' a C → (∀ {O nm d : String} {ty : FieldType}, Laid Z a0 C O nm d → parseFieldDescriptor d = some ty → Fld Z h' a O nm d (defaultValue ty)) → Unt h' a → Go W EL Z a0 own p l e R s m args below meth c F h' cells' slots' (mkF m pc' ls (.ref a :: st))) : Go W EL Z a0 own p l e R s m args below meth c F h cells slots (mkF m pc ls st) := by
  subst hp hcl hsl
  intro T P
  obtain ⟨vm0, k0, locs, hWf, X, eT, hx, hZ, hown, hS, hk, hEL, hC, hN, hO⟩ := P
  obtain ⟨T', h', X', e', E', A', D', U', st'⟩ := newO X hx hZ hown w wi wz eT (g := mkF m pc ls st) rfl hd hc hl
  obtain ⟨t, o, h1, h2⟩ := k h' h.size rfl E' A' D' U' T' ⟨vm0, k0, _, hWf, X', e', hx, hZ, hown, hS, Nat.le_trans hk E'.1, hEL, hC.trans (CHr.ext E' hC.1), hN, hO.ext E'⟩
  exact ⟨t, o, st' _ h1, h2⟩
theorem go_newP {aty : ArrayType} {n : Int32} {cap : Nat} {vs : List Value} {ty : FieldType} {dv : Value} (w : (Jvm.Cond.arrayClass ty).before a0 Z = true) (hty : newarray.typeOf aty = ty) (hdv : defaultValue ty = dv) (hd : decode c.code pc = .ok (.newarray aty, 2)) (hp : pc + 2 = pc') (hn : ¬ n < 0) (hcap : n.toNatClampNeg = cap) (hb : cap * 8 ≤ 536870912) (hvs : List.replicate cap dv = vs) (hcl : cells + 1 = cells') (hsl : slots + cap = slots') (hc : cells' ≤ R.cells) (hl : slots' ≤ R.slots)
    (k : ∀ (h' : Heap) (a : Addr) (kA : ClassId), h.size = a → Ext h h' → Arv Z h' a kA ty n vs dv → Go W EL Z a0 own p l e R s m args below meth c F h' cells' slots' (mkF m pc' ls (.ref a :: st))) : Go W EL Z a0 own p l e R s m args below meth c F h cells slots (mkF m pc ls (.int n :: st)) := by
  subst hp hcl hsl hty hdv hvs
  intro T P
  obtain ⟨vm0, k0, locs, hWf, X, eT, hx, hZ, hown, hS, hk, hEL, hC, hN, hO⟩ := P
  obtain ⟨T', h', kA, X', e', E', A', st'⟩ := newP X hx hZ w eT (g := mkF m pc ls (.int n :: st)) rfl hd rfl hn (cap := cap) (Nat.le_of_eq hcap) hb hc hl
  have V : Arv Z h' h.size kA (newarray.typeOf aty) n (List.replicate cap (defaultValue (newarray.typeOf aty))) (defaultValue (newarray.typeOf aty)) := by
    have q := (Arv.new A' hn).pad (pad_rep [] (defaultValue (newarray.typeOf aty)) cap)
    simpa using q
  obtain ⟨t, o, h1, h2⟩ := k h' h.size kA rfl E' V T' ⟨vm0, k0, _, hWf, X', e', hx, hZ, hown, hS, Nat.le_trans hk E'.1, hEL, hC.trans (CHr.ext E' hC.1), hN, hO.ext E'⟩
  exact ⟨t, o, st' _ h1, h2⟩
theorem go_stC {a : Addr} {kA : ClassId} {z j x x' : Int32} {vs vs' : List Value} {dv : Value} {i : Nat} (A : Arv Z h a kA .char z vs dv) (ha : Z.heap.size ≤ a) (hj0 : ¬ j < 0) (hjz : j < z) (hji : j.toNatClampNeg = i) (hi : i < vs.length) (hx' : x.toUInt32.toUInt16.toUInt32.toInt32 = x') (hvs : vs.set i (.int x') = vs') (hd : decode c.code pc = .ok (.castore, 1)) (hp : pc + 1 = pc')
    (k : ∀ h', Wr h h' a i (.int x') → Arv Z h' a kA .char z vs' dv → Go W EL Z a0 own p l e R s m args below meth c F h' cells slots (mkF m pc' ls st)) : Go W EL Z a0 own p l e R s m args below meth c F h cells slots (mkF m pc ls (.int x :: .int j :: .ref a :: st)) := by
  subst hp hx' hvs hji
  intro T P
  obtain ⟨vm0, k0, locs, hWf, X, eT, hx, hZ, hown, hS, hk, hEL, hC, hN, hO⟩ := P
  obtain ⟨cl, Ar, q1, S1, N1, H1, G1⟩ := A
  obtain ⟨T', h', X', e', W', st'⟩ := stC X hx hZ eT Ar (j := j) (inb_of S1 ⟨hj0, hjz⟩) (g := mkF m pc ls (.int x :: .int j :: .ref a :: st)) rfl rfl hd
  have S0 : Safe Z EL vm0 h a := Safe.arr hZ.alike Ar (by decide)
  obtain ⟨t, o, h1, h2⟩ := k h' W' (Arv.set Ar q1 S1 N1 H1 G1 (fits_nar_char _) W' _ rfl hi) T' ⟨vm0, k0, _, hWf, X', e', hx, hZ, hown, hS, by rw [W'.size]; exact hk, hEL, hC.trans (CHr.wr W' S0 hC.1), Fr.snoc X' hN ha, hO.wr W' ha⟩
  exact ⟨t, o, st' _ h1, h2⟩
theorem go_stB {a : Addr} {kA : ClassId} {z j x x' : Int32} {vs vs' : List Value} {dv : Value} {i : Nat} (hE : EL = []) (A : Arv Z h a kA .byte z vs dv) (ha : Z.heap.size ≤ a) (hj0 : ¬ j < 0) (hjz : j < z) (hji : j.toNatClampNeg = i) (hi : i < vs.length) (hx' : x.toInt8.toInt32 = x') (hvs : vs.set i (.int x') = vs') (hd : decode c.code pc = .ok (.bastore, 1)) (hp : pc + 1 = pc')
    (k : ∀ h', Wr h h' a i (.int x') → Arv Z h' a kA .byte z vs' dv → Go W EL Z a0 own p l e R s m args below meth c F h' cells slots (mkF m pc' ls st)) : Go W EL Z a0 own p l e R s m args below meth c F h cells slots (mkF m pc ls (.int x :: .int j :: .ref a :: st)) := by
  subst hp hx' hvs hji hE
  intro T P
  obtain ⟨vm0, k0, locs, hWf, X, eT, hx, hZ, hown, hS, hk, hEL, hC, hN, hO⟩ := P
  obtain ⟨cl, Ar, q1, S1, N1, H1, G1⟩ := A
  obtain ⟨T', h', X', e', W', st'⟩ := stB X hx hZ eT Ar (j := j) (inb_of S1 ⟨hj0, hjz⟩) (g := mkF m pc ls (.int x :: .int j :: .ref a :: st)) rfl rfl hd
  obtain ⟨t, o, h1, h2⟩ := k h' W' (Arv.set Ar q1 S1 N1 H1 G1 (fits_nar_byte _) W' _ rfl hi) T' ⟨vm0, k0, _, hWf, X', e', hx, hZ, hown, hS, by rw [W'.size]; exact hk, hEL, hC.trans (CHr.wr W' safe_nil hC.1), Fr.snoc X' hN ha, hO.wr W' ha⟩
  exact ⟨t, o, st' _ h1, h2⟩
theorem go_baload {a : Addr} {kA : ClassId} {z j : Int32} {vs : List Value} {dv v : Value} {i : Nat} (A : Arv Z h a kA .byte z vs dv) (hj0 : ¬ j < 0) (hjz : j < z) (hji : j.toNatClampNeg = i) (hv : vs.getD i dv = v) (hd : decode c.code pc = .ok (.baload, 1)) (hp : pc + 1 = pc')
    (k : Go W EL Z a0 own p l e R s m args below meth c F h cells slots (mkF m pc' ls (v :: st))) : Go W EL Z a0 own p l e R s m args below meth c F h cells slots (mkF m pc ls (.int j :: .ref a :: st)) := by
  subst hp hv hji
  intro T P
  obtain ⟨t, o, h1, h2⟩ := k T P
  obtain ⟨vm0, k0, locs, hWf, X, eT, hx, hZ, hown, hS, hk, hEL, hC, hN, hO⟩ := P
  obtain ⟨cl, Ar, q1, S1, N1, H1, G1⟩ := A
  have hin := inb_of S1 ⟨hj0, hjz⟩
  exact ⟨t, o, X.baloadBytes hx (by rw [eT]; exact Ar.1) (State.isArrayOf_alike hZ.alike Ar.2.1) Ar.2.2 hin (H1.at hin rfl) (g := mkF m pc ls (.int j :: .ref a :: st)) rfl rfl hd _ h1, h2⟩
theorem go_arraylength {a : Addr} {kA : ClassId} {z : Int32} {vs : List Value} {dv : Value} {ty : FieldType} (A : Arv Z h a kA ty z vs dv) (hd : decode c.code pc = .ok (.arraylength, 1)) (hp : pc + 1 = pc')
    (k : Go W EL Z a0 own p l e R s m args below meth c F h cells slots (mkF m pc' ls (.int z :: st))) : Go W EL Z a0 own p l e R s m args below meth c F h cells slots (mkF m pc ls (.ref a :: st)) := by
  subst hp
  intro T P
  obtain ⟨t, o, h1, h2⟩ := k T P
  obtain ⟨vm0, k0, locs, hWf, X, eT, hx, hZ, hown, hS, hk, hEL, hC, hN, hO⟩ := P
  obtain ⟨cl, Ar, q1, S1, N1, H1, G1⟩ := A
  refine ⟨t, o, X.arraylength hx (by rw [eT]; exact Ar.1) (State.isArrayOf_alike hZ.alike Ar.2.1) (g := mkF m pc ls (.ref a :: st)) rfl rfl hd _ ?_, h2⟩
  rw [len_of S1 N1]
  exact h1
theorem go_cast {a : Addr} {K : String} {index : Nat} (w : (Jvm.Cond.classLink own index K).before a0 Z = true) (I : Ins Z h a K true) (hd : decode c.code pc = .ok (.checkcast index, 3)) (hp : pc + 3 = pc') (k : Go W EL Z a0 own p l e R s m args below meth c F h cells slots (mkF m pc' ls (.ref a :: st))) : Go W EL Z a0 own p l e R s m args below meth c F h cells slots (mkF m pc ls (.ref a :: st)) := by
  subst hp
  intro T P
  obtain ⟨vm0, k0, locs, hWf, X, eT, hx, hZ, hown, hS, hk, hEL, hC, hN, hO⟩ := P
  obtain ⟨T', X', e', st'⟩ := castY X hx hZ hown w eT I (g := mkF m pc ls (.ref a :: st)) rfl rfl hd
  obtain ⟨t, o, h1, h2⟩ := k T' ⟨vm0, k0, locs, hWf, X', e', hx, hZ, hown, hS, hk, hEL, hC, hN, hO⟩
  exact ⟨t, o, st' _ h1, h2⟩
theorem go_ldcH {text : String} {index n : Nat} {vs : List Value} {z : Int32} (hWt : W = true) (hmem : (own, index) ∈ EL) (w : (Jvm.Cond.stringLink own index text).before a0 Z = true) (wS : ∀ a ∈ Bundle.stringAtoms, a.before a0 Z = true) (ht : (∀ c ∈ text.toList, c.toNat < 256) ∧ text.toList.map (fun c => Value.int (Jvm.Lit.byteI c.toNat.toUInt16)) = vs) (hz : ¬ z < 0) (hlz : z.toNatClampNeg = vs.length) (hn : 4 * text.toList.length ≤ n) (hbig : n ≤ 536870912) (hd : decode c.code pc = .ok (.ldc index, 2)) (hp : pc + 2 = pc') (hcl : cells + 2 = cells') (hsl : slots + (n + 4) = slots') (hc : cells' ≤ R.cells) (hl : slots' ≤ R.slots)
    (k : ∀ (h' : Heap) (a b : Addr) (kb : ClassId), Ext h h' → Exa Z h' a "java/lang/String" → Fld Z h' a "java/lang/String" "coder" "B" (.int 0) → Fld Z h' a "java/lang/String" "value" "[B" (.ref b) → Arv Z h' b kb .byte z vs (.int 0) → Go W EL Z a0 own p l e R s m args below meth c F h' cells' slots' (mkF m pc' ls (.ref a :: st))) : Go W EL Z a0 own p l e R s m args below meth c F h cells slots (mkF m pc ls st) := by
  subst hp hcl hsl hWt
  intro T P
  obtain ⟨vm0, k0, locs, hWf, X, eT, hx, hZ, hown, hS, hk, hEL, hC, hN, hO⟩ := P
  obtain ⟨a, T', h', k1, b, kb, X', e', E', hS', hk', hZ', hown', q1, q2, q3, q4, -, -, hC', -, -, st'⟩ := ldcCH X hx hZ hown w wS eT hS hk hEL hmem hC.1 ht hz hlz (g := mkF m pc ls st) rfl hd hn hbig hc hl
  obtain ⟨t, o, h1, h2⟩ := k h' a b kb E' q1 q2 q3 q4 T' ⟨T'.vm, k1, _, (fun q => nomatch q), X', e', hx, hZ', hown', hS', hk', hEL, hC.trans hC', hN, hO.ext E'⟩
  exact ⟨t, o, st' _ h1, h2⟩
theorem go_initO {a : Addr} {idx Wd : Nat} (w1 : (Jvm.Cond.methodLink own idx Lib.objectInit).before a0 Z = true) (w2 : (Jvm.Cond.instanceMethod Lib.objectInit).before a0 Z = true) (w3 : (Jvm.Cond.code Lib.objectInit ⟨#[0xb1]⟩ 1 none).before a0 Z = true) (hsize : ls.size = c.maxLocals) (hW : 2 * 0 + (st.map fun v => v.category).sum ≤ Wd) (hf : 1 ≤ R.frames) (hl : Wd + 12 ≤ R.locals) (hd : decode c.code pc = .ok (.invokespecial idx, 3)) (hp : pc + 3 = pc') (k : Go W EL Z a0 own p l e R s m args below meth c F h cells slots (mkF m pc' ls st)) : Go W EL Z a0 own p l e R s m args below meth c F h cells slots (mkF m pc ls (.ref a :: st)) := by
  subst hp
  intro T P
  obtain ⟨vm0, k0, locs, hWf, X, eT, hx, hZ, hown, hS, hk, hEL, hC, hN, hO⟩ := P
  obtain ⟨T', X', e', st'⟩ := initO X hx hZ hown w1 w2 w3 eT (g := mkF m pc ls (.ref a :: st)) rfl hsize rfl hd hf (W := Wd) hW hl
  obtain ⟨t, o, h1, h2⟩ := k T' ⟨vm0, k0, locs, hWf, X', e', hx, hZ, hown, hS, hk, hEL, hC, hN, hO⟩
  exact ⟨t, o, st' _ h1, h2⟩
-- calls: what a payment gives back as a point of the caller's walk
theorem pt_back {vm0 vm₁ : Vm} {k0 : Nat} {locs L : List Loc} {T : State} {B : Pt} {ws : List Addr} {dc ds : Nat} (hWf : W = false → vm0 = s.vm) (eT : T.heap = h) (hx : p.tables.exec = Jvm.exec) (hZ : Z.Warmed39 vm0) (hown : vm0.findClass own = some m.cls) (hS : s.Since vm0 k0) (hk : k0 ≤ h.size) (hEL : EW Z a0 EL) (hC : CHr Z EL s.vm s.heap vm0 h) (hN : Fr Z.heap.size locs) (hO : Old Z Z.heap.size h)
    (X : Stand p l e R (s.setVm vm0) m args below meth c B.U B.locs B.cells B.slots) (hL : Fr Z.heap.size L) (K : Keep h B.U.heap ws) (b1 : B.locs = locs ++ L) (b2 : B.cells = cells + dc) (b3 : B.slots = slots + ds) (hws : ∀ x ∈ ws, Z.heap.size ≤ x) (hsf : ∀ vm, Z.vm.Alike vm → ∀ x ∈ ws, Safe Z EL vm h x) (hcl : cells + dc = cells') (hsl : slots + ds = slots') :
    PT W EL Z a0 own p l e R s m args below meth c B.U B.U.heap cells' slots' := by
  subst hcl hsl
  rw [b1, b2, b3] at X
  exact ⟨vm0, k0, _, hWf, X, rfl, hx, hZ, hown, hS, Nat.le_trans hk K.1, hEL, hC.trans (CHr.keep K (hsf _ hZ.alike) hC.1), hN.app hL, hO.keep K hws⟩
theorem pt_backS {vm0 : Vm} {k0 : Nat} {locs L : List Loc} {B : Pt} {ws : List Addr} {dc ds : Nat} (hWt : W = true) (hx : p.tables.exec = Jvm.exec) (hZ : Z.Warmed39 vm0) (hown : vm0.findClass own = some m.cls) (hS : s.Since vm0 k0) (hk : k0 ≤ h.size) (hEL : EW Z a0 EL) (hC : CHr Z EL s.vm s.heap vm0 h) (hN : Fr Z.heap.size locs) (hO : Old Z Z.heap.size h)
    (X : Stand p l e R (s.setVm B.U.vm) m args below meth c B.U B.locs B.cells B.slots) (S2 : (s.setVm vm0).Since B.U.vm B.U.heap.size) (hL : Fr Z.heap.size L) (K : Keep h B.U.heap ws) (b1 : B.locs = locs ++ L) (b2 : B.cells = cells + dc) (b3 : B.slots = slots + ds) (b4 : CHr Z EL vm0 h B.U.vm B.U.heap) (hws : ∀ x ∈ ws, Z.heap.size ≤ x) (hcl : cells + dc = cells') (hsl : slots + ds = slots') :
    PT W EL Z a0 own p l e R s m args below meth c B.U B.U.heap cells' slots' := by
  subst hcl hsl hWt
  rw [b1, b2, b3] at X
  have hZ' : Z.Warmed39 B.U.vm := State.Warmed39.trans (t := s.setVm vm0) (s := Z) hZ S2.1
  have hown' : B.U.vm.findClass own = some m.cls := by
    rw [S2.1.alike.findClass]
    exact hown
  exact ⟨B.U.vm, B.U.heap.size, _, (fun q => nomatch q), X, rfl, hx, hZ', hown', hS.trans S2 (Nat.le_trans hk K.1), Nat.le_refl _, hEL, hC.trans b4, hN.app hL, hO.keep K hws⟩
theorem callS0 {index Wd dc ds : Nat} {y : MethodName} {bytes : ByteArray} {maxL : Nat} {ret : Option FieldType} {argsL rest : List Value} {ws : List Addr} {Q : Option Value → Heap → Prop} {ps : List FieldType} {r : Option FieldType}
    (hK : Pay l R p e below Z y Wd argsL.toArray h dc ds ws Q) (w1 : (Jvm.Cond.methodLink own index y).before a0 Z = true) (w2 : (Jvm.Cond.static y).before a0 Z = true) (w3 : (Jvm.Cond.initialized y.cls).before a0 Z = true) (w4 : (Jvm.Cond.code y bytes maxL ret).before a0 Z = true) 
    (hpd : parseMethodDescriptor y.desc = some ⟨ps, r⟩) (hsize : ls.size = c.maxLocals) (hws : ∀ x ∈ ws, Z.heap.size ≤ x) (hsf : ∀ vm, Z.vm.Alike vm → ∀ x ∈ ws, Safe Z EL vm h x)
    (hd : decode c.code pc = .ok (.invokestatic index, 3)) (k : ∀ (v : Option Value) (h' : Heap), Q v h' → Keep h h' ws → Go W EL Z a0 own p l e R s m args below meth c F h' cells' slots' (mkF m (pc + 3) ls (v.toList ++ rest))) (hy : y.cls ≠ "java/lang/invoke/MethodHandle" ∧ y.cls ≠ "java/lang/invoke/VarHandle" := by decide) (hln : argsL.length = ps.length := by rfl) (hst : st = argsL.reverse ++ rest := by rfl) (hW : 2 * 0 + (rest.map fun v => v.category).sum ≤ Wd := by exact nb rfl) (hcl : cells + dc = cells' := by rfl) (hsl : slots + ds = slots' := by rfl) (hc : cells' ≤ R.cells := by decide) (hs : slots' ≤ R.slots := by decide) : Go W EL Z a0 own p l e R s m args below meth c F h cells slots (mkF m pc ls st) := by
  intro T P
  obtain ⟨vm0, k0, locs, hWf, X, eT, hx, hZ, hown, hS, hk, hEL, hC, hN, hO⟩ := P
  obtain ⟨v, vm₁, B, -, X', ⟨L, ⟨q1, q2, q3⟩, b1, b2, b3⟩, st'⟩ := Jvm.LawKit.callS X hx hown (mvT hZ w1) (mvT hZ w2) (mvT hZ w3) (mvT hZ w4) hy (hK _ _ hZ) (g := mkF m pc ls st) rfl hsize (lenOf hpd hln) hst hW hd (fun _ _ => ⟨rfl, eT, by rw [hcl]; exact hc, by rw [hsl]; exact hs⟩)
  obtain ⟨t, o, h1, h2⟩ := k v _ q1 q3 B.U (pt_back (vm₁ := vm₁) hWf eT hx hZ hown hS hk hEL hC hN hO X' q2 q3 b1 b2 b3 hws hsf hcl hsl)
  exact ⟨t, o, st' _ h1, h2⟩
theorem callSW0 {index Wd dc ds : Nat} {y : MethodName} {bytes : ByteArray} {maxL : Nat} {ret : Option FieldType} {argsL rest : List Value} {ws : List Addr} {Q : Option Value → Heap → Prop} {ps : List FieldType} {r : Option FieldType} (hWt : W = true)
    (hK : PayW EL l R p e below Z y Wd argsL.toArray h dc ds ws Q) (w1 : (Jvm.Cond.methodLink own index y).before a0 Z = true) (w2 : (Jvm.Cond.static y).before a0 Z = true) (w3 : (Jvm.Cond.initialized y.cls).before a0 Z = true) (w4 : (Jvm.Cond.code y bytes maxL ret).before a0 Z = true) 
    (hpd : parseMethodDescriptor y.desc = some ⟨ps, r⟩) (hsize : ls.size = c.maxLocals) (hws : ∀ x ∈ ws, Z.heap.size ≤ x)
    (hd : decode c.code pc = .ok (.invokestatic index, 3)) (k : ∀ (v : Option Value) (h' : Heap), Q v h' → Keep h h' ws → Go W EL Z a0 own p l e R s m args below meth c F h' cells' slots' (mkF m (pc + 3) ls (v.toList ++ rest))) (hy : y.cls ≠ "java/lang/invoke/MethodHandle" ∧ y.cls ≠ "java/lang/invoke/VarHandle" := by decide) (hln : argsL.length = ps.length := by rfl) (hst : st = argsL.reverse ++ rest := by rfl) (hW : 2 * 0 + (rest.map fun v => v.category).sum ≤ Wd := by exact nb rfl) (hcl : cells + dc = cells' := by rfl) (hsl : slots + ds = slots' := by rfl) (hc : cells' ≤ R.cells := by decide) (hs : slots' ≤ R.slots := by decide) : Go W EL Z a0 own p l e R s m args below meth c F h cells slots (mkF m pc ls st) := by
  intro T P
  obtain ⟨vm0, k0, locs, hWf, X, eT, hx, hZ, hown, hS, hk, hEL, hC, hN, hO⟩ := P
  obtain ⟨v, vm₁, B, -, X', S2, -, ⟨L, ⟨q1, q2, q3⟩, b1, b2, b3, b4⟩, st'⟩ := callSS X hx hown (mvT hZ w1) (mvT hZ w2) (mvT hZ w3) (mvT hZ w4) hy (hK s vm0 _ hZ hC.1) (g := mkF m pc ls st) rfl hsize (lenOf hpd hln) hst hW hd (fun _ _ => ⟨rfl, eT, by rw [hcl]; exact hc, by rw [hsl]; exact hs⟩)
  obtain ⟨t, o, h1, h2⟩ := k v _ q1 q3 B.U (pt_backS hWt hx hZ hown hS hk hEL hC hN hO X' S2 q2 q3 b1 b2 b3 b4 hws hcl hsl)
  exact ⟨t, o, st'.trans h1, h2⟩
theorem callI0 {index Wd dc ds : Nat} {y : MethodName} {bytes : ByteArray} {maxL : Nat} {a : Addr} {argsL rest : List Value} {ws : List Addr} {Q : Option Value → Heap → Prop} {ps : List FieldType} {r : Option FieldType}
    (hK : Pay l R p e below Z y Wd (.ref a :: argsL).toArray h dc ds ws Q) (hy1 : y.name = "<init>") (w1 : (Jvm.Cond.methodLink own index y).before a0 Z = true) (w2 : (Jvm.Cond.instanceMethod y).before a0 Z = true) (w4 : (Jvm.Cond.code y bytes maxL none).before a0 Z = true) 
    (hpd : parseMethodDescriptor y.desc = some ⟨ps, r⟩) (hsize : ls.size = c.maxLocals) (hws : ∀ x ∈ ws, Z.heap.size ≤ x) (hsf : ∀ vm, Z.vm.Alike vm → ∀ x ∈ ws, Safe Z EL vm h x)
    (hd : decode c.code pc = .ok (.invokespecial index, 3)) (k : ∀ (v : Option Value) (h' : Heap), Q v h' → Keep h h' ws → Go W EL Z a0 own p l e R s m args below meth c F h' cells' slots' (mkF m (pc + 3) ls (v.toList ++ rest))) (hy : y.cls ≠ "java/lang/invoke/MethodHandle" ∧ y.cls ≠ "java/lang/invoke/VarHandle" := by decide) (hln : argsL.length = ps.length := by rfl) (hst : st = argsL.reverse ++ .ref a :: rest := by rfl) (hW : 2 * 0 + (rest.map fun v => v.category).sum ≤ Wd := by exact nb rfl) (hcl : cells + dc = cells' := by rfl) (hsl : slots + ds = slots' := by rfl) (hc : cells' ≤ R.cells := by decide) (hs : slots' ≤ R.slots := by decide) : Go W EL Z a0 own p l e R s m args below meth c F h cells slots (mkF m pc ls st) := by
  intro T P
  obtain ⟨vm0, k0, locs, hWf, X, eT, hx, hZ, hown, hS, hk, hEL, hC, hN, hO⟩ := P
  obtain ⟨v, vm₁, B, -, X', ⟨L, ⟨q1, q2, q3⟩, b1, b2, b3⟩, st'⟩ := X.specialBack hx hy1 hown (mvT hZ w1) (mvT hZ w2) (mvT hZ w4) hy (hK _ _ hZ) (g := mkF m pc ls st) rfl hsize (Steps.refl _) (lenOf hpd hln) hst hW hd (fun _ _ => ⟨rfl, eT, by rw [hcl]; exact hc, by rw [hsl]; exact hs⟩)
  obtain ⟨t, o, h1, h2⟩ := k v _ q1 q3 B.U (pt_back (vm₁ := vm₁) hWf eT hx hZ hown hS hk hEL hC hN hO X' q2 q3 b1 b2 b3 hws hsf hcl hsl)
  exact ⟨t, o, st'.trans h1, h2⟩
theorem callV0 {index Wd dc ds : Nat} {y z : MethodName} {C C' : String} {a : Addr} {argsL rest : List Value} {ws : List Addr} {Q : Option Value → Heap → Prop} {ps : List FieldType} {r : Option FieldType}
    (hK : Pay l R p e below Z z Wd (.ref a :: argsL).toArray h dc ds ws Q) (E : Exa Z h a C) (w1 : (Jvm.Cond.methodLink own index y).before a0 Z = true) (w2 : (Jvm.Cond.declares y).before a0 Z = true) (w3 : (Jvm.Cond.selects C' y y).before a0 Z = true) (w5 : (Jvm.Cond.selects C y z).before a0 Z = true) (w4 : (Jvm.Cond.instanceMethod z).before a0 Z = true) 
    (hpd : parseMethodDescriptor y.desc = some ⟨ps, r⟩) (hsize : ls.size = c.maxLocals) (hws : ∀ x ∈ ws, Z.heap.size ≤ x) (hsf : ∀ vm, Z.vm.Alike vm → ∀ x ∈ ws, Safe Z EL vm h x)
    (hd : decode c.code pc = .ok (.invokevirtual index, 3)) (k : ∀ (v : Option Value) (h' : Heap), Q v h' → Keep h h' ws → Go W EL Z a0 own p l e R s m args below meth c F h' cells' slots' (mkF m (pc + 3) ls (v.toList ++ rest))) (hy : y.cls ≠ "java/lang/invoke/MethodHandle" ∧ y.cls ≠ "java/lang/invoke/VarHandle" := by decide) (hln : argsL.length = ps.length := by rfl) (hst : st = argsL.reverse ++ .ref a :: rest := by rfl) (hW : 2 * 0 + (rest.map fun v => v.category).sum ≤ Wd := by exact nb rfl) (hcl : cells + dc = cells' := by rfl) (hsl : slots + ds = slots' := by rfl) (hc : cells' ≤ R.cells := by decide) (hs : slots' ≤ R.slots := by decide) : Go W EL Z a0 own p l e R s m args below meth c F h cells slots (mkF m pc ls st) := by
  intro T P
  obtain ⟨vm0, k0, locs, hWf, X, eT, hx, hZ, hown, hS, hk, hEL, hC, hN, hO⟩ := P
  obtain ⟨cB, kB, i1, i2, i3⟩ := isOf (T := T) (s := s.setVm vm0) hZ eT E
  obtain ⟨v, vm₁, B, -, X', ⟨L, ⟨q1, q2, q3⟩, b1, b2, b3⟩, st'⟩ := X.virtualBack hx (y := y) (z := z) hown (mvT hZ w1) (mvT hZ w2) (notFace_of_selects (args := #[]) (mvT hZ w3)) (mvT hZ w5) (mvT hZ w4) hy (hK _ _ hZ) i1 i3 (g := mkF m pc ls st) rfl hsize (Steps.refl _) (lenOf hpd hln) hst hW hd (fun _ _ => ⟨rfl, eT, by rw [hcl]; exact hc, by rw [hsl]; exact hs⟩)
  obtain ⟨t, o, h1, h2⟩ := k v _ q1 q3 B.U (pt_back (vm₁ := vm₁) hWf eT hx hZ hown hS hk hEL hC hN hO X' q2 q3 b1 b2 b3 hws hsf hcl hsl)
  exact ⟨t, o, st'.trans h1, h2⟩
theorem callVW0 {index Wd dc ds : Nat} {y z : MethodName} {C C' : String} {a : Addr} {argsL rest : List Value} {ws : List Addr} {Q : Option Value → Heap → Prop} {ps : List FieldType} {r : Option FieldType} (hWt : W = true)
    (hK : PayW EL l R p e below Z z Wd (.ref a :: argsL).toArray h dc ds ws Q) (E : Exa Z h a C) (w1 : (Jvm.Cond.methodLink own index y).before a0 Z = true) (w2 : (Jvm.Cond.declares y).before a0 Z = true) (w3 : (Jvm.Cond.selects C' y y).before a0 Z = true) (w5 : (Jvm.Cond.selects C y z).before a0 Z = true) (w4 : (Jvm.Cond.instanceMethod z).before a0 Z = true) 
    (hpd : parseMethodDescriptor y.desc = some ⟨ps, r⟩) (hsize : ls.size = c.maxLocals) (hws : ∀ x ∈ ws, Z.heap.size ≤ x)
    (hd : decode c.code pc = .ok (.invokevirtual index, 3)) (k : ∀ (v : Option Value) (h' : Heap), Q v h' → Keep h h' ws → Go W EL Z a0 own p l e R s m args below meth c F h' cells' slots' (mkF m (pc + 3) ls (v.toList ++ rest))) (hy : y.cls ≠ "java/lang/invoke/MethodHandle" ∧ y.cls ≠ "java/lang/invoke/VarHandle" := by decide) (hln : argsL.length = ps.length := by rfl) (hst : st = argsL.reverse ++ .ref a :: rest := by rfl) (hW : 2 * 0 + (rest.map fun v => v.category).sum ≤ Wd := by exact nb rfl) (hcl : cells + dc = cells' := by rfl) (hsl : slots + ds = slots' := by rfl) (hc : cells' ≤ R.cells := by decide) (hs : slots' ≤ R.slots := by decide) : Go W EL Z a0 own p l e R s m args below meth c F h cells slots (mkF m pc ls st) := by
  intro T P
  obtain ⟨vm0, k0, locs, hWf, X, eT, hx, hZ, hown, hS, hk, hEL, hC, hN, hO⟩ := P
  obtain ⟨cB, kB, i1, i2, i3⟩ := isOf (T := T) (s := s.setVm vm0) hZ eT E
  obtain ⟨v, vm₁, B, -, X', S2, -, ⟨L, ⟨q1, q2, q3⟩, b1, b2, b3, b4⟩, st'⟩ := X.virtualBackS hx (y := y) (z := z) hown (mvT hZ w1) (mvT hZ w2) (notFace_of_selects (args := #[]) (mvT hZ w3)) (mvT hZ w5) (mvT hZ w4) hy (hK s vm0 _ hZ hC.1) i1 i3 (g := mkF m pc ls st) rfl hsize (Steps.refl _) (lenOf hpd hln) hst hW hd (fun _ _ => ⟨rfl, eT, by rw [hcl]; exact hc, by rw [hsl]; exact hs⟩)
  obtain ⟨t, o, h1, h2⟩ := k v _ q1 q3 B.U (pt_backS hWt hx hZ hown hS hk hEL hC hN hO X' S2 q2 q3 b1 b2 b3 b4 hws hcl hsl)
  exact ⟨t, o, st'.trans h1, h2⟩
theorem k_v {ws : List Addr} {QV : Value → Heap → Prop} {rest : List Value} (hp : pc + 3 = pc') (k : ∀ (x : Value) (h' : Heap), QV x h' → Keep h h' ws → Go W EL Z a0 own p l e R s m args below meth c F h' cells' slots' (mkF m pc' ls (x :: rest))) : ∀ (v : Option Value) (h' : Heap), rvl QV v h' → Keep h h' ws → Go W EL Z a0 own p l e R s m args below meth c F h' cells' slots' (mkF m (pc + 3) ls (v.toList ++ rest)) := by
  subst hp
  rintro _ h' ⟨x, rfl, q⟩ K
  exact k x h' q K
theorem k_n {ws : List Addr} {QN : Heap → Prop} {rest : List Value} (hp : pc + 3 = pc') (k : ∀ (h' : Heap), QN h' → Keep h h' ws → Go W EL Z a0 own p l e R s m args below meth c F h' cells' slots' (mkF m pc' ls rest)) : ∀ (v : Option Value) (h' : Heap), rno QN v h' → Keep h h' ws → Go W EL Z a0 own p l e R s m args below meth c F h' cells' slots' (mkF m (pc + 3) ls (v.toList ++ rest)) := by
  subst hp
  rintro _ h' ⟨rfl, q⟩ K
  exact k h' q K
-- the end
theorem fin_of {vm0 : Vm} {k0 : Nat} {locs : List Loc} {T : State} {h0 : Heap} {ws : List Addr} {Q : Option Value → Heap → Prop} {dc ds : Nat} {v : Option Value} (hlk : meth.locks = false) (hWf : W = false → vm0 = s.vm) (X : Stand p l e R (s.setVm vm0) m args below meth c T locs cells slots) (eT : T.heap = h) (hZ : Z.Warmed39 vm0) (hS : s.Since vm0 k0) (hk : k0 ≤ h.size) (hEL : EW Z a0 EL) (hC : CHr Z EL s.vm s.heap vm0 h) (hN : Fr Z.heap.size locs) (hv : meth.sig.returnType = none → v = none) (hq : Q v h) (K : Keep h0 h ws) (hc : cells ≤ dc) (hs : slots ≤ ds) :
    ∃ fs, (∀ (f : JFrame) (acts : List Action), f.method = m → f.locked = none → f.entered = [] → (doReturn e (T.setTop f) acts v).1 = T.setFrames fs) ∧ (T.setFrames fs).status = .running ∧ Ended (T.setFrames fs) below (.returned v) ∧ Fend W EL Z s h0 ws Q dc ds (.returned v) (T.setFrames fs) := by
  cases W
  · obtain rfl := hWf rfl
    obtain ⟨fs, hr, hrun, hended, hW, hsame⟩ := X.leave (v := v) hv hlk
    exact ⟨fs, hr, hrun, hended, v, locs, rfl, ⟨by rw [show (T.setFrames fs).heap = h from eT]; exact hq, hN, by rw [show (T.setFrames fs).heap = h from eT]; exact K⟩, (fun q => nomatch q), fun _ => ⟨⟨v, rfl⟩, hW, hsame.mono hc hs⟩⟩
  · obtain ⟨fs, hr, hrun, hended, q1, q2, q3, q4⟩ := X.leaveW hS (by rw [eT]; exact hk) (v := v) hv hlk
    exact ⟨fs, hr, hrun, hended, v, locs, rfl, ⟨by rw [show (T.setFrames fs).heap = h from eT]; exact hq, hN, by rw [show (T.setFrames fs).heap = h from eT]; exact K⟩, fun _ => ⟨by rw [show (T.setFrames fs).heap = h from eT]; exact hC.trans (show CHr Z EL vm0 h T.vm h from CHv.at X hZ hEL hC.1), q1, q2, q3, q4.mono hc hs⟩, (fun q => nomatch q)⟩
theorem go_areturn {v : Value} {t : FieldType} {h0 : Heap} {ws : List Addr} {Q : Option Value → Heap → Prop} {dc ds : Nat} (hret : meth.sig.returnType = some t) (hlk : meth.locks = false) (ht : t.isReference = true) (hv : v.isRef = true) (hd : decode c.code pc = .ok (.areturn, 1)) (hc : cells ≤ dc) (hs : slots ≤ ds) (hq : Q (some v) h) (K : Keep h0 h ws) :
    Go W EL Z a0 own p l e R s m args below meth c (Fend W EL Z s h0 ws Q dc ds) h cells slots (mkF m pc ls [v]) := by
  intro T P
  obtain ⟨vm0, k0, locs, hWf, X, eT, hx, hZ, hown, hS, hk, hEL, hC, hN, hO⟩ := P
  obtain ⟨fs, hr, q1, q2, q3⟩ := fin_of hlk hWf X eT hZ hS hk hEL hC hN (v := some v) (fun q => by rw [hret] at q; cases q) hq K hc hs
  exact ⟨_, _, X.areturnOut hx hv hret ht hd hr, q1, q2, q3⟩
theorem go_return {h0 : Heap} {ws : List Addr} {Q : Option Value → Heap → Prop} {dc ds : Nat} (hret : meth.sig.returnType = none) (hlk : meth.locks = false) (hd : decode c.code pc = .ok (.return_, 1)) (hc : cells ≤ dc) (hs : slots ≤ ds) (hq : Q none h) (K : Keep h0 h ws) :
    Go W EL Z a0 own p l e R s m args below meth c (Fend W EL Z s h0 ws Q dc ds) h cells slots (mkF m pc ls []) := by
  intro T P
  obtain ⟨vm0, k0, locs, hWf, X, eT, hx, hZ, hown, hS, hk, hEL, hC, hN, hO⟩ := P
  obtain ⟨fs, hr, q1, q2, q3⟩ := fin_of hlk hWf X eT hZ hS hk hEL hC hN (v := none) (fun _ => rfl) hq K hc hs
  exact ⟨_, _, X.returnOut hx hret hd hr, q1, q2, q3⟩
theorem go_ireturn {x : Int32} {t : FieldType} {h0 : Heap} {ws : List Addr} {Q : Option Value → Heap → Prop} {dc ds : Nat} (hret : meth.sig.returnType = some t) (hlk : meth.locks = false) (hn : narrow t (.int x) = .int x) (hti : t = .int ∨ t = .boolean ∨ t = .byte ∨ t = .char ∨ t = .short) (hd : decode c.code pc = .ok (.ireturn, 1)) (hc : cells ≤ dc) (hs : slots ≤ ds) (hq : Q (some (.int x)) h) (K : Keep h0 h ws) :
    Go W EL Z a0 own p l e R s m args below meth c (Fend W EL Z s h0 ws Q dc ds) h cells slots (mkF m pc ls [.int x]) := by
  intro T P
  obtain ⟨vm0, k0, locs, hWf, X, eT, hx, hZ, hown, hS, hk, hEL, hC, hN, hO⟩ := P
  obtain ⟨fs, hr, q1, q2, q3⟩ := fin_of hlk hWf X eT hZ hS hk hEL hC hN (v := some (.int x)) (fun q => by rw [hret] at q; cases q) hq K hc hs
  exact ⟨_, _, X.ireturnOut hx hret hn hti hd hr, q1, q2, q3⟩
theorem i2b_i2b (x : Int32) : (x.toInt8.toInt32).toInt8.toInt32 = x.toInt8.toInt32 := by simp
theorem go_acopy {a b : Addr} {kA kB : ClassId} {ty : FieldType} {z z' sp dp nn : Int32} {vs vd vd' : List Value} {dv dd : Value} {index Wd : Nat} (w1 : (Jvm.Cond.methodLink own index Jvm.Stand.acN).before a0 Z = true) (w2 : (Jvm.Cond.native Jvm.Stand.acN).before a0 Z = true) (w3 : (Jvm.Cond.static Jvm.Stand.acN).before a0 Z = true) (w4 : (Jvm.Cond.initialized "java/lang/System").before a0 Z = true) (hE : EL = []) (A : Arv Z h a kA ty z vs dv) (B : Arv Z h b kB ty z' vd dd) (hty : refKind ty = false)
    (h1 : ¬ sp < 0) (h2 : ¬ dp < 0) (h3 : ¬ nn < 0) (h4 : sp.toNatClampNeg + nn.toNatClampNeg ≤ z.toNatClampNeg) (h5 : dp.toNatClampNeg + nn.toNatClampNeg ≤ z'.toNatClampNeg) (hl : dp.toNatClampNeg + nn.toNatClampNeg ≤ vd.length) (hb : Z.heap.size ≤ b) (hvd : vd.take dp.toNatClampNeg ++ ((List.range nn.toNatClampNeg).map fun i => vs.getD (sp.toNatClampNeg + i) dv) ++ vd.drop (dp.toNatClampNeg + nn.toNatClampNeg) = vd')
    (hsize : ls.size = c.maxLocals) (hW : 2 * 0 + (st.map fun v => v.category).sum ≤ Wd) (hf : 1 ≤ R.frames) (hlo : Wd + 18 ≤ R.locals) (hd : decode c.code pc = .ok (.invokestatic index, 3)) (hp : pc + 3 = pc')
    (k : ∀ h', Keep h h' [b] → Arv Z h' b kB ty z' vd' dd → Go W EL Z a0 own p l e R s m args below meth c F h' cells slots (mkF m pc' ls st)) : Go W EL Z a0 own p l e R s m args below meth c F h cells slots (mkF m pc ls (.int nn :: .int dp :: .ref b :: .int sp :: .ref a :: st)) := by
  subst hp hvd hE
  intro T P
  obtain ⟨vm0, k0, locs, hWf, X, eT, hx, hZ, hown, hS, hk, hEL, hC, hN, hO⟩ := P
  obtain ⟨T', h', L, X', e', N', K', A', st'⟩ := cpA X hx hZ hown w1 w2 w3 w4 eT A B (Or.inl ⟨rfl, hty⟩) h1 h2 h3 h4 h5 rfl hl hN hb (g := mkF m pc ls (.int nn :: .int dp :: .ref b :: .int sp :: .ref a :: st)) rfl hsize rfl hd hf (W := Wd) hW hlo
  obtain ⟨t, o, g1, g2⟩ := k h' K' A' T' ⟨vm0, k0, L, hWf, X', e', hx, hZ, hown, hS, Nat.le_trans hk K'.1, hEL, hC.trans (CHr.keep K' (fun _ _ => safe_nil) hC.1), N', hO.keep K' (allS hb all0)⟩
  exact ⟨t, o, st' _ g1, g2⟩
end Own
abbrev EL1 : List (String × Nat) := [("com/example/commit_feed/commitfeed/config/SqlNamesSchemaPinLaw", 13), ("java/lang/StringLatin1", 151)]
def GH (Z : State) (a0 : Array Value) : Prop := (∀ d ∈ tables_1, d.before a0 Z = true) ∧ (∀ d ∈ jdkStatics_1, d.before a0 Z = true) ∧ EW Z a0 EL1 ∧ (narrow_1.value a0 Z none Z [] = some true) ∧ Fit Z
theorem wk {Z : State} {a0 : Array Value} (G : GH Z a0) (k : Nat) {d : Jvm.Cond} (q : tables_1[k]? = some d := by rfl) : d.before a0 Z = true := G.1 _ (List.mem_of_getElem? q)
theorem jk {Z : State} {a0 : Array Value} (G : GH Z a0) (k : Nat) {d : Jvm.Cond} (q : jdkStatics_1[k]? = some d) : d.before a0 Z = true := G.2.1 _ (List.mem_of_getElem? q)
theorem ew1 {Z : State} {a0 : Array Value} (G : GH Z a0) : EW Z a0 EL1 := G.2.2.1
theorem wS {Z : State} {a0 : Array Value} (G : GH Z a0) : ∀ a ∈ Bundle.stringAtoms, a.before a0 Z = true := fun a ha => G.1 a ((by decide +kernel : ∀ d ∈ Bundle.stringAtoms, d ∈ tables_1) a ha)
theorem cs_of {Z : State} {a0 : Array Value} (G : GH Z a0) : ∃ z, Sta Z Z.heap "java/lang/String" "COMPACT_STRINGS" "Z" (.int z) ∧ ¬ z = 0 := by
  obtain ⟨z, e1⟩ := is_v (Cond.before_iff.mp (jk G 1 rfl))
  exact ⟨z, Sta.start e1 (Or.inl (jk G 0 rfl)), gotF (Cond.eq_ints e1 (Term.int_eval (0))) (not_v (Cond.before_iff.mp (jk G 2 rfl)))⟩
theorem sf_of {Z : State} {a0 : Array Value} (G : GH Z a0) : ∃ v, Sta Z Z.heap "jdk/internal/util/Preconditions" "SIOOBE_FORMATTER" "Ljava/util/function/BiFunction;" v ∧ v.isRef = true := by
  obtain ⟨v, e1, r1⟩ := isR_v (Cond.before_iff.mp (jk G 8 rfl))
  exact ⟨v, Sta.start e1 (Or.inl (jk G 7 rfl)), r1⟩
theorem conN {l : Launch} {Z : State} {a0 : Array Value} {ls : Array Slot} {h : Heap} {y : MethodName} {bytes : ByteArray} {maxL : Nat} {ret : Option FieldType} {wl : List Jvm.Cond} {rm : Room} {as' : Array Value} {ws : List Addr} {Q : Option Value → Heap → Prop} (G : GH Z a0) (hname : plainFor y = true) (hO : Old Z Z.heap.size h) (hef : ∀ m, entryFrame m as' maxL = mkF m 0 ls [])
    (body : ∀ (p : Program) (e : Env) (s : State) (m : MethodId) (below : List Frame) (meth : Method) (c : Code), (∀ {pc : Nat} {r : Except DecodeError (Instr × Nat)}, decode bytes pc = r → decode c.code pc = r) → c.maxLocals = maxL → meth.sig.returnType = ret → meth.locks = false → meth.name = y.name → Go false [] Z a0 y.cls p l e rm s m as' below meth c (Fend false [] Z s h ws Q rm.cells rm.slots) h 0 0 (mkF m 0 ls [])) :
    Con false [] l Z y bytes maxL ret wl rm as' h ws Q := con_of hname (fun _ => rfl) EW.nil hO hef body
theorem conW {l : Launch} {Z : State} {a0 : Array Value} {ls : Array Slot} {h : Heap} {y : MethodName} {bytes : ByteArray} {maxL : Nat} {ret : Option FieldType} {wl : List Jvm.Cond} {rm : Room} {as' : Array Value} {ws : List Addr} {Q : Option Value → Heap → Prop} (G : GH Z a0) (hname : plainFor y = true) (hO : Old Z Z.heap.size h) (hef : ∀ m, entryFrame m as' maxL = mkF m 0 ls [])
    (body : ∀ (p : Program) (e : Env) (s : State) (m : MethodId) (below : List Frame) (meth : Method) (c : Code), (∀ {pc : Nat} {r : Except DecodeError (Instr × Nat)}, decode bytes pc = r → decode c.code pc = r) → c.maxLocals = maxL → meth.sig.returnType = ret → meth.locks = false → meth.name = y.name → Go true EL1 Z a0 y.cls p l e rm s m as' below meth c (Fend true EL1 Z s h ws Q rm.cells rm.slots) h 0 0 (mkF m 0 ls [])) :
    Con true EL1 l Z y bytes maxL ret wl rm as' h ws Q := con_of hname (fun q => nomatch q) (ew1 G) hO hef body
theorem held_of {s : State} {q : String × Nat} (h : Jvm.Pilot.@@N@@.Jvm.D.constHeld s q.1 q.2) : Jvm.Lit.constHeld s q.1 q.2 := h
theorem nar_c8 {c : Int32} (q : ¬ c < 0 ∧ ¬ (255 : Int32) < c) : narrow .char (.int c) = .int c := by
  show Value.int (nar .char c) = _
  rw [show nar .char c = c.toUInt32.toUInt16.toUInt32.toInt32 from rfl]
  have r := c_i2c c
  obtain ⟨q1, q2⟩ := q
  rw [Int32.lt_iff_toInt_lt] at q1 q2
  have e1 : (255 : Int32).toInt = 255 := by decide
  have e0 : (0 : Int32).toInt = 0 := by decide
  congr 1
  apply Int32.toInt_inj.mp
  omega
section OwnStr
variable {W : Bool} {EL : List (String × Nat)} {Z : State} {a0 : Array Value} {own : String} {p : Program} {l : Launch} {e : Env} {R : Room} {below : List Frame} {h h' : Heap} {x b : Addr} {cs ds : List Int32}
abbrev C8 (c : Int32) : Prop := ¬ c < 0 ∧ ¬ (255 : Int32) < c
theorem c8n : ∀ c ∈ ([] : List Int32), C8 c := fun _ q => nomatch q
theorem c8c {y : Int32} {L : List Int32} (q : C8 y) (r : ∀ c ∈ L, C8 c) : ∀ c ∈ y :: L, C8 c := fun c hc => by
  rcases List.mem_cons.mp hc with rfl | hc
  · exact q
  · exact r c hc
theorem c8_m (y : Int32) : C8 (y &&& 255) := by
  have q := c_and y 255 (by decide)
  have e1 : (255 : Int32).toInt = 255 := by decide
  have e0 : (0 : Int32).toInt = 0 := by decide
  constructor <;> (intro r; rw [Int32.lt_iff_toInt_lt] at r; omega)
theorem c8_up {c : Int32} (q : C8 c) : ¬ c < 0 ∧ ¬ (65535 : Int32) < c := ⟨q.1, fun r => q.2 (by
  rw [Int32.lt_iff_toInt_lt] at r ⊢
  have e1 : (65535 : Int32).toInt = 65535 := by decide
  have e2 : (255 : Int32).toInt = 255 := by decide
  omega)⟩
theorem i2c_c16 {c : Int32} (q : ¬ c < 0 ∧ ¬ (65535 : Int32) < c) : c.toUInt32.toUInt16.toUInt32.toInt32 = c := by
  have r := c_i2c c
  obtain ⟨q1, q2⟩ := q
  rw [Int32.lt_iff_toInt_lt] at q1 q2
  have e1 : (65535 : Int32).toInt = 65535 := by decide
  have e0 : (0 : Int32).toInt = 0 := by decide
  apply Int32.toInt_inj.mp
  omega
theorem i2c_c8 {c : Int32} (q : C8 c) : c.toUInt32.toUInt16.toUInt32.toInt32 = c := i2c_c16 (c8_up q)
def Str (Z : State) (h : Heap) (a : Addr) (cs : List Int32) : Prop := ∃ (t : Addr) (kb : ClassId), Exa Z h a "java/lang/String" ∧ Fld Z h a "java/lang/String" "value" "[B" (.ref t) ∧ Fld Z h a "java/lang/String" "coder" "B" (.int 0) ∧ Arv Z h t kb .byte (Int32.ofNat cs.length) ((cs.map fun c => c.toInt8.toInt32).map Value.int) (.int 0) ∧ (∀ c ∈ cs, C8 c) ∧ cs.length ≤ 4000
theorem Str.exa (S : Str Z h x cs) : Exa Z h x "java/lang/String" := by obtain ⟨t, k, q, -⟩ := S; exact q
theorem Str.keep (S : Str Z h x cs) (K : Keep h h' []) : Str Z h' x cs := by
  obtain ⟨t, k, q1, q2, q3, q4, q5, q6⟩ := S
  exact ⟨t, k, q1.keep K, q2.keep K nin0, q3.keep K nin0, q4.keep K nin0, q5, q6⟩
theorem Str.ext (S : Str Z h x cs) (E : Ext h h') : Str Z h' x cs := S.keep ((Keep.refl h []).ext E)
theorem safe_null {vm : Vm} (hal : Z.vm.Alike vm) (E : Exa Z h x "java/lang/String") (V : Fld Z h x "java/lang/String" "value" "[B" .null) : Safe Z EL vm h x := fun B => by
  obtain ⟨cell, k, e1, e2, e3, -, -⟩ := E
  obtain ⟨cell', cf, k', i, f, v1, v2, v3, v4, v5, v6, v7⟩ := V
  cases e1.symm.trans v1
  obtain ⟨p, -, u, a, -, q, -, F, rfl | rfl⟩ := B
  · cases (show h[q.sa]? = some q.sC from F.ha).symm.trans e1
    obtain ⟨cS, ⟨⟨s1, s2, s3, ⟨cv, kv, iv, s4, s4'⟩, s5, s6, s7, s8, s9⟩, -, -⟩, -⟩ := F
    obtain ⟨kz, z4⟩ := ff_back (U := Wst Z vm h) hal s4
    cases z4.symm.trans v2
    rw [s8] at v7
    cases v7
  · cases (show h[q.sd]? = some q.SA from F.hd).symm.trans e1
    obtain ⟨cS, -, -, fB, -⟩ := F
    have f' : vm.findClass "[B" = some q.SA.cls := fB
    rw [hal.findClass] at f'
    obtain ⟨k1, q1, q2⟩ := Vm.findClass_spec f'
    obtain ⟨k2, q3, q4⟩ := Vm.findClass_spec e2
    cases q1.symm.trans q3
    exact absurd (q2.symm.trans q4) (by decide)
theorem pay_new (G : GH Z a0) (O : Old Z Z.heap.size h) {kC : ClassId} {d v0 c0 : Value} {N : Int32} {n Wd : Nat} (hx0 : Z.heap.size ≤ x) (E : Exa Z h x "java/lang/String") (V : Fld Z h x "java/lang/String" "value" "[B" v0) (C : Fld Z h x "java/lang/String" "coder" "B" c0) (K : Arv Z h b kC .char N (cs.map Value.int) d) (hn : cs.length = n) (hN : N = Int32.ofNat n) (l0 : 0 < n) (l2 : n ≤ 4000) (hp : ∀ c ∈ cs, C8 c) (hfr : 4 ≤ R.frames) (hlo : Wd + 65 ≤ R.locals) :
    Pay l R p e below Z (⟨"java/lang/String", "<init>", "([C)V"⟩ : MethodName) Wd #[.ref x, .ref b] h 1 n [x] (rno fun h' => Str Z h' x cs) := by
  intro s args hZ
  obtain ⟨z, hS, hz⟩ := cs_of G
  refine (StrChars.Road.backV (W := Wd) hZ (fun d hd => G.1 d ((by decide +kernel : ∀ d ∈ StrChars.Road.words, d ∈ tables_1) d hd)) (kI := 4) (wk G 6 rfl) hx0 O.2.1 E V C K (hS.ext O.2) hz hn hN l0 l2 hp rfl hfr hlo).mono (fun _ _ q => q) ?_
  rintro A a v B - ⟨L, ⟨rfl, q1, q2, q3, q4, t, kb, q5, q6, q7, q8, q9⟩, b1, b2, b3⟩
  subst hn hN
  exact ⟨L, ⟨⟨rfl, t, kb, q3, q8, q4, q9, hp, l2⟩, q1, q2⟩, b1, b2, b3⟩
theorem pay_len (G : GH Z a0) (O : Old Z Z.heap.size h) {n : Int32} {Wd : Nat} (S : Str Z h x cs) (hn : Int32.ofNat cs.length = n) (hfr : 2 ≤ R.frames) (hlo : Wd + 25 ≤ R.locals) :
    Pay l R p e below Z (⟨"java/lang/String", "length", "()I"⟩ : MethodName) Wd #[.ref x] h 0 0 [] (rvl fun v h' => .int n = v ∧ h = h') := by
  intro s args hZ
  obtain ⟨z, hS, hz⟩ := cs_of G
  obtain ⟨t, kb, q1, q2, q3, q4, q5, q6⟩ := S
  refine (StrChars.Road.lenW (W := Wd) hZ (fun d hd => G.1 d ((by decide +kernel : ∀ d ∈ StrChars.Road.wordsLen, d ∈ tables_1) d hd)) (kI := 4) (wk G 6 rfl) q1 q2 q3 q4 (StrChars.Road.codOf rfl fun c hc => (q5 c hc).2) (fun c hc => c8_up (q5 c hc)) (hS.ext O.2) hz q6 hfr hlo).mono (fun _ _ q => q) ?_
  rintro A a v B - ⟨L, ⟨rfl, rfl, e1⟩, b1, b2, b3⟩
  subst hn
  exact ⟨[], ⟨⟨_, rfl, rfl, e1.symm⟩, Fr.nil _, by rw [e1]; exact Keep.refl _ _⟩, b1, b2, b3⟩
theorem pay_eq (G : GH Z a0) (O : Old Z Z.heap.size h) {Wd : Nat} (S : Str Z h x cs) (S' : Str Z h b ds) (hfr : 2 ≤ R.frames) (hlo : Wd + 28 ≤ R.locals) :
    Pay l R p e below Z (⟨"java/lang/String", "equals", "(Ljava/lang/Object;)Z"⟩ : MethodName) Wd #[.ref x, .ref b] h 0 0 [] (rvl fun v h' => (.int 1 = v ∧ cs = ds ∧ h = h') ∨ (.int 0 = v ∧ ¬ cs = ds ∧ h = h')) := by
  intro s args hZ
  obtain ⟨z, hS, hz⟩ := cs_of G
  obtain ⟨t, kb, q1, q2, q3, q4, q5, q6⟩ := S
  obtain ⟨t', kb', r1, r2, r3, r4, r5, r6⟩ := S'
  refine (StrChars.Road.eqW (W := Wd) hZ (fun d hd => G.1 d ((by decide +kernel : ∀ d ∈ StrChars.Road.wordsEq, d ∈ tables_1) d hd)) (kI := 4) (wk G 6 rfl) q1 q2 q3 q4 (StrChars.Road.codOf rfl fun c hc => (q5 c hc).2) (fun c hc => c8_up (q5 c hc)) q6 r1 r2 r3 r4 (StrChars.Road.codOf rfl fun c hc => (r5 c hc).2) (fun c hc => c8_up (r5 c hc)) r6 (hS.ext O.2) hz hfr hlo).mono (fun _ _ q => q) ?_
  rintro A a v B - ⟨L, ⟨⟨rfl, q⟩ | ⟨rfl, q⟩, rfl, e1⟩, b1, b2, b3⟩
  · exact ⟨[], ⟨⟨_, rfl, Or.inl ⟨rfl, q, e1.symm⟩⟩, Fr.nil _, by rw [e1]; exact Keep.refl _ _⟩, b1, b2, b3⟩
  · exact ⟨[], ⟨⟨_, rfl, Or.inr ⟨rfl, q, e1.symm⟩⟩, Fr.nil _, by rw [e1]; exact Keep.refl _ _⟩, b1, b2, b3⟩
end OwnStr
theorem and4 (y : Int32) : (y &&& (3 : Int32)) = (0 : Int32) ∨ (y &&& (3 : Int32)) = (1 : Int32) ∨ (y &&& (3 : Int32)) = (2 : Int32) ∨ (y &&& (3 : Int32)) = (3 : Int32) := by
  have r := c_and y 3 (by decide)
  have e0 : (0 : Int32).toInt = 0 := by decide
  have e1 : (1 : Int32).toInt = 1 := by decide
  have e2 : (2 : Int32).toInt = 2 := by decide
  have e3 : (3 : Int32).toInt = 3 := by decide
  have : (y &&& (3 : Int32)).toInt = 0 ∨ (y &&& (3 : Int32)).toInt = 1 ∨ (y &&& (3 : Int32)).toInt = 2 ∨ (y &&& (3 : Int32)).toInt = 3 := by omega
  rcases this with h | h | h | h
  · exact Or.inl (Int32.toInt_inj.mp (by rw [h, e0]))
  · exact Or.inr (Or.inl (Int32.toInt_inj.mp (by rw [h, e1])))
  · exact Or.inr (Or.inr (Or.inl (Int32.toInt_inj.mp (by rw [h, e2]))))
  · exact Or.inr (Or.inr (Or.inr (Int32.toInt_inj.mp (by rw [h, e3]))))
def s_OE (Z : State) : Addr := (((Term.static "java/util/Optional" "EMPTY" "Ljava/util/Optional;").eval #[] Z none [] Z).bind refO).getD 0
theorem oe_all {Z : State} {a0 : Array Value} (G : GH Z a0) : Sta Z Z.heap "java/util/Optional" "EMPTY" "Ljava/util/Optional;" (.ref (s_OE Z)) ∧ Exa Z Z.heap (s_OE Z) "java/util/Optional" ∧ Fld Z Z.heap (s_OE Z) "java/util/Optional" "value" "Ljava/lang/Object;" .null := by
  have x := Cond.before_iff.mp (jk G 11 rfl)
  obtain ⟨a, ea⟩ := exa_v x
  have r : s_OE Z = a := by
    unfold s_OE
    rw [show (Term.static "java/util/Optional" "EMPTY" "Ljava/util/Optional;").eval #[] Z none [] Z = some (.ref a) from ea]
    rfl
  rw [r]
  have y := null_v (Cond.before_iff.mp (jk G 12 rfl))
  rw [fld_at ea] at y
  exact ⟨Sta.start ea (Or.inl (jk G 10 rfl)), Exa.start ea x, Fld.start y⟩
theorem b46 {c : Int32} (q : C8 c) : c.toInt8.toInt32 = (46 : Int32) ↔ c = (46 : Int32) := by
  have r := c_i2b c
  obtain ⟨q1, q2⟩ := q
  rw [Int32.lt_iff_toInt_lt] at q1 q2
  have e1 : (255 : Int32).toInt = 255 := by decide
  have e0 : (0 : Int32).toInt = 0 := by decide
  have e4 : (46 : Int32).toInt = 46 := by decide
  constructor
  · intro h
    have h' := congrArg Int32.toInt h
    apply Int32.toInt_inj.mp
    omega
  · rintro rfl
    decide
set_option maxRecDepth 65536
set_option maxHeartbeats 40000000
theorem d1_0 : decode jdk_42_method_66_code 0 = .ok (.aload_n 0, 1) := by decide +kernel
theorem d1_1 : decode jdk_42_method_66_code 1 = .ok (.aload_n 1, 1) := by decide +kernel
theorem d1_2 : decode jdk_42_method_66_code 2 = .ok (.if_acmp .ne 5, 3) := by decide +kernel
theorem d1_5 : decode jdk_42_method_66_code 5 = .ok (.iconst 1, 1) := by decide +kernel
theorem d1_6 : decode jdk_42_method_66_code 6 = .ok (.ireturn, 1) := by decide +kernel
theorem pn1 : plainName "java/lang/String" = true := by first | (simp [plainName, overriddenIn]; done) | decide +kernel
theorem d2_0 : decode jdk_42_method_154_code 0 = .ok (.getstatic 38, 3) := by decide +kernel
theorem d2_3 : decode jdk_42_method_154_code 3 = .ok (.ifCond .eq 14, 3) := by decide +kernel
theorem d2_6 : decode jdk_42_method_154_code 6 = .ok (.aload_n 0, 1) := by decide +kernel
theorem d2_7 : decode jdk_42_method_154_code 7 = .ok (.getfield 15, 3) := by decide +kernel
theorem d2_10 : decode jdk_42_method_154_code 10 = .ok (.ifCond .ne 7, 3) := by decide +kernel
theorem d2_13 : decode jdk_42_method_154_code 13 = .ok (.iconst 1, 1) := by decide +kernel
theorem d2_14 : decode jdk_42_method_154_code 14 = .ok (.goto 4, 3) := by decide +kernel
theorem d2_18 : decode jdk_42_method_154_code 18 = .ok (.ireturn, 1) := by decide +kernel
theorem d3_0 : decode jdk_43_method_3_code 0 = .ok (.iload_n 0, 1) := by decide +kernel
theorem d3_1 : decode jdk_43_method_3_code 1 = .ok (.sipush 255, 3) := by decide +kernel
theorem d3_4 : decode jdk_43_method_3_code 4 = .ok (.if_icmp .gt 7, 3) := by decide +kernel
theorem d3_7 : decode jdk_43_method_3_code 7 = .ok (.iconst 1, 1) := by decide +kernel
theorem d3_8 : decode jdk_43_method_3_code 8 = .ok (.goto 4, 3) := by decide +kernel
theorem d3_12 : decode jdk_43_method_3_code 12 = .ok (.ireturn, 1) := by decide +kernel
theorem pn2 : plainName "java/lang/StringLatin1" = true := by first | (simp [plainName, overriddenIn]; done) | decide +kernel
theorem d4_0 : decode jdk_43_method_46_code 0 = .ok (.iconst 1, 1) := by decide +kernel
theorem d4_1 : decode jdk_43_method_46_code 1 = .ok (.newarray .byte, 2) := by decide +kernel
theorem d4_3 : decode jdk_43_method_46_code 3 = .ok (.dup, 1) := by decide +kernel
theorem d4_4 : decode jdk_43_method_46_code 4 = .ok (.iconst 0, 1) := by decide +kernel
theorem d4_5 : decode jdk_43_method_46_code 5 = .ok (.iload_n 0, 1) := by decide +kernel
theorem d4_6 : decode jdk_43_method_46_code 6 = .ok (.i2b, 1) := by decide +kernel
theorem d4_7 : decode jdk_43_method_46_code 7 = .ok (.bastore, 1) := by decide +kernel
theorem d4_8 : decode jdk_43_method_46_code 8 = .ok (.areturn, 1) := by decide +kernel
theorem d5_0 : decode jdk_42_method_151_code 0 = .ok (.aload_n 0, 1) := by decide +kernel
theorem d5_1 : decode jdk_42_method_151_code 1 = .ok (.invokespecial 1, 3) := by decide +kernel
theorem d5_4 : decode jdk_42_method_151_code 4 = .ok (.aload_n 0, 1) := by decide +kernel
theorem d5_5 : decode jdk_42_method_151_code 5 = .ok (.aload_n 1, 1) := by decide +kernel
theorem d5_6 : decode jdk_42_method_151_code 6 = .ok (.putfield 9, 3) := by decide +kernel
theorem d5_9 : decode jdk_42_method_151_code 9 = .ok (.aload_n 0, 1) := by decide +kernel
theorem d5_10 : decode jdk_42_method_151_code 10 = .ok (.iload_n 2, 1) := by decide +kernel
theorem d5_11 : decode jdk_42_method_151_code 11 = .ok (.putfield 15, 3) := by decide +kernel
theorem d5_14 : decode jdk_42_method_151_code 14 = .ok (.return_, 1) := by decide +kernel
theorem d6_0 : decode jdk_42_method_139_code 0 = .ok (.getstatic 38, 3) := by decide +kernel
theorem d6_3 : decode jdk_42_method_139_code 3 = .ok (.ifCond .eq 23, 3) := by decide +kernel
theorem d6_6 : decode jdk_42_method_139_code 6 = .ok (.iload_n 0, 1) := by decide +kernel
theorem pd1 : parseMethodDescriptor "(C)Z" = some ⟨[.char], some .boolean⟩ := by decide +kernel
theorem d6_7 : decode jdk_42_method_139_code 7 = .ok (.invokestatic 1015, 3) := by decide +kernel
theorem d6_10 : decode jdk_42_method_139_code 10 = .ok (.ifCond .eq 16, 3) := by decide +kernel
theorem d6_13 : decode jdk_42_method_139_code 13 = .ok (.new 10, 3) := by decide +kernel
theorem d6_16 : decode jdk_42_method_139_code 16 = .ok (.dup, 1) := by decide +kernel
theorem d6_17 : decode jdk_42_method_139_code 17 = .ok (.iload_n 0, 1) := by decide +kernel
theorem pd2 : parseMethodDescriptor "(C)[B" = some ⟨[.char], some (.array .byte)⟩ := by decide +kernel
theorem d6_18 : decode jdk_42_method_139_code 18 = .ok (.invokestatic 1018, 3) := by decide +kernel
theorem d6_21 : decode jdk_42_method_139_code 21 = .ok (.iconst 0, 1) := by decide +kernel
theorem pd3 : parseMethodDescriptor "([BB)V" = some ⟨[(.array .byte), .byte], none⟩ := by decide +kernel
theorem d6_22 : decode jdk_42_method_139_code 22 = .ok (.invokespecial 209, 3) := by decide +kernel
theorem d6_25 : decode jdk_42_method_139_code 25 = .ok (.areturn, 1) := by decide +kernel
theorem d7_0 : decode jdk_43_method_4_code 0 = .ok (.iload_n 0, 1) := by decide +kernel
theorem d7_1 : decode jdk_43_method_4_code 1 = .ok (.ifCond .lt 14, 3) := by decide +kernel
theorem d7_4 : decode jdk_43_method_4_code 4 = .ok (.iload_n 0, 1) := by decide +kernel
theorem d7_5 : decode jdk_43_method_4_code 5 = .ok (.sipush 255, 3) := by decide +kernel
theorem d7_8 : decode jdk_43_method_4_code 8 = .ok (.if_icmp .gt 7, 3) := by decide +kernel
theorem d7_11 : decode jdk_43_method_4_code 11 = .ok (.iconst 1, 1) := by decide +kernel
theorem d7_12 : decode jdk_43_method_4_code 12 = .ok (.goto 4, 3) := by decide +kernel
theorem d7_16 : decode jdk_43_method_4_code 16 = .ok (.ireturn, 1) := by decide +kernel
theorem d8_0 : decode jdk_41_method_12_code 0 = .ok (.iload_n 0, 1) := by decide +kernel
theorem d8_1 : decode jdk_41_method_12_code 1 = .ok (.ifCond .lt 13, 3) := by decide +kernel
theorem d8_4 : decode jdk_41_method_12_code 4 = .ok (.iload_n 0, 1) := by decide +kernel
theorem d8_5 : decode jdk_41_method_12_code 5 = .ok (.iload_n 1, 1) := by decide +kernel
theorem d8_6 : decode jdk_41_method_12_code 6 = .ok (.if_icmp .gt 8, 3) := by decide +kernel
theorem d8_9 : decode jdk_41_method_12_code 9 = .ok (.iload_n 1, 1) := by decide +kernel
theorem d8_10 : decode jdk_41_method_12_code 10 = .ok (.iload_n 2, 1) := by decide +kernel
theorem d8_11 : decode jdk_41_method_12_code 11 = .ok (.if_icmp .le 11, 3) := by decide +kernel
theorem d8_22 : decode jdk_41_method_12_code 22 = .ok (.iload_n 0, 1) := by decide +kernel
theorem d8_23 : decode jdk_41_method_12_code 23 = .ok (.ireturn, 1) := by decide +kernel
theorem pn3 : plainName "jdk/internal/util/Preconditions" = true := by first | (simp [plainName, overriddenIn]; done) | decide +kernel
theorem d9_0 : decode jdk_42_method_158_code 0 = .ok (.iload_n 0, 1) := by decide +kernel
theorem d9_1 : decode jdk_42_method_158_code 1 = .ok (.iload_n 1, 1) := by decide +kernel
theorem d9_2 : decode jdk_42_method_158_code 2 = .ok (.iload_n 2, 1) := by decide +kernel
theorem d9_3 : decode jdk_42_method_158_code 3 = .ok (.getstatic 1053, 3) := by decide +kernel
theorem pd4 : parseMethodDescriptor "(IIILjava/util/function/BiFunction;)I" = some ⟨[.int, .int, .int, (.object "java/util/function/BiFunction")], some .int⟩ := by decide +kernel
theorem d9_6 : decode jdk_42_method_158_code 6 = .ok (.invokestatic 1062, 3) := by decide +kernel
theorem d9_9 : decode jdk_42_method_158_code 9 = .ok (.pop, 1) := by decide +kernel
theorem d9_10 : decode jdk_42_method_158_code 10 = .ok (.return_, 1) := by decide +kernel
theorem d10_0 : decode jdk_65_method_131_code 0 = .ok (.iload_n 1, 1) := by decide +kernel
theorem d10_1 : decode jdk_65_method_131_code 1 = .ok (.iload_n 0, 1) := by decide +kernel
theorem d10_2 : decode jdk_65_method_131_code 2 = .ok (.if_icmp .ge 35, 3) := by decide +kernel
theorem d10_37 : decode jdk_65_method_131_code 37 = .ok (.return_, 1) := by decide +kernel
theorem pn4 : plainName "java/util/Arrays" = true := by first | (simp [plainName, overriddenIn]; done) | decide +kernel
theorem d11_0 : decode jdk_31_method_10_code 0 = .ok (.aload_n 0, 1) := by decide +kernel
theorem d11_1 : decode jdk_31_method_10_code 1 = .ok (.ifnonnull 11, 3) := by decide +kernel
theorem d11_12 : decode jdk_31_method_10_code 12 = .ok (.aload_n 0, 1) := by decide +kernel
theorem d11_13 : decode jdk_31_method_10_code 13 = .ok (.areturn, 1) := by decide +kernel
theorem pn5 : plainName "java/util/Objects" = true := by first | (simp [plainName, overriddenIn]; done) | decide +kernel
theorem d12_0 : decode method_2_code 0 = .ok (.iload_n 0, 1) := by decide +kernel
theorem d12_1 : decode method_2_code 1 = .ok (.sipush 768, 3) := by decide +kernel
theorem d12_4 : decode method_2_code 4 = .ok (.iand, 1) := by decide +kernel
theorem d12_5 : decode method_2_code 5 = .ok (.ifCond .ne 6, 3) := by decide +kernel
theorem d12_8 : decode method_2_code 8 = .ok (.bipush 46, 2) := by decide +kernel
theorem d12_10 : decode method_2_code 10 = .ok (.ireturn, 1) := by decide +kernel
theorem d12_11 : decode method_2_code 11 = .ok (.iload_n 0, 1) := by decide +kernel
theorem d12_12 : decode method_2_code 12 = .ok (.sipush 255, 3) := by decide +kernel
theorem d12_15 : decode method_2_code 15 = .ok (.iand, 1) := by decide +kernel
theorem d12_16 : decode method_2_code 16 = .ok (.i2c, 1) := by decide +kernel
theorem d12_17 : decode method_2_code 17 = .ok (.ireturn, 1) := by decide +kernel
theorem pn6 : plainName "com/example/commit_feed/commitfeed/config/SqlNamesSchemaPinLaw" = true := by first | (simp [plainName, overriddenIn]; done) | decide +kernel
theorem d13_0 : decode jdk_32_method_2_code 0 = .ok (.aload_n 0, 1) := by decide +kernel
theorem d13_1 : decode jdk_32_method_2_code 1 = .ok (.invokespecial 7, 3) := by decide +kernel
theorem d13_4 : decode jdk_32_method_2_code 4 = .ok (.aload_n 0, 1) := by decide +kernel
theorem d13_5 : decode jdk_32_method_2_code 5 = .ok (.aload_n 1, 1) := by decide +kernel
theorem d13_6 : decode jdk_32_method_2_code 6 = .ok (.putfield 13, 3) := by decide +kernel
theorem d13_9 : decode jdk_32_method_2_code 9 = .ok (.return_, 1) := by decide +kernel
theorem pn7 : plainName "java/util/Optional" = true := by first | (simp [plainName, overriddenIn]; done) | decide +kernel
theorem d14_0 : decode jdk_32_method_3_code 0 = .ok (.new 2, 3) := by decide +kernel
theorem d14_3 : decode jdk_32_method_3_code 3 = .ok (.dup, 1) := by decide +kernel
theorem d14_4 : decode jdk_32_method_3_code 4 = .ok (.aload_n 0, 1) := by decide +kernel
theorem pd5 : parseMethodDescriptor "(Ljava/lang/Object;)Ljava/lang/Object;" = some ⟨[(.object "java/lang/Object")], some (.object "java/lang/Object")⟩ := by decide +kernel
theorem d14_5 : decode jdk_32_method_3_code 5 = .ok (.invokestatic 17, 3) := by decide +kernel
theorem pd6 : parseMethodDescriptor "(Ljava/lang/Object;)V" = some ⟨[(.object "java/lang/Object")], none⟩ := by decide +kernel
theorem d14_8 : decode jdk_32_method_3_code 8 = .ok (.invokespecial 23, 3) := by decide +kernel
theorem d14_11 : decode jdk_32_method_3_code 11 = .ok (.areturn, 1) := by decide +kernel
theorem d15_0 : decode jdk_32_method_1_code 0 = .ok (.getstatic 1, 3) := by decide +kernel
theorem d15_3 : decode jdk_32_method_1_code 3 = .ok (.astore_n 0, 1) := by decide +kernel
theorem d15_4 : decode jdk_32_method_1_code 4 = .ok (.aload_n 0, 1) := by decide +kernel
theorem d15_5 : decode jdk_32_method_1_code 5 = .ok (.areturn, 1) := by decide +kernel
theorem d16_0 : decode jdk_32_method_6_code 0 = .ok (.aload_n 0, 1) := by decide +kernel
theorem d16_1 : decode jdk_32_method_6_code 1 = .ok (.getfield 13, 3) := by decide +kernel
theorem d16_4 : decode jdk_32_method_6_code 4 = .ok (.ifnull 7, 3) := by decide +kernel
theorem d16_11 : decode jdk_32_method_6_code 11 = .ok (.iconst 0, 1) := by decide +kernel
theorem d16_12 : decode jdk_32_method_6_code 12 = .ok (.ireturn, 1) := by decide +kernel
theorem d16_7 : decode jdk_32_method_6_code 7 = .ok (.iconst 1, 1) := by decide +kernel
theorem d16_8 : decode jdk_32_method_6_code 8 = .ok (.goto 4, 3) := by decide +kernel
theorem d17_0 : decode jdk_32_method_5_code 0 = .ok (.aload_n 0, 1) := by decide +kernel
theorem d17_1 : decode jdk_32_method_5_code 1 = .ok (.getfield 13, 3) := by decide +kernel
theorem d17_4 : decode jdk_32_method_5_code 4 = .ok (.ifnonnull 13, 3) := by decide +kernel
theorem d17_17 : decode jdk_32_method_5_code 17 = .ok (.aload_n 0, 1) := by decide +kernel
theorem d17_18 : decode jdk_32_method_5_code 18 = .ok (.getfield 13, 3) := by decide +kernel
theorem d17_21 : decode jdk_32_method_5_code 21 = .ok (.areturn, 1) := by decide +kernel
theorem pd7 : parseMethodDescriptor "(I)C" = some ⟨[.int], some .char⟩ := by decide +kernel
theorem pd8 : parseMethodDescriptor "([C)V" = some ⟨[(.array .char)], none⟩ := by decide +kernel
theorem d18_0 : decode prog_9_method_3_code 0 = .ok (.aload_n 0, 1) := by decide +kernel
theorem d18_1 : decode prog_9_method_3_code 1 = .ok (.bipush 46, 2) := by decide +kernel
theorem d19_0 : decode jdk_42_method_79_code 0 = .ok (.aload_n 0, 1) := by decide +kernel
theorem d19_1 : decode jdk_42_method_79_code 1 = .ok (.iload_n 1, 1) := by decide +kernel
theorem d19_2 : decode jdk_42_method_79_code 2 = .ok (.iconst 0, 1) := by decide +kernel
theorem d20_0 : decode jdk_42_method_80_code 0 = .ok (.aload_n 0, 1) := by decide +kernel
theorem pd9 : parseMethodDescriptor "()Z" = some ⟨[], some .boolean⟩ := by decide +kernel
theorem d20_1 : decode jdk_42_method_80_code 1 = .ok (.invokevirtual 492, 3) := by decide +kernel
theorem d20_4 : decode jdk_42_method_80_code 4 = .ok (.ifCond .eq 19, 3) := by decide +kernel
theorem d20_7 : decode jdk_42_method_80_code 7 = .ok (.aload_n 0, 1) := by decide +kernel
theorem d20_8 : decode jdk_42_method_80_code 8 = .ok (.getfield 9, 3) := by decide +kernel
theorem d20_11 : decode jdk_42_method_80_code 11 = .ok (.iload_n 1, 1) := by decide +kernel
theorem d20_12 : decode jdk_42_method_80_code 12 = .ok (.iload_n 2, 1) := by decide +kernel
theorem d20_13 : decode jdk_42_method_80_code 13 = .ok (.aload_n 0, 1) := by decide +kernel
theorem pd10 : parseMethodDescriptor "()I" = some ⟨[], some .int⟩ := by decide +kernel
theorem d20_14 : decode jdk_42_method_80_code 14 = .ok (.invokevirtual 505, 3) := by decide +kernel
theorem d21_0 : decode jdk_43_method_22_code 0 = .ok (.iload_n 1, 1) := by decide +kernel
theorem pd11 : parseMethodDescriptor "(I)Z" = some ⟨[.int], some .boolean⟩ := by decide +kernel
theorem d21_1 : decode jdk_43_method_22_code 1 = .ok (.invokestatic 88, 3) := by decide +kernel
theorem d21_4 : decode jdk_43_method_22_code 4 = .ok (.ifCond .ne 5, 3) := by decide +kernel
theorem d21_9 : decode jdk_43_method_22_code 9 = .ok (.iload_n 2, 1) := by decide +kernel
theorem d21_10 : decode jdk_43_method_22_code 10 = .ok (.iconst 0, 1) := by decide +kernel
theorem d22_0 : decode jdk_29_method_65_code 0 = .ok (.iload_n 0, 1) := by decide +kernel
theorem d22_1 : decode jdk_29_method_65_code 1 = .ok (.iload_n 1, 1) := by decide +kernel
theorem d22_2 : decode jdk_29_method_65_code 2 = .ok (.if_icmp .lt 7, 3) := by decide +kernel
theorem d22_5 : decode jdk_29_method_65_code 5 = .ok (.iload_n 0, 1) := by decide +kernel
theorem d22_6 : decode jdk_29_method_65_code 6 = .ok (.goto 4, 3) := by decide +kernel
theorem d22_10 : decode jdk_29_method_65_code 10 = .ok (.ireturn, 1) := by decide +kernel
theorem pd12 : parseMethodDescriptor "(II)I" = some ⟨[.int, .int], some .int⟩ := by decide +kernel
theorem d21_11 : decode jdk_43_method_22_code 11 = .ok (.invokestatic 92, 3) := by decide +kernel
theorem d21_14 : decode jdk_43_method_22_code 14 = .ok (.istore_n 2, 1) := by decide +kernel
theorem d21_15 : decode jdk_43_method_22_code 15 = .ok (.iload_n 3, 1) := by decide +kernel
theorem d21_16 : decode jdk_43_method_22_code 16 = .ok (.aload_n 0, 1) := by decide +kernel
theorem d21_17 : decode jdk_43_method_22_code 17 = .ok (.arraylength, 1) := by decide +kernel
theorem d23_0 : decode jdk_29_method_69_code 0 = .ok (.iload_n 0, 1) := by decide +kernel
theorem d23_1 : decode jdk_29_method_69_code 1 = .ok (.iload_n 1, 1) := by decide +kernel
theorem d23_2 : decode jdk_29_method_69_code 2 = .ok (.if_icmp .gt 7, 3) := by decide +kernel
theorem d23_5 : decode jdk_29_method_69_code 5 = .ok (.iload_n 0, 1) := by decide +kernel
theorem d23_6 : decode jdk_29_method_69_code 6 = .ok (.goto 4, 3) := by decide +kernel
theorem d23_10 : decode jdk_29_method_69_code 10 = .ok (.ireturn, 1) := by decide +kernel
theorem d21_18 : decode jdk_43_method_22_code 18 = .ok (.invokestatic 38, 3) := by decide +kernel
theorem d21_21 : decode jdk_43_method_22_code 21 = .ok (.istore_n 3, 1) := by decide +kernel
theorem d21_22 : decode jdk_43_method_22_code 22 = .ok (.iload_n 2, 1) := by decide +kernel
theorem d21_23 : decode jdk_43_method_22_code 23 = .ok (.iload_n 3, 1) := by decide +kernel
theorem d21_24 : decode jdk_43_method_22_code 24 = .ok (.if_icmp .lt 5, 3) := by decide +kernel
theorem d21_27 : decode jdk_43_method_22_code 27 = .ok (.iconst (-1), 1) := by decide +kernel
theorem d21_28 : decode jdk_43_method_22_code 28 = .ok (.ireturn, 1) := by decide +kernel
theorem pd13 : parseMethodDescriptor "([BIII)I" = some ⟨[(.array .byte), .int, .int, .int], some .int⟩ := by decide +kernel
theorem d20_17 : decode jdk_42_method_80_code 17 = .ok (.invokestatic 637, 3) := by decide +kernel
theorem d20_20 : decode jdk_42_method_80_code 20 = .ok (.goto 16, 3) := by decide +kernel
theorem d20_36 : decode jdk_42_method_80_code 36 = .ok (.ireturn, 1) := by decide +kernel
theorem d19_3 : decode jdk_42_method_79_code 3 = .ok (.invokevirtual 633, 3) := by decide +kernel
theorem d19_6 : decode jdk_42_method_79_code 6 = .ok (.ireturn, 1) := by decide +kernel
theorem pd14 : parseMethodDescriptor "(I)I" = some ⟨[.int], some .int⟩ := by decide +kernel
theorem d18_3 : decode prog_9_method_3_code 3 = .ok (.invokevirtual 45, 3) := by decide +kernel
theorem d18_6 : decode prog_9_method_3_code 6 = .ok (.istore_n 1, 1) := by decide +kernel
theorem d18_7 : decode prog_9_method_3_code 7 = .ok (.iload_n 1, 1) := by decide +kernel
theorem d18_8 : decode prog_9_method_3_code 8 = .ok (.ifCond .ge 9, 3) := by decide +kernel
theorem pd15 : parseMethodDescriptor "()Ljava/util/Optional;" = some ⟨[], some (.object "java/util/Optional")⟩ := by decide +kernel
theorem d18_11 : decode prog_9_method_3_code 11 = .ok (.invokestatic 49, 3) := by decide +kernel
theorem d18_14 : decode prog_9_method_3_code 14 = .ok (.goto 12, 3) := by decide +kernel
theorem d18_26 : decode prog_9_method_3_code 26 = .ok (.areturn, 1) := by decide +kernel
theorem pn8 : plainName "com/example/commit_feed/commitfeed/config/SqlNames" = true := by first | (simp [plainName, overriddenIn]; done) | decide +kernel
theorem pd16 : parseMethodDescriptor "(Ljava/lang/String;)Ljava/util/Optional;" = some ⟨[(.object "java/lang/String")], some (.object "java/util/Optional")⟩ := by decide +kernel
theorem pd17 : parseMethodDescriptor "(C)Ljava/lang/String;" = some ⟨[.char], some (.object "java/lang/String")⟩ := by decide +kernel
theorem d21_29 : decode jdk_43_method_22_code 29 = .ok (.aload_n 0, 1) := by decide +kernel
theorem d21_30 : decode jdk_43_method_22_code 30 = .ok (.iload_n 1, 1) := by decide +kernel
theorem d21_31 : decode jdk_43_method_22_code 31 = .ok (.iload_n 2, 1) := by decide +kernel
theorem d21_32 : decode jdk_43_method_22_code 32 = .ok (.iload_n 3, 1) := by decide +kernel
theorem d24_0 : decode jdk_43_method_23_code 0 = .ok (.iload_n 1, 1) := by decide +kernel
theorem d24_1 : decode jdk_43_method_23_code 1 = .ok (.i2b, 1) := by decide +kernel
theorem d24_2 : decode jdk_43_method_23_code 2 = .ok (.istore 4, 2) := by decide +kernel
theorem d24_4 : decode jdk_43_method_23_code 4 = .ok (.iload_n 2, 1) := by decide +kernel
theorem d24_5 : decode jdk_43_method_23_code 5 = .ok (.istore 5, 2) := by decide +kernel
theorem d24_7 : decode jdk_43_method_23_code 7 = .ok (.iload 5, 2) := by decide +kernel
theorem d24_9 : decode jdk_43_method_23_code 9 = .ok (.iload_n 3, 1) := by decide +kernel
theorem d24_10 : decode jdk_43_method_23_code 10 = .ok (.if_icmp .ge 21, 3) := by decide +kernel
theorem d24_13 : decode jdk_43_method_23_code 13 = .ok (.aload_n 0, 1) := by decide +kernel
theorem d24_14 : decode jdk_43_method_23_code 14 = .ok (.iload 5, 2) := by decide +kernel
theorem d24_16 : decode jdk_43_method_23_code 16 = .ok (.baload, 1) := by decide +kernel
theorem d24_17 : decode jdk_43_method_23_code 17 = .ok (.iload 4, 2) := by decide +kernel
theorem d24_19 : decode jdk_43_method_23_code 19 = .ok (.if_icmp .ne 6, 3) := by decide +kernel
theorem d24_22 : decode jdk_43_method_23_code 22 = .ok (.iload 5, 2) := by decide +kernel
theorem d24_24 : decode jdk_43_method_23_code 24 = .ok (.ireturn, 1) := by decide +kernel
theorem d24_25 : decode jdk_43_method_23_code 25 = .ok (.iinc 5 1, 3) := by decide +kernel
theorem d24_28 : decode jdk_43_method_23_code 28 = .ok (.goto (-21), 3) := by decide +kernel
theorem d24_31 : decode jdk_43_method_23_code 31 = .ok (.iconst (-1), 1) := by decide +kernel
theorem d24_32 : decode jdk_43_method_23_code 32 = .ok (.ireturn, 1) := by decide +kernel
theorem d21_33 : decode jdk_43_method_22_code 33 = .ok (.invokestatic 95, 3) := by decide +kernel
theorem d21_36 : decode jdk_43_method_22_code 36 = .ok (.ireturn, 1) := by decide +kernel
theorem d18_17 : decode prog_9_method_3_code 17 = .ok (.aload_n 0, 1) := by decide +kernel
theorem d18_18 : decode prog_9_method_3_code 18 = .ok (.iconst 0, 1) := by decide +kernel
theorem d18_19 : decode prog_9_method_3_code 19 = .ok (.iload_n 1, 1) := by decide +kernel
theorem d25_0 : decode jdk_42_method_92_code 0 = .ok (.aload_n 0, 1) := by decide +kernel
theorem d25_1 : decode jdk_42_method_92_code 1 = .ok (.invokevirtual 505, 3) := by decide +kernel
theorem d25_4 : decode jdk_42_method_92_code 4 = .ok (.istore_n 3, 1) := by decide +kernel
theorem d25_5 : decode jdk_42_method_92_code 5 = .ok (.iload_n 1, 1) := by decide +kernel
theorem d25_6 : decode jdk_42_method_92_code 6 = .ok (.iload_n 2, 1) := by decide +kernel
theorem d25_7 : decode jdk_42_method_92_code 7 = .ok (.iload_n 3, 1) := by decide +kernel
theorem pd18 : parseMethodDescriptor "(III)V" = some ⟨[.int, .int, .int], none⟩ := by decide +kernel
theorem d25_8 : decode jdk_42_method_92_code 8 = .ok (.invokestatic 521, 3) := by decide +kernel
theorem d25_11 : decode jdk_42_method_92_code 11 = .ok (.iload_n 1, 1) := by decide +kernel
theorem d25_12 : decode jdk_42_method_92_code 12 = .ok (.ifCond .ne 10, 3) := by decide +kernel
theorem d25_15 : decode jdk_42_method_92_code 15 = .ok (.iload_n 2, 1) := by decide +kernel
theorem d25_16 : decode jdk_42_method_92_code 16 = .ok (.iload_n 3, 1) := by decide +kernel
theorem d25_17 : decode jdk_42_method_92_code 17 = .ok (.if_icmp .ne 5, 3) := by decide +kernel
theorem d25_22 : decode jdk_42_method_92_code 22 = .ok (.iload_n 2, 1) := by decide +kernel
theorem d25_23 : decode jdk_42_method_92_code 23 = .ok (.iload_n 1, 1) := by decide +kernel
theorem d25_24 : decode jdk_42_method_92_code 24 = .ok (.isub, 1) := by decide +kernel
theorem d25_25 : decode jdk_42_method_92_code 25 = .ok (.istore 4, 2) := by decide +kernel
theorem d25_27 : decode jdk_42_method_92_code 27 = .ok (.aload_n 0, 1) := by decide +kernel
theorem d25_28 : decode jdk_42_method_92_code 28 = .ok (.invokevirtual 492, 3) := by decide +kernel
theorem d25_31 : decode jdk_42_method_92_code 31 = .ok (.ifCond .eq 16, 3) := by decide +kernel
theorem d25_34 : decode jdk_42_method_92_code 34 = .ok (.aload_n 0, 1) := by decide +kernel
theorem d25_35 : decode jdk_42_method_92_code 35 = .ok (.getfield 9, 3) := by decide +kernel
theorem d25_38 : decode jdk_42_method_92_code 38 = .ok (.iload_n 1, 1) := by decide +kernel
theorem d25_39 : decode jdk_42_method_92_code 39 = .ok (.iload 4, 2) := by decide +kernel
theorem d26_0 : decode jdk_43_method_47_code 0 = .ok (.iload_n 2, 1) := by decide +kernel
theorem d26_1 : decode jdk_43_method_47_code 1 = .ok (.ifCond .ne 6, 3) := by decide +kernel
theorem d26_4 : decode jdk_43_method_47_code 4 = .ok (.ldc 151, 2) := by decide +kernel
theorem d26_6 : decode jdk_43_method_47_code 6 = .ok (.areturn, 1) := by decide +kernel
theorem pd19 : parseMethodDescriptor "([BII)Ljava/lang/String;" = some ⟨[(.array .byte), .int, .int], some (.object "java/lang/String")⟩ := by decide +kernel
theorem d25_41 : decode jdk_42_method_92_code 41 = .ok (.invokestatic 685, 3) := by decide +kernel
theorem d25_44 : decode jdk_42_method_92_code 44 = .ok (.goto 13, 3) := by decide +kernel
theorem d25_57 : decode jdk_42_method_92_code 57 = .ok (.areturn, 1) := by decide +kernel
theorem pd20 : parseMethodDescriptor "(II)Ljava/lang/String;" = some ⟨[.int, .int], some (.object "java/lang/String")⟩ := by decide +kernel
theorem d18_20 : decode prog_9_method_3_code 20 = .ok (.invokevirtual 55, 3) := by decide +kernel
theorem pd21 : parseMethodDescriptor "(Ljava/lang/Object;)Ljava/util/Optional;" = some ⟨[(.object "java/lang/Object")], some (.object "java/util/Optional")⟩ := by decide +kernel
theorem d18_23 : decode prog_9_method_3_code 23 = .ok (.invokestatic 59, 3) := by decide +kernel
theorem pd22 : parseMethodDescriptor "()Ljava/lang/Object;" = some ⟨[], some (.object "java/lang/Object")⟩ := by decide +kernel
theorem pd23 : parseMethodDescriptor "(Ljava/lang/Object;)Z" = some ⟨[(.object "java/lang/Object")], some .boolean⟩ := by decide +kernel
theorem d26_7 : decode jdk_43_method_47_code 7 = .ok (.new 1, 3) := by decide +kernel
theorem d26_10 : decode jdk_43_method_47_code 10 = .ok (.dup, 1) := by decide +kernel
theorem d26_11 : decode jdk_43_method_47_code 11 = .ok (.aload_n 0, 1) := by decide +kernel
theorem d26_12 : decode jdk_43_method_47_code 12 = .ok (.iload_n 1, 1) := by decide +kernel
theorem d26_13 : decode jdk_43_method_47_code 13 = .ok (.iload_n 1, 1) := by decide +kernel
theorem d26_14 : decode jdk_43_method_47_code 14 = .ok (.iload_n 2, 1) := by decide +kernel
theorem d26_15 : decode jdk_43_method_47_code 15 = .ok (.iadd, 1) := by decide +kernel
theorem d27_0 : decode jdk_65_method_132_code 0 = .ok (.iload_n 1, 1) := by decide +kernel
theorem d27_1 : decode jdk_65_method_132_code 1 = .ok (.ifCond .ne 9, 3) := by decide +kernel
theorem d27_4 : decode jdk_65_method_132_code 4 = .ok (.iload_n 2, 1) := by decide +kernel
theorem d27_5 : decode jdk_65_method_132_code 5 = .ok (.aload_n 0, 1) := by decide +kernel
theorem d27_6 : decode jdk_65_method_132_code 6 = .ok (.arraylength, 1) := by decide +kernel
theorem d27_7 : decode jdk_65_method_132_code 7 = .ok (.if_icmp .eq 10, 3) := by decide +kernel
theorem d27_10 : decode jdk_65_method_132_code 10 = .ok (.aload_n 0, 1) := by decide +kernel
theorem d27_11 : decode jdk_65_method_132_code 11 = .ok (.iload_n 1, 1) := by decide +kernel
theorem d27_12 : decode jdk_65_method_132_code 12 = .ok (.iload_n 2, 1) := by decide +kernel
theorem d28_0 : decode jdk_65_method_133_code 0 = .ok (.iload_n 1, 1) := by decide +kernel
theorem d28_1 : decode jdk_65_method_133_code 1 = .ok (.iload_n 2, 1) := by decide +kernel
theorem pd24 : parseMethodDescriptor "(II)V" = some ⟨[.int, .int], none⟩ := by decide +kernel
theorem d28_2 : decode jdk_65_method_133_code 2 = .ok (.invokestatic 343, 3) := by decide +kernel
theorem d28_5 : decode jdk_65_method_133_code 5 = .ok (.iload_n 2, 1) := by decide +kernel
theorem d28_6 : decode jdk_65_method_133_code 6 = .ok (.iload_n 1, 1) := by decide +kernel
theorem d28_7 : decode jdk_65_method_133_code 7 = .ok (.isub, 1) := by decide +kernel
theorem d28_8 : decode jdk_65_method_133_code 8 = .ok (.istore_n 3, 1) := by decide +kernel
theorem d28_9 : decode jdk_65_method_133_code 9 = .ok (.iload_n 3, 1) := by decide +kernel
theorem d28_10 : decode jdk_65_method_133_code 10 = .ok (.newarray .byte, 2) := by decide +kernel
theorem d28_12 : decode jdk_65_method_133_code 12 = .ok (.astore 4, 2) := by decide +kernel
theorem d28_14 : decode jdk_65_method_133_code 14 = .ok (.aload_n 0, 1) := by decide +kernel
theorem d28_15 : decode jdk_65_method_133_code 15 = .ok (.iload_n 1, 1) := by decide +kernel
theorem d28_16 : decode jdk_65_method_133_code 16 = .ok (.aload 4, 2) := by decide +kernel
theorem d28_18 : decode jdk_65_method_133_code 18 = .ok (.iconst 0, 1) := by decide +kernel
theorem d28_19 : decode jdk_65_method_133_code 19 = .ok (.aload_n 0, 1) := by decide +kernel
theorem d28_20 : decode jdk_65_method_133_code 20 = .ok (.arraylength, 1) := by decide +kernel
theorem d28_21 : decode jdk_65_method_133_code 21 = .ok (.iload_n 1, 1) := by decide +kernel
theorem d28_22 : decode jdk_65_method_133_code 22 = .ok (.isub, 1) := by decide +kernel
theorem d28_23 : decode jdk_65_method_133_code 23 = .ok (.iload_n 3, 1) := by decide +kernel
theorem d23_9 : decode jdk_29_method_69_code 9 = .ok (.iload_n 1, 1) := by decide +kernel
theorem d28_24 : decode jdk_65_method_133_code 24 = .ok (.invokestatic 304, 3) := by decide +kernel
theorem d28_27 : decode jdk_65_method_133_code 27 = .ok (.invokestatic 150, 3) := by decide +kernel
theorem d28_30 : decode jdk_65_method_133_code 30 = .ok (.aload 4, 2) := by decide +kernel
theorem d28_32 : decode jdk_65_method_133_code 32 = .ok (.areturn, 1) := by decide +kernel
theorem pd25 : parseMethodDescriptor "([BII)[B" = some ⟨[(.array .byte), .int, .int], some (.array .byte)⟩ := by decide +kernel
theorem d27_13 : decode jdk_65_method_132_code 13 = .ok (.invokestatic 339, 3) := by decide +kernel
theorem d27_16 : decode jdk_65_method_132_code 16 = .ok (.areturn, 1) := by decide +kernel
theorem d26_16 : decode jdk_43_method_47_code 16 = .ok (.invokestatic 232, 3) := by decide +kernel
theorem d26_19 : decode jdk_43_method_47_code 19 = .ok (.iconst 0, 1) := by decide +kernel
theorem d26_20 : decode jdk_43_method_47_code 20 = .ok (.invokespecial 112, 3) := by decide +kernel
theorem d26_23 : decode jdk_43_method_47_code 23 = .ok (.areturn, 1) := by decide +kernel
section CT
variable (l : Launch) {Z : State} {a0 : Array Value}
theorem ef1 (m : MethodId) (v0 v1 : Addr) : entryFrame m #[(.ref v0), (.ref v1)] 3 = mkF m 0 #[.val (.ref v0), .val (.ref v1), .unset] [] := by first | (simp [entryFrame, mkF, argsToLocals, Value.category]; done) | rfl
def Q_eqsame (Z : State) (a : Addr) (h0 : Heap) (xv : Value) (h : Heap) : Prop := (.int 1) = xv ∧ h0 = h
theorem c_eqsame (G : GH Z a0) (a : Addr)  (h0 : Heap) (O0 : Old Z Z.heap.size h0)  : Con false [] l Z (⟨"java/lang/String", "equals", "(Ljava/lang/Object;)Z"⟩ : MethodName) jdk_42_method_66_code 3 (some .boolean) [] (rm4 0 0 0 0) #[(.ref a), (.ref a)] h0 [] (rvl (Q_eqsame Z a h0)) := by
  refine conN G (plainFor_of_name pn1) O0 (fun m => ef1 m a a) ?_
  intro _ _ _ m_ _ _ _ D hml hret hlk hnm
  refine go_aload_n 1 (D d1_0) rfl rfl rfl ?_
  refine go_aload_n 2 (D d1_1) rfl rfl rfl ?_
  refine go_acF 5 (D d1_2) rfl rfl rfl (XT.aa_ne_f rfl) ?_
  refine go_iconst 6 (v := 1) (D d1_5) rfl rfl ?_
  refine go_ireturn hret hlk rfl (by simp) (D d1_6) (by decide) (by decide) ⟨_, rfl, ⟨rfl, rfl⟩⟩ (Keep.refl h0 [])
theorem ef2 (m : MethodId) (v0 : Addr) : entryFrame m #[(.ref v0)] 1 = mkF m 0 #[.val (.ref v0)] [] := by first | (simp [entryFrame, mkF, argsToLocals, Value.category]; done) | rfl
def Q_islatin (Z : State) (a : Addr) (h0 : Heap) (xv : Value) (h : Heap) : Prop := (.int 1) = xv ∧ h0 = h
theorem c_islatin (G : GH Z a0) (a : Addr)  (h0 : Heap) (O0 : Old Z Z.heap.size h0) (p1 : Fld Z h0 a "java/lang/String" "coder" "B" (.int 0)) : Con false [] l Z (⟨"java/lang/String", "isLatin1", "()Z"⟩ : MethodName) jdk_42_method_154_code 1 (some .boolean) [] (rm4 0 0 0 0) #[(.ref a)] h0 [] (rvl (Q_islatin Z a h0)) := by
  refine conN G (plainFor_of_name pn1) O0 (fun m => ef2 m a) ?_
  intro _ _ _ m_ _ _ _ D hml hret hlk hnm
  obtain ⟨z1, s2, q3⟩ := cs_of G
  refine go_getS 3 (wk G 24) (s2.ext O0.2) (D d2_0) rfl ?_
  refine go_ifF 6 (D d2_3) rfl (XT.i0_eq_f q3) ?_
  refine go_aload_n 7 (D d2_6) rfl rfl rfl ?_
  refine go_getF 10 (wk G 35) Via.refl p1 (D d2_7) rfl ?_
  refine go_ifF 13 (D d2_10) rfl (by decide) ?_
  refine go_iconst 14 (v := 1) (D d2_13) rfl rfl ?_
  refine go_goto 18 (D d2_14) (by decide) rfl ?_
  refine go_ireturn hret hlk rfl (by simp) (D d2_18) (by decide) (by decide) ⟨_, rfl, ⟨rfl, rfl⟩⟩ (Keep.refl h0 [])
theorem ef3 (m : MethodId) (v0 : Int32) : entryFrame m #[(.int v0)] 1 = mkF m 0 #[.val (.int v0)] [] := by first | (simp [entryFrame, mkF, argsToLocals, Value.category]; done) | rfl
def Q_canenc (Z : State) (c : Int32) (h0 : Heap) (xv : Value) (h : Heap) : Prop := (.int 1) = xv ∧ h0 = h
theorem c_canenc (G : GH Z a0) (c : Int32)  (h0 : Heap) (O0 : Old Z Z.heap.size h0) (p1 : C8 c) : Con false [] l Z (⟨"java/lang/StringLatin1", "canEncode", "(C)Z"⟩ : MethodName) jdk_43_method_3_code 1 (some .boolean) [] (rm4 0 0 0 0) #[(.int c)] h0 [] (rvl (Q_canenc Z c h0)) := by
  refine conN G (plainFor_of_name pn2) O0 (fun m => ef3 m c) ?_
  intro _ _ _ m_ _ _ _ D hml hret hlk hnm
  refine go_iload_n 1 (D d3_0) rfl rfl ?_
  refine go_sipush 4 (v := 255) (D d3_1) rfl rfl ?_
  refine go_icF 7 (D d3_4) rfl (XT.ii_gt_f p1.2) ?_
  refine go_iconst 8 (v := 1) (D d3_7) rfl rfl ?_
  refine go_goto 12 (D d3_8) (by decide) rfl ?_
  refine go_ireturn hret hlk rfl (by simp) (D d3_12) (by decide) (by decide) ⟨_, rfl, ⟨rfl, rfl⟩⟩ (Keep.refl h0 [])
def Q_tobytes (Z : State) (c : Int32) (h0 : Heap) (xv : Value) (h : Heap) : Prop := ∃ (r : Addr) (k : ClassId), (.ref r) = xv ∧ h0.size ≤ r ∧ Arv Z h r k (.byte) (1 : Int32) [(.int (c).toInt8.toInt32)] (.int 0)
theorem c_tobytes (G : GH Z a0) (c : Int32)  (h0 : Heap) (O0 : Old Z Z.heap.size h0)  : Con false [] l Z (⟨"java/lang/StringLatin1", "toBytes", "(C)[B"⟩ : MethodName) jdk_43_method_46_code 1 (some (.array .byte)) [] (rm4 0 1 1 0) #[(.int c)] h0 [] (rvl (Q_tobytes Z c h0)) := by
  refine conN G (plainFor_of_name pn2) O0 (fun m => ef3 m c) ?_
  intro _ _ _ m_ _ _ _ D hml hret hlk hnm
  refine go_iconst 1 (v := 1) (D d4_0) rfl rfl ?_
  refine go_newP 3 (cells' := 1) (slots' := 1) (cap := 1) (vs := [(.int 0)]) (ty := .byte) (dv := .int 0) (wk G 7) rfl rfl (D d4_1) rfl (by decide) rfl (by decide) rfl rfl rfl (by decide) (by decide) (fun h1 a2 k6 g3 X4 A5 => ?_)
  refine go_dup 4 (D d4_3) rfl rfl ?_
  refine go_iconst 5 (v := 0) (D d4_4) rfl rfl ?_
  refine go_iload_n 6 (D d4_5) rfl rfl ?_
  refine go_i2b 7 (z := (c).toInt8.toInt32) (D d4_6) rfl rfl ?_
  refine go_stB 8 (i := 0) (x' := (c).toInt8.toInt32) (vs' := [(.int (c).toInt8.toInt32)]) rfl A5 (Nat.le_trans O0.2.1 (Nat.le_of_eq g3)) (by decide) (by decide) rfl (nb rfl) (i2b_i2b _) rfl (D d4_7) rfl (fun h7 W8 A9 => ?_)
  have K10 : Keep h0 h1 [] := ((Keep.refl h0 []).ext X4)
  have K11 : Keep h0 h7 [] := (K10.wr W8 (Or.inr (Nat.le_of_eq g3)))
  refine go_areturn hret hlk rfl rfl (D d4_8) (by decide) (by decide) ⟨_, rfl, ⟨a2, k6, rfl, (Nat.le_of_eq g3), A9⟩⟩ K11
theorem ef4 (m : MethodId) (v0 v1 : Addr) (v2 : Int32) : entryFrame m #[(.ref v0), (.ref v1), (.int v2)] 3 = mkF m 0 #[.val (.ref v0), .val (.ref v1), .val (.int v2)] [] := by first | (simp [entryFrame, mkF, argsToLocals, Value.category]; done) | rfl
def Q_strbb (Z : State) (a t : Addr) (h0 : Heap) (h : Heap) : Prop := Fld Z h a "java/lang/String" "value" "[B" (.ref t) ∧ Fld Z h a "java/lang/String" "coder" "B" (.int 0)
theorem c_strbb (G : GH Z a0) (a t : Addr)  (h0 : Heap) (O0 : Old Z Z.heap.size h0) (p1 : Exa Z h0 a "java/lang/String") (p2 : Z.heap.size ≤ a) (p3 : Fld Z h0 a "java/lang/String" "value" "[B" .null) (p4 : Fld Z h0 a "java/lang/String" "coder" "B" (.int 0)) : Con false [] l Z (⟨"java/lang/String", "<init>", "([BB)V"⟩ : MethodName) jdk_42_method_151_code 3 none [] (rm4 1 0 0 12) #[(.ref a), (.ref t), (.int 0)] h0 [a] (rno (Q_strbb Z a t h0)) := by
  refine conN G (plainFor_of_name pn1) O0 (fun m => ef4 m a t (0 : Int32)) ?_
  intro _ _ _ m_ _ _ _ D hml hret hlk hnm
  refine go_aload_n 1 (D d5_0) rfl rfl rfl ?_
  refine go_initO 4 (Wd := 0) (wk G 21) (wk G 22) (wk G 23) (by rw [hml]; rfl) (by decide) (by decide) (by decide) (D d5_1) rfl ?_
  refine go_aload_n 5 (D d5_4) rfl rfl rfl ?_
  refine go_aload_n 6 (D d5_5) rfl rfl rfl ?_
  refine go_putF 9 (wk G 36) Via.refl p3 p1 (Or.inr ⟨(wk G 8), rfl, hnm⟩) (wk G 6) (ty := (.array .byte)) (v' := (.ref t)) (by decide) rfl rfl p2 (Or.inr rfl) (D d5_6) rfl (fun h1 W2 => ?_)
  have F3 := Fld.same W2 p3
  refine go_aload_n 10 (D d5_9) rfl rfl rfl ?_
  refine go_iload_n 11 (D d5_10) rfl rfl ?_
  have F4 := (p4.other W2 (Or.inr (slot_ne (t := .byte) (t' := (.array .byte)) (Or.inr (wk G 9)) (Or.inr (wk G 8)) (by decide) (by decide) (by decide))))
  have E5 := (p1.wr W2)
  refine go_putF 14 (wk G 35) Via.refl F4 E5 (Or.inr ⟨(wk G 9), rfl, hnm⟩) (wk G 6) (ty := .byte) (v' := (.int 0)) (by decide) rfl (by decide) p2 (Or.inr rfl) (D d5_11) rfl (fun h6 W7 => ?_)
  have F8 := Fld.same W7 F4
  have K9 : Keep h0 h1 [a] := ((Keep.refl h0 [a]).wr W2 (Or.inl (by simp)))
  have K10 : Keep h0 h6 [a] := (K9.wr W7 (Or.inl (by simp)))
  have F11 := (F3.other W7 (Or.inr (slot_ne (t := (.array .byte)) (t' := .byte) (Or.inr (wk G 8)) (Or.inr (wk G 9)) (by decide) (by decide) (by decide))))
  refine go_return hret hlk (D d5_14) (by decide) (by decide) ⟨rfl, ⟨F11, F8⟩⟩ K10
def Q_valueof (Z : State) (c : Int32) (h0 : Heap) (xv : Value) (h : Heap) : Prop := ∃ (r : Addr), (.ref r) = xv ∧ h0.size ≤ r ∧ Str Z h r [c]
theorem c_valueof (G : GH Z a0) (c : Int32)  (h0 : Heap) (O0 : Old Z Z.heap.size h0) (p1 : C8 c) : Con false [] l Z (⟨"java/lang/String", "valueOf", "(C)Ljava/lang/String;"⟩ : MethodName) jdk_42_method_139_code 1 (some (.object "java/lang/String")) [] (rm4 2 2 5 27) #[(.int c)] h0 [] (rvl (Q_valueof Z c h0)) := by
  refine conN G (plainFor_of_name pn1) O0 (fun m => ef3 m c) ?_
  intro _ _ _ m_ _ _ _ D hml hret hlk hnm
  obtain ⟨z1, s2, q3⟩ := cs_of G
  refine go_getS 3 (wk G 24) (s2.ext O0.2) (D d6_0) rfl ?_
  refine go_ifF 6 (D d6_3) rfl (XT.i0_eq_f q3) ?_
  refine go_iload_n 7 (D d6_6) rfl rfl ?_
  refine callS0 (cells' := 0) (slots' := 0) (Wd := 0) (argsL := [(.int c)]) (rest := []) (pay_of (a0 := a0) (c_canenc l G c h0 O0 p1) (wk G 141) (wk G 68)) (wk G 139) (wk G 140) (wk G 68) (wk G 141) pd1 (by rw [hml]; rfl) all0 sf00 (D d6_7) (k_v 10 rfl ?_)
  rintro _ h4 ⟨rfl, rfl⟩ K5
  refine go_ifF 13 (D d6_10) rfl (by decide) ?_
  refine go_newO 16 (cells' := 1) (slots' := 4) (wk G 142) (wk G 6) (wk G 5) (D d6_13) rfl rfl rfl (by decide) (by decide) (fun h6 a7 g8 X9 E10 D11 U12 => ?_)
  refine go_dup 17 (D d6_16) rfl rfl ?_
  refine go_iload_n 18 (D d6_17) rfl rfl ?_
  refine go_old (fun O13 => ?_)
  refine callS0 (cells' := 2) (slots' := 5) (Wd := 2) (argsL := [(.int c)]) (rest := [(.ref a7), (.ref a7)]) (pay_of (a0 := a0) (c_tobytes l G c h6 O13 ) (wk G 145) (wk G 68)) (wk G 143) (wk G 144) (wk G 68) (wk G 145) pd2 (by rw [hml]; rfl) all0 sf00 (D d6_18) (k_v 21 rfl ?_)
  rintro _ h14 ⟨r16, r17, rfl, f18, f19⟩ K15
  refine go_iconst 22 (v := 0) (D d6_21) rfl rfl ?_
  have K20 : Keep h6 h14 [] := ((Keep.refl h6 []).trans K15 all0)
  have E21 := (E10.keep K20)
  have F22 := D11 (Or.inr (wk G 8)) (ty := (.array .byte)) (by decide)
  have F23 := (F22.keep K20 nin0)
  have F24 := D11 (Or.inr (wk G 9)) (ty := .byte) (by decide)
  have F25 := (F24.keep K20 nin0)
  refine go_old (fun O26 => ?_)
  refine callI0 (cells' := 2) (slots' := 5) (Wd := 1) (argsL := [(.ref r16), (.int 0)]) (rest := [(.ref a7)]) (pay_of (a0 := a0) (c_strbb l G a7 r16 h14 O26 E21 (Nat.le_trans O0.2.1 (Nat.le_of_eq g8)) F23 F25) (wk G 148) (wk G 5)) rfl (wk G 146) (wk G 147) (wk G 148) pd3 (by rw [hml]; rfl) (allS (Nat.le_trans O0.2.1 (Nat.le_of_eq g8)) all0) (fun _ hal => (sfS safe_nil sf0)) (D d6_22) (k_n 25 rfl ?_)
  rintro  h27 ⟨f29, f30⟩ K28
  have K31 : Keep h0 h6 [] := ((Keep.refl h0 []).ext X9)
  have K32 : Keep h0 h14 [] := (K31.trans K15 all0)
  have K33 : Keep h0 h27 [] := (K32.trans K28 (allS (Or.inr (Nat.le_of_eq g8)) all0))
  have E34 := (E21.keep K28)
  have A35 := (f19.keep K28 (ninS (Nat.ne_of_gt (Nat.lt_of_lt_of_le E10.lt f18)) nin0))
  have S36 : Str Z h27 a7 [c] := ⟨r16, r17, E34, f29, f30, A35, (c8c p1 c8n), Nat.le_of_ble_eq_true rfl⟩
  refine go_areturn hret hlk rfl rfl (D d6_25) (by decide) (by decide) ⟨_, rfl, ⟨a7, rfl, (Nat.le_of_eq g8), S36⟩⟩ K33
def Q_canenc46 (Z : State)  (h0 : Heap) (xv : Value) (h : Heap) : Prop := (.int 1) = xv ∧ h0 = h
theorem c_canenc46 (G : GH Z a0)   (h0 : Heap) (O0 : Old Z Z.heap.size h0)  : Con false [] l Z (⟨"java/lang/StringLatin1", "canEncode", "(I)Z"⟩ : MethodName) jdk_43_method_4_code 1 (some .boolean) [] (rm4 0 0 0 0) #[(.int 46)] h0 [] (rvl (Q_canenc46 Z h0)) := by
  refine conN G (plainFor_of_name pn2) O0 (fun m => ef3 m (46 : Int32)) ?_
  intro _ _ _ m_ _ _ _ D hml hret hlk hnm
  refine go_iload_n 1 (D d7_0) rfl rfl ?_
  refine go_ifF 4 (D d7_1) rfl (by decide) ?_
  refine go_iload_n 5 (D d7_4) rfl rfl ?_
  refine go_sipush 8 (v := 255) (D d7_5) rfl rfl ?_
  refine go_icF 11 (D d7_8) rfl (by decide) ?_
  refine go_iconst 12 (v := 1) (D d7_11) rfl rfl ?_
  refine go_goto 16 (D d7_12) (by decide) rfl ?_
  refine go_ireturn hret hlk rfl (by simp) (D d7_16) (by decide) (by decide) ⟨_, rfl, ⟨rfl, rfl⟩⟩ (Keep.refl h0 [])
theorem ef5 (m : MethodId) (v0 v1 v2 : Int32) (v3 : Value) (hc_v3 : v3.isRef = true) : entryFrame m #[(.int v0), (.int v1), (.int v2), v3] 4 = mkF m 0 #[.val (.int v0), .val (.int v1), .val (.int v2), .val v3] [] := by rcases XT.refc hc_v3 with rfl | ⟨_, rfl⟩ <;> first | (simp [entryFrame, mkF, argsToLocals, Value.category]; done) | rfl
def Q_cfti (Z : State) (i j u : Int32) (f : Value) (h0 : Heap) (xv : Value) (h : Heap) : Prop := (.int i) = xv ∧ h0 = h
theorem c_cfti (G : GH Z a0) (i j u : Int32) (f : Value)  (h0 : Heap) (O0 : Old Z Z.heap.size h0) (p1 : f.isRef = true) (p2 : ¬ i < (0 : Int32)) (p3 : ¬ j < i) (p4 : ¬ u < j) : Con false [] l Z (⟨"jdk/internal/util/Preconditions", "checkFromToIndex", "(IIILjava/util/function/BiFunction;)I"⟩ : MethodName) jdk_41_method_12_code 4 (some .int) [] (rm4 0 0 0 0) #[(.int i), (.int j), (.int u), f] h0 [] (rvl (Q_cfti Z i j u f h0)) := by
  refine conN G (plainFor_of_name pn3) O0 (fun m => ef5 m i j u f p1) ?_
  intro _ _ _ m_ _ _ _ D hml hret hlk hnm
  refine go_iload_n 1 (D d8_0) rfl rfl ?_
  refine go_ifF 4 (D d8_1) rfl (XT.i0_lt_f p2) ?_
  refine go_iload_n 5 (D d8_4) rfl rfl ?_
  refine go_iload_n 6 (D d8_5) rfl rfl ?_
  refine go_icF 9 (D d8_6) rfl (XT.ii_gt_f p3) ?_
  refine go_iload_n 10 (D d8_9) rfl rfl ?_
  refine go_iload_n 11 (D d8_10) rfl rfl ?_
  refine go_icT 22 (D d8_11) (by decide) rfl (XT.ii_le_t p4) ?_
  refine go_iload_n 23 (D d8_22) rfl rfl ?_
  refine go_ireturn hret hlk rfl (by simp) (D d8_23) (by decide) (by decide) ⟨_, rfl, ⟨rfl, rfl⟩⟩ (Keep.refl h0 [])
theorem ef6 (m : MethodId) (v0 v1 v2 : Int32) : entryFrame m #[(.int v0), (.int v1), (.int v2)] 3 = mkF m 0 #[.val (.int v0), .val (.int v1), .val (.int v2)] [] := by first | (simp [entryFrame, mkF, argsToLocals, Value.category]; done) | rfl
def Q_cbbe (Z : State) (i j u : Int32) (h0 : Heap) (h : Heap) : Prop := h0 = h
theorem c_cbbe (G : GH Z a0) (i j u : Int32)  (h0 : Heap) (O0 : Old Z Z.heap.size h0) (p1 : ¬ i < (0 : Int32)) (p2 : ¬ j < i) (p3 : ¬ u < j) : Con false [] l Z (⟨"java/lang/String", "checkBoundsBeginEnd", "(III)V"⟩ : MethodName) jdk_42_method_158_code 3 none [] (rm4 1 0 0 15) #[(.int i), (.int j), (.int u)] h0 [] (rno (Q_cbbe Z i j u h0)) := by
  refine conN G (plainFor_of_name pn1) O0 (fun m => ef6 m i j u) ?_
  intro _ _ _ m_ _ _ _ D hml hret hlk hnm
  refine go_iload_n 1 (D d9_0) rfl rfl ?_
  refine go_iload_n 2 (D d9_1) rfl rfl ?_
  refine go_iload_n 3 (D d9_2) rfl rfl ?_
  obtain ⟨v1, s2, q3⟩ := sf_of G
  refine go_getS 6 (wk G 103) (s2.ext O0.2) (D d9_3) rfl ?_
  refine callS0 (cells' := 0) (slots' := 0) (Wd := 0) (argsL := [(.int i), (.int j), (.int u), v1]) (rest := []) (pay_of (a0 := a0) (c_cfti l G i j u v1 h0 O0 q3 p1 p2 p3) (wk G 107) (wk G 104)) (wk G 105) (wk G 106) (wk G 104) (wk G 107) pd4 (by rw [hml]; rfl) all0 sf00 (D d9_6) (k_v 9 rfl ?_)
  rintro _ h4 ⟨rfl, rfl⟩ K5
  refine go_pop 10 (D d9_9) rfl rfl ?_
  refine go_return hret hlk (D d9_10) (by decide) (by decide) ⟨rfl, rfl⟩ (Keep.refl h0 [])
theorem ef7 (m : MethodId) (v0 v1 : Int32) : entryFrame m #[(.int v0), (.int v1)] 2 = mkF m 0 #[.val (.int v0), .val (.int v1)] [] := by first | (simp [entryFrame, mkF, argsToLocals, Value.category]; done) | rfl
def Q_chkl (Z : State) (i j : Int32) (h0 : Heap) (h : Heap) : Prop := h0 = h
theorem c_chkl (G : GH Z a0) (i j : Int32)  (h0 : Heap) (O0 : Old Z Z.heap.size h0) (p1 : ¬ j < i) : Con false [] l Z (⟨"java/util/Arrays", "checkLength", "(II)V"⟩ : MethodName) jdk_65_method_131_code 2 none [] (rm4 0 0 0 0) #[(.int i), (.int j)] h0 [] (rno (Q_chkl Z i j h0)) := by
  refine conN G (plainFor_of_name pn4) O0 (fun m => ef7 m i j) ?_
  intro _ _ _ m_ _ _ _ D hml hret hlk hnm
  refine go_iload_n 1 (D d10_0) rfl rfl ?_
  refine go_iload_n 2 (D d10_1) rfl rfl ?_
  refine go_icT 37 (D d10_2) (by decide) rfl (XT.ii_ge_t p1) ?_
  refine go_return hret hlk (D d10_37) (by decide) (by decide) ⟨rfl, rfl⟩ (Keep.refl h0 [])
def Q_reqnn1 (Z : State) (a : Addr) (h0 : Heap) (xv : Value) (h : Heap) : Prop := (.ref a) = xv ∧ h0 = h
theorem c_reqnn1 (G : GH Z a0) (a : Addr)  (h0 : Heap) (O0 : Old Z Z.heap.size h0)  : Con false [] l Z (⟨"java/util/Objects", "requireNonNull", "(Ljava/lang/Object;)Ljava/lang/Object;"⟩ : MethodName) jdk_31_method_10_code 1 (some (.object "java/lang/Object")) [] (rm4 0 0 0 0) #[(.ref a)] h0 [] (rvl (Q_reqnn1 Z a h0)) := by
  refine conN G (plainFor_of_name pn5) O0 (fun m => ef2 m a) ?_
  intro _ _ _ m_ _ _ _ D hml hret hlk hnm
  refine go_aload_n 1 (D d11_0) rfl rfl rfl ?_
  refine go_nnT 12 (D d11_1) (by decide) rfl ?_
  refine go_aload_n 13 (D d11_12) rfl rfl rfl ?_
  refine go_areturn hret hlk rfl rfl (D d11_13) (by decide) (by decide) ⟨_, rfl, ⟨rfl, rfl⟩⟩ (Keep.refl h0 [])
def Q_draw (Z : State) (y : Int32) (h0 : Heap) (xv : Value) (h : Heap) : Prop := ∃ (w : Int32), (.int w) = xv ∧ h0 = h ∧ C8 w
theorem c_draw (G : GH Z a0) (y : Int32)  (h0 : Heap) (O0 : Old Z Z.heap.size h0)  : Con false [] l Z (⟨"com/example/commit_feed/commitfeed/config/SqlNamesSchemaPinLaw", "draw", "(I)C"⟩ : MethodName) method_2_code 1 (some .char) [] (rm4 0 0 0 0) #[(.int y)] h0 [] (rvl (Q_draw Z y h0)) := by
  refine conN G (plainFor_of_name pn6) O0 (fun m => ef3 m y) ?_
  intro _ _ _ m_ _ _ _ D hml hret hlk hnm
  refine go_iload_n 1 (D d12_0) rfl rfl ?_
  refine go_sipush 4 (v := 768) (D d12_1) rfl rfl ?_
  refine go_iand 5 (z := (y &&& (768 : Int32))) (D d12_4) rfl rfl ?_
  by_cases cz1 : (y &&& (768 : Int32)) = (0 : Int32)
  · refine go_ifF 8 (D d12_5) rfl (XT.i0_ne_f cz1) ?_
    refine go_bipush 10 (v := 46) (D d12_8) rfl rfl ?_
    refine go_ireturn hret hlk rfl (by simp) (D d12_10) (by decide) (by decide) ⟨_, rfl, ⟨(46 : Int32), rfl, rfl, (by decide)⟩⟩ (Keep.refl h0 [])
  · refine go_ifT 11 (D d12_5) (by decide) rfl (XT.i0_ne_t cz1) ?_
    refine go_iload_n 12 (D d12_11) rfl rfl ?_
    refine go_sipush 15 (v := 255) (D d12_12) rfl rfl ?_
    refine go_iand 16 (z := (y &&& (255 : Int32))) (D d12_15) rfl rfl ?_
    refine go_i2c 17 (z := (y &&& (255 : Int32))) (D d12_16) rfl (i2c_mask _) ?_
    refine go_ireturn hret hlk (nar_c8 (c8_m _)) (by simp) (D d12_17) (by decide) (by decide) ⟨_, rfl, ⟨(y &&& (255 : Int32)), rfl, rfl, (c8_m _)⟩⟩ (Keep.refl h0 [])
theorem ef8 (m : MethodId) (v0 v1 : Addr) : entryFrame m #[(.ref v0), (.ref v1)] 2 = mkF m 0 #[.val (.ref v0), .val (.ref v1)] [] := by first | (simp [entryFrame, mkF, argsToLocals, Value.category]; done) | rfl
def Q_opinit (Z : State) (a q : Addr) (h0 : Heap) (h : Heap) : Prop := Fld Z h a "java/util/Optional" "value" "Ljava/lang/Object;" (.ref q)
theorem c_opinit (G : GH Z a0) (a q : Addr)  (h0 : Heap) (O0 : Old Z Z.heap.size h0) (p1 : Exa Z h0 a "java/util/Optional") (p2 : Z.heap.size ≤ a) (p3 : Fld Z h0 a "java/util/Optional" "value" "Ljava/lang/Object;" .null) : Con false [] l Z (⟨"java/util/Optional", "<init>", "(Ljava/lang/Object;)V"⟩ : MethodName) jdk_32_method_2_code 2 none [] (rm4 1 0 0 12) #[(.ref a), (.ref q)] h0 [a] (rno (Q_opinit Z a q h0)) := by
  refine conN G (plainFor_of_name pn7) O0 (fun m => ef8 m a q) ?_
  intro _ _ _ m_ _ _ _ D hml hret hlk hnm
  refine go_aload_n 1 (D d13_0) rfl rfl rfl ?_
  refine go_initO 4 (Wd := 0) (wk G 125) (wk G 22) (wk G 23) (by rw [hml]; rfl) (by decide) (by decide) (by decide) (D d13_1) rfl ?_
  refine go_aload_n 5 (D d13_4) rfl rfl rfl ?_
  refine go_aload_n 6 (D d13_5) rfl rfl rfl ?_
  refine go_putF 9 (wk G 90) Via.refl p3 p1 (Or.inr ⟨(wk G 91), rfl, hnm⟩) (wk G 116) (ty := (.object "java/lang/Object")) (v' := (.ref q)) (by decide) rfl rfl p2 (Or.inr rfl) (D d13_6) rfl (fun h1 W2 => ?_)
  have F3 := Fld.same W2 p3
  have K4 : Keep h0 h1 [a] := ((Keep.refl h0 [a]).wr W2 (Or.inl (by simp)))
  refine go_return hret hlk (D d13_9) (by decide) (by decide) ⟨rfl, F3⟩ K4
def Q_opof (Z : State) (q : Addr) (h0 : Heap) (xv : Value) (h : Heap) : Prop := ∃ (r : Addr), (.ref r) = xv ∧ h0.size ≤ r ∧ Exa Z h r "java/util/Optional" ∧ Fld Z h r "java/util/Optional" "value" "Ljava/lang/Object;" (.ref q)
theorem c_opof (G : GH Z a0) (q : Addr)  (h0 : Heap) (O0 : Old Z Z.heap.size h0)  : Con false [] l Z (⟨"java/util/Optional", "of", "(Ljava/lang/Object;)Ljava/util/Optional;"⟩ : MethodName) jdk_32_method_3_code 1 (some (.object "java/util/Optional")) [] (rm4 2 1 1 26) #[(.ref q)] h0 [] (rvl (Q_opof Z q h0)) := by
  refine conN G (plainFor_of_name pn7) O0 (fun m => ef2 m q) ?_
  intro _ _ _ m_ _ _ _ D hml hret hlk hnm
  refine go_newO 3 (cells' := 1) (slots' := 1) (wk G 115) (wk G 116) (wk G 82) (D d14_0) rfl rfl rfl (by decide) (by decide) (fun h1 a2 g3 X4 E5 D6 U7 => ?_)
  refine go_dup 4 (D d14_3) rfl rfl ?_
  refine go_aload_n 5 (D d14_4) rfl rfl rfl ?_
  refine go_old (fun O8 => ?_)
  refine callS0 (cells' := 1) (slots' := 1) (Wd := 2) (argsL := [(.ref q)]) (rest := [(.ref a2), (.ref a2)]) (pay_of (a0 := a0) (c_reqnn1 l G q h1 O8 ) (wk G 120) (wk G 119)) (wk G 117) (wk G 118) (wk G 119) (wk G 120) pd5 (by rw [hml]; rfl) all0 sf00 (D d14_5) (k_v 8 rfl ?_)
  rintro _ h9 ⟨rfl, rfl⟩ K10
  have F11 := D6 (Or.inr (wk G 91)) (ty := (.object "java/lang/Object")) (by decide)
  refine callI0 (cells' := 1) (slots' := 1) (Wd := 1) (argsL := [(.ref q)]) (rest := [(.ref a2)]) (pay_of (a0 := a0) (c_opinit l G a2 q h1 O8 E5 (Nat.le_trans O0.2.1 (Nat.le_of_eq g3)) F11) (wk G 124) (wk G 82)) rfl (wk G 121) (wk G 122) (wk G 124) pd6 (by rw [hml]; rfl) (allS (Nat.le_trans O0.2.1 (Nat.le_of_eq g3)) all0) (fun _ hal => (sfS safe_nil sf0)) (D d14_8) (k_n 11 rfl ?_)
  rintro  h12 f14 K13
  have K15 : Keep h0 h1 [] := ((Keep.refl h0 []).ext X4)
  have K16 : Keep h0 h12 [] := (K15.trans K13 (allS (Or.inr (Nat.le_of_eq g3)) all0))
  have E17 := (E5.keep K13)
  refine go_areturn hret hlk rfl rfl (D d14_11) (by decide) (by decide) ⟨_, rfl, ⟨a2, rfl, (Nat.le_of_eq g3), E17, f14⟩⟩ K16
theorem ef9 (m : MethodId)  : entryFrame m #[] 1 = mkF m 0 #[.unset] [] := by first | (simp [entryFrame, mkF, argsToLocals, Value.category]; done) | rfl
def Q_opempty (Z : State)  (h0 : Heap) (xv : Value) (h : Heap) : Prop := (.ref (s_OE Z)) = xv ∧ h0 = h
theorem c_opempty (G : GH Z a0)   (h0 : Heap) (O0 : Old Z Z.heap.size h0)  : Con false [] l Z (⟨"java/util/Optional", "empty", "()Ljava/util/Optional;"⟩ : MethodName) jdk_32_method_1_code 1 (some (.object "java/util/Optional")) [] (rm4 0 0 0 0) #[] h0 [] (rvl (Q_opempty Z h0)) := by
  refine conN G (plainFor_of_name pn7) O0 (fun m => ef9 m ) ?_
  intro _ _ _ m_ _ _ _ D hml hret hlk hnm
  refine go_getS 3 (wk G 84) ((oe_all G).1.ext O0.2) (D d15_0) rfl ?_
  refine go_astore_n 4 (ls' := #[vr (s_OE Z)]) (D d15_3) rfl rfl rfl ?_
  refine go_aload_n 5 (D d15_4) rfl rfl rfl ?_
  refine go_areturn hret hlk rfl rfl (D d15_5) (by decide) (by decide) ⟨_, rfl, ⟨rfl, rfl⟩⟩ (Keep.refl h0 [])
def Q_ispresN (Z : State) (a : Addr) (h0 : Heap) (xv : Value) (h : Heap) : Prop := (.int 0) = xv ∧ h0 = h
theorem c_ispresN (G : GH Z a0) (a : Addr)  (h0 : Heap) (O0 : Old Z Z.heap.size h0) (p1 : Fld Z h0 a "java/util/Optional" "value" "Ljava/lang/Object;" .null) : Con false [] l Z (⟨"java/util/Optional", "isPresent", "()Z"⟩ : MethodName) jdk_32_method_6_code 1 (some .boolean) [] (rm4 0 0 0 0) #[(.ref a)] h0 [] (rvl (Q_ispresN Z a h0)) := by
  refine conN G (plainFor_of_name pn7) O0 (fun m => ef2 m a) ?_
  intro _ _ _ m_ _ _ _ D hml hret hlk hnm
  refine go_aload_n 1 (D d16_0) rfl rfl rfl ?_
  refine go_getF 4 (wk G 90) Via.refl p1 (D d16_1) rfl ?_
  refine go_nullT 11 (D d16_4) (by decide) rfl ?_
  refine go_iconst 12 (v := 0) (D d16_11) rfl rfl ?_
  refine go_ireturn hret hlk rfl (by simp) (D d16_12) (by decide) (by decide) ⟨_, rfl, ⟨rfl, rfl⟩⟩ (Keep.refl h0 [])
def Q_ispresR (Z : State) (a q : Addr) (h0 : Heap) (xv : Value) (h : Heap) : Prop := (.int 1) = xv ∧ h0 = h
theorem c_ispresR (G : GH Z a0) (a : Addr) (q : Addr) (h0 : Heap) (O0 : Old Z Z.heap.size h0) (p1 : Fld Z h0 a "java/util/Optional" "value" "Ljava/lang/Object;" (.ref q)) : Con false [] l Z (⟨"java/util/Optional", "isPresent", "()Z"⟩ : MethodName) jdk_32_method_6_code 1 (some .boolean) [] (rm4 0 0 0 0) #[(.ref a)] h0 [] (rvl (Q_ispresR Z a q h0)) := by
  refine conN G (plainFor_of_name pn7) O0 (fun m => ef2 m a) ?_
  intro _ _ _ m_ _ _ _ D hml hret hlk hnm
  refine go_aload_n 1 (D d16_0) rfl rfl rfl ?_
  refine go_getF 4 (wk G 90) Via.refl p1 (D d16_1) rfl ?_
  refine go_nullF 7 (D d16_4) rfl ?_
  refine go_iconst 8 (v := 1) (D d16_7) rfl rfl ?_
  refine go_goto 12 (D d16_8) (by decide) rfl ?_
  refine go_ireturn hret hlk rfl (by simp) (D d16_12) (by decide) (by decide) ⟨_, rfl, ⟨rfl, rfl⟩⟩ (Keep.refl h0 [])
def Q_opget (Z : State) (a q : Addr) (h0 : Heap) (xv : Value) (h : Heap) : Prop := (.ref q) = xv ∧ h0 = h
theorem c_opget (G : GH Z a0) (a : Addr) (q : Addr) (h0 : Heap) (O0 : Old Z Z.heap.size h0) (p1 : Fld Z h0 a "java/util/Optional" "value" "Ljava/lang/Object;" (.ref q)) : Con false [] l Z (⟨"java/util/Optional", "get", "()Ljava/lang/Object;"⟩ : MethodName) jdk_32_method_5_code 1 (some (.object "java/lang/Object")) [] (rm4 0 0 0 0) #[(.ref a)] h0 [] (rvl (Q_opget Z a q h0)) := by
  refine conN G (plainFor_of_name pn7) O0 (fun m => ef2 m a) ?_
  intro _ _ _ m_ _ _ _ D hml hret hlk hnm
  refine go_aload_n 1 (D d17_0) rfl rfl rfl ?_
  refine go_getF 4 (wk G 90) Via.refl p1 (D d17_1) rfl ?_
  refine go_nnT 17 (D d17_4) (by decide) rfl ?_
  refine go_aload_n 18 (D d17_17) rfl rfl rfl ?_
  refine go_getF 21 (wk G 90) Via.refl p1 (D d17_18) rfl ?_
  refine go_areturn hret hlk rfl rfl (D d17_21) (by decide) (by decide) ⟨_, rfl, ⟨rfl, rfl⟩⟩ (Keep.refl h0 [])
theorem ef10 (m : MethodId) (v0 v1 v2 v3 : Int32) : entryFrame m #[(.int v0), (.int v1), (.int v2), (.int v3)] maxLocals = mkF m 0 #[.val (.int v0), .val (.int v1), .val (.int v2), .val (.int v3), .unset, .unset, .unset, .unset, .unset, .unset, .unset, .unset] [] := by first | (simp [entryFrame, mkF, argsToLocals, Value.category, maxLocals]; done) | rfl
def Q_law (Z : State) (x0 x1 x2 x3 : Int32) (h0 : Heap) (xv : Value) (h : Heap) : Prop := (.int 1) = xv
theorem ef11 (m : MethodId) (v0 : Addr) : entryFrame m #[(.ref v0)] 2 = mkF m 0 #[.val (.ref v0), .unset] [] := by first | (simp [entryFrame, mkF, argsToLocals, Value.category]; done) | rfl
def Q_sch0 (Z : State) (a : Addr) (h0 : Heap) (xv : Value) (h : Heap) : Prop := (.ref (s_OE Z)) = xv
theorem ef12 (m : MethodId) (v0 : Addr) (v1 : Int32) : entryFrame m #[(.ref v0), (.int v1)] 2 = mkF m 0 #[.val (.ref v0), .val (.int v1)] [] := by first | (simp [entryFrame, mkF, argsToLocals, Value.category]; done) | rfl
def Q_idx0 (Z : State) (a : Addr) (h0 : Heap) (xv : Value) (h : Heap) : Prop := (.int (-1)) = xv ∧ h0 = h
theorem ef13 (m : MethodId) (v0 : Addr) (v1 v2 : Int32) : entryFrame m #[(.ref v0), (.int v1), (.int v2)] 3 = mkF m 0 #[.val (.ref v0), .val (.int v1), .val (.int v2)] [] := by first | (simp [entryFrame, mkF, argsToLocals, Value.category]; done) | rfl
def Q_idxs0 (Z : State) (a : Addr) (h0 : Heap) (xv : Value) (h : Heap) : Prop := (.int (-1)) = xv ∧ h0 = h
theorem ef14 (m : MethodId) (v0 : Addr) (v1 v2 v3 : Int32) : entryFrame m #[(.ref v0), (.int v1), (.int v2), (.int v3)] 4 = mkF m 0 #[.val (.ref v0), .val (.int v1), .val (.int v2), .val (.int v3)] [] := by first | (simp [entryFrame, mkF, argsToLocals, Value.category]; done) | rfl
def Q_idxl0 (Z : State) (t : Addr) (k : ClassId) (h0 : Heap) (xv : Value) (h : Heap) : Prop := (.int (-1)) = xv ∧ h0 = h
def Q_max0_0 (Z : State)  (h0 : Heap) (xv : Value) (h : Heap) : Prop := (.int 0) = xv ∧ h0 = h
theorem c_max0_0 (G : GH Z a0)   (h0 : Heap) (O0 : Old Z Z.heap.size h0)  : Con false [] l Z (⟨"java/lang/Math", "max", "(II)I"⟩ : MethodName) jdk_29_method_65_code 2 (some .int) [] (rm4 0 0 0 0) #[(.int 0), (.int 0)] h0 [] (rvl (Q_max0_0 Z h0)) := by
  refine conN G (Jvm.Free.JP.mathPlain rfl (by decide)) O0 (fun m => ef7 m (0 : Int32) (0 : Int32)) ?_
  intro _ _ _ m_ _ _ _ D hml hret hlk hnm
  refine go_iload_n 1 (D d22_0) rfl rfl ?_
  refine go_iload_n 2 (D d22_1) rfl rfl ?_
  refine go_icF 5 (D d22_2) rfl (by decide) ?_
  refine go_iload_n 6 (D d22_5) rfl rfl ?_
  refine go_goto 10 (D d22_6) (by decide) rfl ?_
  refine go_ireturn hret hlk rfl (by simp) (D d22_10) (by decide) (by decide) ⟨_, rfl, ⟨rfl, rfl⟩⟩ (Keep.refl h0 [])
def Q_min0_0 (Z : State)  (h0 : Heap) (xv : Value) (h : Heap) : Prop := (.int 0) = xv ∧ h0 = h
theorem c_min0_0 (G : GH Z a0)   (h0 : Heap) (O0 : Old Z Z.heap.size h0)  : Con false [] l Z (⟨"java/lang/Math", "min", "(II)I"⟩ : MethodName) jdk_29_method_69_code 2 (some .int) [] (rm4 0 0 0 0) #[(.int 0), (.int 0)] h0 [] (rvl (Q_min0_0 Z h0)) := by
  refine conN G (Jvm.Free.JP.mathPlain rfl (by decide)) O0 (fun m => ef7 m (0 : Int32) (0 : Int32)) ?_
  intro _ _ _ m_ _ _ _ D hml hret hlk hnm
  refine go_iload_n 1 (D d23_0) rfl rfl ?_
  refine go_iload_n 2 (D d23_1) rfl rfl ?_
  refine go_icF 5 (D d23_2) rfl (by decide) ?_
  refine go_iload_n 6 (D d23_5) rfl rfl ?_
  refine go_goto 10 (D d23_6) (by decide) rfl ?_
  refine go_ireturn hret hlk rfl (by simp) (D d23_10) (by decide) (by decide) ⟨_, rfl, ⟨rfl, rfl⟩⟩ (Keep.refl h0 [])
theorem c_idxl0 (G : GH Z a0) (t : Addr) (k : ClassId) (h0 : Heap) (O0 : Old Z Z.heap.size h0) (p1 : Arv Z h0 t k (.byte) (0 : Int32) [] (.int 0)) : Con false [] l Z (⟨"java/lang/StringLatin1", "indexOf", "([BIII)I"⟩ : MethodName) jdk_43_method_22_code 4 (some .int) [] (rm4 1 0 0 13) #[(.ref t), (.int 46), (.int 0), (.int 0)] h0 [] (rvl (Q_idxl0 Z t k h0)) := by
  refine conN G (plainFor_of_name pn2) O0 (fun m => ef14 m t (46 : Int32) (0 : Int32) (0 : Int32)) ?_
  intro _ _ _ m_ _ _ _ D hml hret hlk hnm
  refine go_iload_n 1 (D d21_0) rfl rfl ?_
  refine callS0 (cells' := 0) (slots' := 0) (Wd := 0) (argsL := [(.int 46)]) (rest := []) (pay_of (a0 := a0) (c_canenc46 l G  h0 O0 ) (wk G 72) (wk G 68)) (wk G 70) (wk G 71) (wk G 68) (wk G 72) pd11 (by rw [hml]; rfl) all0 sf00 (D d21_1) (k_v 4 rfl ?_)
  rintro _ h1 ⟨rfl, rfl⟩ K2
  refine go_ifT 9 (D d21_4) (by decide) rfl (by decide) ?_
  refine go_iload_n 10 (D d21_9) rfl rfl ?_
  refine go_iconst 11 (v := 0) (D d21_10) rfl rfl ?_
  refine callS0 (cells' := 0) (slots' := 0) (Wd := 0) (argsL := [(.int 0), (.int 0)]) (rest := []) (pay_of (a0 := a0) (c_max0_0 l G  h0 O0 ) (wk G 76) (wk G 75)) (wk G 73) (wk G 74) (wk G 75) (wk G 76) pd12 (by rw [hml]; rfl) all0 sf00 (D d21_11) (k_v 14 rfl ?_)
  rintro _ h3 ⟨rfl, rfl⟩ K4
  refine go_istore_n 15 (ls' := #[vr t, vi 46, vi 0, vi 0]) (D d21_14) rfl rfl ?_
  refine go_iload_n 16 (D d21_15) rfl rfl ?_
  refine go_aload_n 17 (D d21_16) rfl rfl rfl ?_
  refine go_arraylength 18 p1 (D d21_17) rfl ?_
  refine callS0 (cells' := 0) (slots' := 0) (Wd := 0) (argsL := [(.int 0), (.int 0)]) (rest := []) (pay_of (a0 := a0) (c_min0_0 l G  h0 O0 ) (wk G 79) (wk G 75)) (wk G 77) (wk G 78) (wk G 75) (wk G 79) pd12 (by rw [hml]; rfl) all0 sf00 (D d21_18) (k_v 21 rfl ?_)
  rintro _ h5 ⟨rfl, rfl⟩ K6
  refine go_istore_n 22 (ls' := #[vr t, vi 46, vi 0, vi 0]) (D d21_21) rfl rfl ?_
  refine go_iload_n 23 (D d21_22) rfl rfl ?_
  refine go_iload_n 24 (D d21_23) rfl rfl ?_
  refine go_icF 27 (D d21_24) rfl (by decide) ?_
  refine go_iconst 28 (v := (-1)) (D d21_27) rfl rfl ?_
  refine go_ireturn hret hlk rfl (by simp) (D d21_28) (by decide) (by decide) ⟨_, rfl, ⟨rfl, rfl⟩⟩ (Keep.refl h0 [])
theorem c_idxs0 (G : GH Z a0) (a : Addr)  (h0 : Heap) (O0 : Old Z Z.heap.size h0) (p1 : Str Z h0 a []) : Con false [] l Z (⟨"java/lang/String", "indexOf", "(II)I"⟩ : MethodName) jdk_42_method_80_code 3 (some .int) [] (rm4 2 0 0 28) #[(.ref a), (.int 46), (.int 0)] h0 [] (rvl (Q_idxs0 Z a h0)) := by
  refine conN G (plainFor_of_name pn1) O0 (fun m => ef13 m a (46 : Int32) (0 : Int32)) ?_
  intro _ _ _ m_ _ _ _ D hml hret hlk hnm
  refine go_aload_n 1 (D d20_0) rfl rfl rfl ?_
  obtain ⟨t1, k2, E3, F4, F5, A6, B7, L8⟩ := id p1
  refine callV0 (cells' := 0) (slots' := 0) (Wd := 0) (argsL := []) (rest := []) (pay_of (a0 := a0) (c_islatin l G a h0 O0 F5) (wk G 55) (wk G 5)) E3 (wk G 51) (wk G 52) (wk G 54) (wk G 54) (wk G 53) pd9 (by rw [hml]; rfl) all0 sf00 (D d20_1) (k_v 4 rfl ?_)
  rintro _ h9 ⟨rfl, rfl⟩ K10
  refine go_ifF 7 (D d20_4) rfl (by decide) ?_
  refine go_aload_n 8 (D d20_7) rfl rfl rfl ?_
  refine go_getF 11 (wk G 36) Via.refl F4 (D d20_8) rfl ?_
  refine go_iload_n 12 (D d20_11) rfl rfl ?_
  refine go_iload_n 13 (D d20_12) rfl rfl ?_
  refine go_aload_n 14 (D d20_13) rfl rfl rfl ?_
  refine callV0 (cells' := 0) (slots' := 0) (Wd := 3) (argsL := []) (rest := [(.int 0), (.int 46), (.ref t1)]) (pay_len G O0 (n := (0 : Int32)) p1 rfl (by decide) (by decide)) E3 (wk G 56) (wk G 57) (wk G 59) (wk G 59) (wk G 58) pd10 (by rw [hml]; rfl) all0 sf00 (D d20_14) (k_v 17 rfl ?_)
  rintro _ _ ⟨rfl, rfl⟩ -
  refine callS0 (cells' := 0) (slots' := 0) (Wd := 0) (argsL := [(.ref t1), (.int 46), (.int 0), (.int 0)]) (rest := []) (pay_of (a0 := a0) (c_idxl0 l G t1 k2 h0 O0 A6) (wk G 69) (wk G 68)) (wk G 66) (wk G 67) (wk G 68) (wk G 69) pd13 (by rw [hml]; rfl) all0 sf00 (D d20_17) (k_v 20 rfl ?_)
  rintro _ h11 ⟨rfl, rfl⟩ K12
  refine go_goto 36 (D d20_20) (by decide) rfl ?_
  refine go_ireturn hret hlk rfl (by simp) (D d20_36) (by decide) (by decide) ⟨_, rfl, ⟨rfl, rfl⟩⟩ (Keep.refl h0 [])
theorem c_idx0 (G : GH Z a0) (a : Addr)  (h0 : Heap) (O0 : Old Z Z.heap.size h0) (p1 : Str Z h0 a []) : Con false [] l Z (⟨"java/lang/String", "indexOf", "(I)I"⟩ : MethodName) jdk_42_method_79_code 2 (some .int) [] (rm4 3 0 0 42) #[(.ref a), (.int 46)] h0 [] (rvl (Q_idx0 Z a h0)) := by
  refine conN G (plainFor_of_name pn1) O0 (fun m => ef12 m a (46 : Int32)) ?_
  intro _ _ _ m_ _ _ _ D hml hret hlk hnm
  refine go_aload_n 1 (D d19_0) rfl rfl rfl ?_
  refine go_iload_n 2 (D d19_1) rfl rfl ?_
  refine go_iconst 3 (v := 0) (D d19_2) rfl rfl ?_
  refine callV0 (cells' := 0) (slots' := 0) (Wd := 0) (argsL := [(.int 46), (.int 0)]) (rest := []) (pay_of (a0 := a0) (c_idxs0 l G a h0 O0 p1) (wk G 50) (wk G 5)) p1.exa (wk G 46) (wk G 47) (wk G 49) (wk G 49) (wk G 48) pd12 (by rw [hml]; rfl) all0 sf00 (D d19_3) (k_v 6 rfl ?_)
  rintro _ h1 ⟨rfl, rfl⟩ K2
  refine go_ireturn hret hlk rfl (by simp) (D d19_6) (by decide) (by decide) ⟨_, rfl, ⟨rfl, rfl⟩⟩ (Keep.refl h0 [])
theorem c_sch0 (G : GH Z a0) (a : Addr)  (h0 : Heap) (O0 : Old Z Z.heap.size h0) (p1 : Str Z h0 a []) : Con true EL1 l Z (⟨"com/example/commit_feed/commitfeed/config/SqlNames", "schema", "(Ljava/lang/String;)Ljava/util/Optional;"⟩ : MethodName) prog_9_method_3_code 2 (some (.object "java/util/Optional")) [] (rm4 4 0 0 55) #[(.ref a)] h0 [] (rvl (Q_sch0 Z a h0)) := by
  refine conW G (plainFor_of_name pn8) O0 (fun m => ef11 m a) ?_
  intro _ _ _ m_ _ _ _ D hml hret hlk hnm
  refine go_aload_n 1 (D d18_0) rfl rfl rfl ?_
  refine go_bipush 3 (v := 46) (D d18_1) rfl rfl ?_
  refine callV0 (cells' := 0) (slots' := 0) (Wd := 0) (argsL := [(.int 46)]) (rest := []) (pay_of (a0 := a0) (c_idx0 l G a h0 O0 p1) (wk G 45) (wk G 5)) p1.exa (wk G 41) (wk G 42) (wk G 44) (wk G 44) (wk G 43) pd14 (by rw [hml]; rfl) all0 sf00 (D d18_3) (k_v 6 rfl ?_)
  rintro _ h1 ⟨rfl, rfl⟩ K2
  refine go_istore_n 7 (ls' := #[vr a, vi (-1 : Int32)]) (D d18_6) rfl rfl ?_
  refine go_iload_n 8 (D d18_7) rfl rfl ?_
  refine go_ifF 11 (D d18_8) rfl (by decide) ?_
  refine callS0 (cells' := 0) (slots' := 0) (Wd := 0) (argsL := []) (rest := []) (pay_of (a0 := a0) (c_opempty l G  h0 O0 ) (wk G 83) (wk G 82)) (wk G 80) (wk G 81) (wk G 82) (wk G 83) pd15 (by rw [hml]; rfl) all0 sf00 (D d18_11) (k_v 14 rfl ?_)
  rintro _ h3 ⟨rfl, rfl⟩ K4
  refine go_goto 26 (D d18_14) (by decide) rfl ?_
  refine go_areturn hret hlk rfl rfl (D d18_26) (by decide) (by decide) ⟨_, rfl, rfl⟩ (Keep.refl h0 [])
def Q_sch1 (Z : State) (a : Addr) (c0 : Int32) (h0 : Heap) (xv : Value) (h : Heap) : Prop := (∃ (r : Addr) (q : Addr), (.ref r) = xv ∧ c0 = (46 : Int32) ∧ Exa Z h r "java/util/Optional" ∧ Fld Z h r "java/util/Optional" "value" "Ljava/lang/Object;" (.ref q) ∧ Str Z h q []) ∨ ((.ref (s_OE Z)) = xv ∧ ¬ c0 = (46 : Int32))
def Q_idx1 (Z : State) (a : Addr) (c0 : Int32) (h0 : Heap) (xv : Value) (h : Heap) : Prop := ((.int 0) = xv ∧ h0 = h ∧ c0 = (46 : Int32)) ∨ ((.int (-1)) = xv ∧ h0 = h ∧ ¬ c0 = (46 : Int32))
def Q_idxs1 (Z : State) (a : Addr) (c0 : Int32) (h0 : Heap) (xv : Value) (h : Heap) : Prop := ((.int 0) = xv ∧ h0 = h ∧ c0 = (46 : Int32)) ∨ ((.int (-1)) = xv ∧ h0 = h ∧ ¬ c0 = (46 : Int32))
def Q_idxl1 (Z : State) (t : Addr) (k : ClassId) (b0 : Int32) (h0 : Heap) (xv : Value) (h : Heap) : Prop := ((.int 0) = xv ∧ h0 = h ∧ b0 = (46 : Int32)) ∨ ((.int (-1)) = xv ∧ h0 = h ∧ ¬ b0 = (46 : Int32))
def Q_min1_1 (Z : State)  (h0 : Heap) (xv : Value) (h : Heap) : Prop := (.int 1) = xv ∧ h0 = h
theorem c_min1_1 (G : GH Z a0)   (h0 : Heap) (O0 : Old Z Z.heap.size h0)  : Con false [] l Z (⟨"java/lang/Math", "min", "(II)I"⟩ : MethodName) jdk_29_method_69_code 2 (some .int) [] (rm4 0 0 0 0) #[(.int 1), (.int 1)] h0 [] (rvl (Q_min1_1 Z h0)) := by
  refine conN G (Jvm.Free.JP.mathPlain rfl (by decide)) O0 (fun m => ef7 m (1 : Int32) (1 : Int32)) ?_
  intro _ _ _ m_ _ _ _ D hml hret hlk hnm
  refine go_iload_n 1 (D d23_0) rfl rfl ?_
  refine go_iload_n 2 (D d23_1) rfl rfl ?_
  refine go_icF 5 (D d23_2) rfl (by decide) ?_
  refine go_iload_n 6 (D d23_5) rfl rfl ?_
  refine go_goto 10 (D d23_6) (by decide) rfl ?_
  refine go_ireturn hret hlk rfl (by simp) (D d23_10) (by decide) (by decide) ⟨_, rfl, ⟨rfl, rfl⟩⟩ (Keep.refl h0 [])
theorem ef15 (m : MethodId) (v0 : Addr) (v1 v2 v3 : Int32) : entryFrame m #[(.ref v0), (.int v1), (.int v2), (.int v3)] 6 = mkF m 0 #[.val (.ref v0), .val (.int v1), .val (.int v2), .val (.int v3), .unset, .unset] [] := by first | (simp [entryFrame, mkF, argsToLocals, Value.category]; done) | rfl
def Q_idxc1 (Z : State) (t : Addr) (k : ClassId) (b0 : Int32) (h0 : Heap) (xv : Value) (h : Heap) : Prop := ((.int 0) = xv ∧ h0 = h ∧ b0 = (46 : Int32)) ∨ ((.int (-1)) = xv ∧ h0 = h ∧ ¬ b0 = (46 : Int32))
theorem c_idxc1 (G : GH Z a0) (t : Addr) (k : ClassId) (b0 : Int32) (h0 : Heap) (O0 : Old Z Z.heap.size h0) (p1 : Arv Z h0 t k (.byte) (1 : Int32) [(.int b0)] (.int 0)) : Con false [] l Z (⟨"java/lang/StringLatin1", "indexOfChar", "([BIII)I"⟩ : MethodName) jdk_43_method_23_code 6 (some .int) [] (rm4 0 0 0 0) #[(.ref t), (.int 46), (.int 0), (.int 1)] h0 [] (rvl (Q_idxc1 Z t k b0 h0)) := by
  refine conN G (plainFor_of_name pn2) O0 (fun m => ef15 m t (46 : Int32) (0 : Int32) (1 : Int32)) ?_
  intro _ _ _ m_ _ _ _ D hml hret hlk hnm
  refine go_iload_n 1 (D d24_0) rfl rfl ?_
  refine go_i2b 2 (z := (46 : Int32)) (D d24_1) rfl (by decide) ?_
  refine go_istore 4 (ls' := #[vr t, vi 46, vi 0, vi 1, vi 46, un]) (D d24_2) rfl rfl ?_
  refine go_iload_n 5 (D d24_4) rfl rfl ?_
  refine go_istore 7 (ls' := #[vr t, vi 46, vi 0, vi 1, vi 46, vi 0]) (D d24_5) rfl rfl ?_
  refine go_iload 9 (D d24_7) rfl rfl ?_
  refine go_iload_n 10 (D d24_9) rfl rfl ?_
  refine go_icF 13 (D d24_10) rfl (by decide) ?_
  refine go_aload_n 14 (D d24_13) rfl rfl rfl ?_
  refine go_iload 16 (D d24_14) rfl rfl ?_
  refine go_baload 17 (i := 0) (v := (.int b0)) p1 (by decide) (by decide) rfl rfl (D d24_16) rfl ?_
  refine go_iload 19 (D d24_17) rfl rfl ?_
  by_cases cz1 : b0 = (46 : Int32)
  · refine go_icF 22 (D d24_19) rfl (XT.ii_ne_f cz1) ?_
    refine go_iload 24 (D d24_22) rfl rfl ?_
    refine go_ireturn hret hlk rfl (by simp) (D d24_24) (by decide) (by decide) ⟨_, rfl, (Or.inl ⟨rfl, rfl, cz1⟩)⟩ (Keep.refl h0 [])
  · refine go_icT 25 (D d24_19) (by decide) rfl (XT.ii_ne_t cz1) ?_
    refine go_iinc 28 (ls' := #[vr t, vi 46, vi 0, vi 1, vi 46, vi 1]) (y := (1 : Int32)) (D d24_25) rfl rfl rfl rfl ?_
    refine go_goto 7 (D d24_28) (by decide) rfl ?_
    refine go_iload 9 (D d24_7) rfl rfl ?_
    refine go_iload_n 10 (D d24_9) rfl rfl ?_
    refine go_icT 31 (D d24_10) (by decide) rfl (by decide) ?_
    refine go_iconst 32 (v := (-1)) (D d24_31) rfl rfl ?_
    refine go_ireturn hret hlk rfl (by simp) (D d24_32) (by decide) (by decide) ⟨_, rfl, (Or.inr (⟨rfl, rfl, cz1⟩))⟩ (Keep.refl h0 [])
theorem c_idxl1 (G : GH Z a0) (t : Addr) (k : ClassId) (b0 : Int32) (h0 : Heap) (O0 : Old Z Z.heap.size h0) (p1 : Arv Z h0 t k (.byte) (1 : Int32) [(.int b0)] (.int 0)) : Con false [] l Z (⟨"java/lang/StringLatin1", "indexOf", "([BIII)I"⟩ : MethodName) jdk_43_method_22_code 4 (some .int) [] (rm4 1 0 0 17) #[(.ref t), (.int 46), (.int 0), (.int 1)] h0 [] (rvl (Q_idxl1 Z t k b0 h0)) := by
  refine conN G (plainFor_of_name pn2) O0 (fun m => ef14 m t (46 : Int32) (0 : Int32) (1 : Int32)) ?_
  intro _ _ _ m_ _ _ _ D hml hret hlk hnm
  refine go_iload_n 1 (D d21_0) rfl rfl ?_
  refine callS0 (cells' := 0) (slots' := 0) (Wd := 0) (argsL := [(.int 46)]) (rest := []) (pay_of (a0 := a0) (c_canenc46 l G  h0 O0 ) (wk G 72) (wk G 68)) (wk G 70) (wk G 71) (wk G 68) (wk G 72) pd11 (by rw [hml]; rfl) all0 sf00 (D d21_1) (k_v 4 rfl ?_)
  rintro _ h1 ⟨rfl, rfl⟩ K2
  refine go_ifT 9 (D d21_4) (by decide) rfl (by decide) ?_
  refine go_iload_n 10 (D d21_9) rfl rfl ?_
  refine go_iconst 11 (v := 0) (D d21_10) rfl rfl ?_
  refine callS0 (cells' := 0) (slots' := 0) (Wd := 0) (argsL := [(.int 0), (.int 0)]) (rest := []) (pay_of (a0 := a0) (c_max0_0 l G  h0 O0 ) (wk G 76) (wk G 75)) (wk G 73) (wk G 74) (wk G 75) (wk G 76) pd12 (by rw [hml]; rfl) all0 sf00 (D d21_11) (k_v 14 rfl ?_)
  rintro _ h3 ⟨rfl, rfl⟩ K4
  refine go_istore_n 15 (ls' := #[vr t, vi 46, vi 0, vi 1]) (D d21_14) rfl rfl ?_
  refine go_iload_n 16 (D d21_15) rfl rfl ?_
  refine go_aload_n 17 (D d21_16) rfl rfl rfl ?_
  refine go_arraylength 18 p1 (D d21_17) rfl ?_
  refine callS0 (cells' := 0) (slots' := 0) (Wd := 0) (argsL := [(.int 1), (.int 1)]) (rest := []) (pay_of (a0 := a0) (c_min1_1 l G  h0 O0 ) (wk G 79) (wk G 75)) (wk G 77) (wk G 78) (wk G 75) (wk G 79) pd12 (by rw [hml]; rfl) all0 sf00 (D d21_18) (k_v 21 rfl ?_)
  rintro _ h5 ⟨rfl, rfl⟩ K6
  refine go_istore_n 22 (ls' := #[vr t, vi 46, vi 0, vi 1]) (D d21_21) rfl rfl ?_
  refine go_iload_n 23 (D d21_22) rfl rfl ?_
  refine go_iload_n 24 (D d21_23) rfl rfl ?_
  refine go_icT 29 (D d21_24) (by decide) rfl (by decide) ?_
  refine go_aload_n 30 (D d21_29) rfl rfl rfl ?_
  refine go_iload_n 31 (D d21_30) rfl rfl ?_
  refine go_iload_n 32 (D d21_31) rfl rfl ?_
  refine go_iload_n 33 (D d21_32) rfl rfl ?_
  refine callS0 (cells' := 0) (slots' := 0) (Wd := 0) (argsL := [(.ref t), (.int 46), (.int 0), (.int 1)]) (rest := []) (pay_of (a0 := a0) (c_idxc1 l G t k b0 h0 O0 p1) (wk G 94) (wk G 68)) (wk G 92) (wk G 93) (wk G 68) (wk G 94) pd13 (by rw [hml]; rfl) all0 sf00 (D d21_33) (k_v 36 rfl ?_)
  rintro _ h7 (⟨rfl, rfl, f9⟩ | ⟨rfl, rfl, f10⟩) K8
  · refine go_ireturn hret hlk rfl (by simp) (D d21_36) (by decide) (by decide) ⟨_, rfl, (Or.inl ⟨rfl, rfl, f9⟩)⟩ (Keep.refl h0 [])
  · refine go_ireturn hret hlk rfl (by simp) (D d21_36) (by decide) (by decide) ⟨_, rfl, (Or.inr (⟨rfl, rfl, f10⟩))⟩ (Keep.refl h0 [])
theorem c_idxs1 (G : GH Z a0) (a : Addr) (c0 : Int32) (h0 : Heap) (O0 : Old Z Z.heap.size h0) (p1 : Str Z h0 a [c0]) : Con false [] l Z (⟨"java/lang/String", "indexOf", "(II)I"⟩ : MethodName) jdk_42_method_80_code 3 (some .int) [] (rm4 2 0 0 32) #[(.ref a), (.int 46), (.int 0)] h0 [] (rvl (Q_idxs1 Z a c0 h0)) := by
  refine conN G (plainFor_of_name pn1) O0 (fun m => ef13 m a (46 : Int32) (0 : Int32)) ?_
  intro _ _ _ m_ _ _ _ D hml hret hlk hnm
  refine go_aload_n 1 (D d20_0) rfl rfl rfl ?_
  obtain ⟨t1, k2, E3, F4, F5, A6, B7, L8⟩ := id p1
  refine callV0 (cells' := 0) (slots' := 0) (Wd := 0) (argsL := []) (rest := []) (pay_of (a0 := a0) (c_islatin l G a h0 O0 F5) (wk G 55) (wk G 5)) E3 (wk G 51) (wk G 52) (wk G 54) (wk G 54) (wk G 53) pd9 (by rw [hml]; rfl) all0 sf00 (D d20_1) (k_v 4 rfl ?_)
  rintro _ h9 ⟨rfl, rfl⟩ K10
  refine go_ifF 7 (D d20_4) rfl (by decide) ?_
  refine go_aload_n 8 (D d20_7) rfl rfl rfl ?_
  refine go_getF 11 (wk G 36) Via.refl F4 (D d20_8) rfl ?_
  refine go_iload_n 12 (D d20_11) rfl rfl ?_
  refine go_iload_n 13 (D d20_12) rfl rfl ?_
  refine go_aload_n 14 (D d20_13) rfl rfl rfl ?_
  refine callV0 (cells' := 0) (slots' := 0) (Wd := 3) (argsL := []) (rest := [(.int 0), (.int 46), (.ref t1)]) (pay_len G O0 (n := (1 : Int32)) p1 rfl (by decide) (by decide)) E3 (wk G 56) (wk G 57) (wk G 59) (wk G 59) (wk G 58) pd10 (by rw [hml]; rfl) all0 sf00 (D d20_14) (k_v 17 rfl ?_)
  rintro _ _ ⟨rfl, rfl⟩ -
  refine callS0 (cells' := 0) (slots' := 0) (Wd := 0) (argsL := [(.ref t1), (.int 46), (.int 0), (.int 1)]) (rest := []) (pay_of (a0 := a0) (c_idxl1 l G t1 k2 ((c0).toInt8.toInt32) h0 O0 A6) (wk G 69) (wk G 68)) (wk G 66) (wk G 67) (wk G 68) (wk G 69) pd13 (by rw [hml]; rfl) all0 sf00 (D d20_17) (k_v 20 rfl ?_)
  rintro _ h11 (⟨rfl, rfl, f13⟩ | ⟨rfl, rfl, f14⟩) K12
  · refine go_goto 36 (D d20_20) (by decide) rfl ?_
    refine go_ireturn hret hlk rfl (by simp) (D d20_36) (by decide) (by decide) ⟨_, rfl, (Or.inl ⟨rfl, rfl, ((b46 (by obtain ⟨_, _, _, _, _, _, q, _⟩ := id p1; exact q _ (by simp) : C8 c0)).mp f13)⟩)⟩ (Keep.refl h0 [])
  · refine go_goto 36 (D d20_20) (by decide) rfl ?_
    refine go_ireturn hret hlk rfl (by simp) (D d20_36) (by decide) (by decide) ⟨_, rfl, (Or.inr (⟨rfl, rfl, (fun z => f14 ((b46 (by obtain ⟨_, _, _, _, _, _, q, _⟩ := id p1; exact q _ (by simp) : C8 c0)).mpr z))⟩))⟩ (Keep.refl h0 [])
theorem c_idx1 (G : GH Z a0) (a : Addr) (c0 : Int32) (h0 : Heap) (O0 : Old Z Z.heap.size h0) (p1 : Str Z h0 a [c0]) : Con false [] l Z (⟨"java/lang/String", "indexOf", "(I)I"⟩ : MethodName) jdk_42_method_79_code 2 (some .int) [] (rm4 3 0 0 46) #[(.ref a), (.int 46)] h0 [] (rvl (Q_idx1 Z a c0 h0)) := by
  refine conN G (plainFor_of_name pn1) O0 (fun m => ef12 m a (46 : Int32)) ?_
  intro _ _ _ m_ _ _ _ D hml hret hlk hnm
  refine go_aload_n 1 (D d19_0) rfl rfl rfl ?_
  refine go_iload_n 2 (D d19_1) rfl rfl ?_
  refine go_iconst 3 (v := 0) (D d19_2) rfl rfl ?_
  refine callV0 (cells' := 0) (slots' := 0) (Wd := 0) (argsL := [(.int 46), (.int 0)]) (rest := []) (pay_of (a0 := a0) (c_idxs1 l G a c0 h0 O0 p1) (wk G 50) (wk G 5)) p1.exa (wk G 46) (wk G 47) (wk G 49) (wk G 49) (wk G 48) pd12 (by rw [hml]; rfl) all0 sf00 (D d19_3) (k_v 6 rfl ?_)
  rintro _ h1 (⟨rfl, rfl, f3⟩ | ⟨rfl, rfl, f4⟩) K2
  · refine go_ireturn hret hlk rfl (by simp) (D d19_6) (by decide) (by decide) ⟨_, rfl, (Or.inl ⟨rfl, rfl, f3⟩)⟩ (Keep.refl h0 [])
  · refine go_ireturn hret hlk rfl (by simp) (D d19_6) (by decide) (by decide) ⟨_, rfl, (Or.inr (⟨rfl, rfl, f4⟩))⟩ (Keep.refl h0 [])
theorem ef16 (m : MethodId) (v0 : Addr) (v1 v2 : Int32) : entryFrame m #[(.ref v0), (.int v1), (.int v2)] 5 = mkF m 0 #[.val (.ref v0), .val (.int v1), .val (.int v2), .unset, .unset] [] := by first | (simp [entryFrame, mkF, argsToLocals, Value.category]; done) | rfl
def Q_sub0_0_1 (Z : State) (a : Addr) (c0 : Int32) (h0 : Heap) (xv : Value) (h : Heap) : Prop := ∃ (r : Addr), (.ref r) = xv ∧ Str Z h r []
def Q_news0_0_1 (Z : State) (t : Addr) (k : ClassId) (c0 : Int32) (h0 : Heap) (xv : Value) (h : Heap) : Prop := ∃ (r : Addr), (.ref r) = xv ∧ Str Z h r []
theorem c_news0_0_1 (G : GH Z a0) (t : Addr) (k : ClassId) (c0 : Int32) (h0 : Heap) (O0 : Old Z Z.heap.size h0) (p1 : Arv Z h0 t k (.byte) (1 : Int32) [(.int (c0).toInt8.toInt32)] (.int 0)) (p2 : C8 c0) : Con true EL1 l Z (⟨"java/lang/StringLatin1", "newString", "([BII)Ljava/lang/String;"⟩ : MethodName) jdk_43_method_47_code 3 (some (.object "java/lang/String")) [] (rm4 0 2 4 0) #[(.ref t), (.int 0), (.int 0)] h0 [] (rvl (Q_news0_0_1 Z t k c0 h0)) := by
  refine conW G (plainFor_of_name pn2) O0 (fun m => ef13 m t (0 : Int32) (0 : Int32)) ?_
  intro _ _ _ m_ _ _ _ D hml hret hlk hnm
  refine go_iload_n 1 (D d26_0) rfl rfl ?_
  refine go_ifF 4 (D d26_1) rfl (by decide) ?_
  refine go_ldcH 6 (cells' := 2) (slots' := 4) (n := 0) (vs := (([] : List Int32).map fun c => c.toInt8.toInt32).map Value.int) (z := (0 : Int32)) rfl (by decide) (wk G 111) (wS G) (by decide +kernel) (by decide) (by decide) (by decide) (by decide) (D d26_4) rfl rfl rfl (by decide) (by decide) (fun h1 a2 t4 k5 X3 E6 F7 F8 A9 => ?_)
  have S10 : Str Z h1 a2 [] := ⟨t4, k5, E6, F8, F7, A9, by decide, by decide⟩
  have K11 : Keep h0 h1 [] := ((Keep.refl h0 []).ext X3)
  refine go_areturn hret hlk rfl rfl (D d26_6) (by decide) (by decide) ⟨_, rfl, ⟨a2, rfl, S10⟩⟩ K11
theorem c_sub0_0_1 (G : GH Z a0) (a : Addr) (c0 : Int32) (h0 : Heap) (O0 : Old Z Z.heap.size h0) (p1 : Str Z h0 a [c0]) : Con true EL1 l Z (⟨"java/lang/String", "substring", "(II)Ljava/lang/String;"⟩ : MethodName) jdk_42_method_92_code 5 (some (.object "java/lang/String")) [] (rm4 2 2 4 29) #[(.ref a), (.int 0), (.int 0)] h0 [] (rvl (Q_sub0_0_1 Z a c0 h0)) := by
  refine conW G (plainFor_of_name pn1) O0 (fun m => ef16 m a (0 : Int32) (0 : Int32)) ?_
  intro _ _ _ m_ _ _ _ D hml hret hlk hnm
  have q1 : C8 c0 := by obtain ⟨_, _, _, _, _, _, q, _⟩ := id p1; exact q _ (by simp)
  refine go_aload_n 1 (D d25_0) rfl rfl rfl ?_
  refine callV0 (cells' := 0) (slots' := 0) (Wd := 0) (argsL := []) (rest := []) (pay_len G O0 (n := (1 : Int32)) p1 rfl (by decide) (by decide)) p1.exa (wk G 56) (wk G 57) (wk G 59) (wk G 59) (wk G 58) pd10 (by rw [hml]; rfl) all0 sf00 (D d25_1) (k_v 4 rfl ?_)
  rintro _ _ ⟨rfl, rfl⟩ -
  refine go_istore_n 5 (ls' := #[vr a, vi 0, vi 0, vi 1, un]) (D d25_4) rfl rfl ?_
  refine go_iload_n 6 (D d25_5) rfl rfl ?_
  refine go_iload_n 7 (D d25_6) rfl rfl ?_
  refine go_iload_n 8 (D d25_7) rfl rfl ?_
  refine callS0 (cells' := 0) (slots' := 0) (Wd := 0) (argsL := [(.int 0), (.int 0), (.int 1)]) (rest := []) (pay_of (a0 := a0) (c_cbbe l G (0 : Int32) (0 : Int32) (1 : Int32) h0 O0 (by decide) (by decide) (by decide)) (wk G 102) (wk G 5)) (wk G 100) (wk G 101) (wk G 5) (wk G 102) pd18 (by rw [hml]; rfl) all0 sf00 (D d25_8) (k_n 11 rfl ?_)
  rintro  h2 rfl K3
  refine go_iload_n 12 (D d25_11) rfl rfl ?_
  refine go_ifF 15 (D d25_12) rfl (by decide) ?_
  refine go_iload_n 16 (D d25_15) rfl rfl ?_
  refine go_iload_n 17 (D d25_16) rfl rfl ?_
  refine go_icT 22 (D d25_17) (by decide) rfl (by decide) ?_
  refine go_iload_n 23 (D d25_22) rfl rfl ?_
  refine go_iload_n 24 (D d25_23) rfl rfl ?_
  refine go_isub 25 (z := (0 : Int32)) (D d25_24) rfl (by decide) ?_
  refine go_istore 27 (ls' := #[vr a, vi 0, vi 0, vi 1, vi 0]) (D d25_25) rfl rfl ?_
  refine go_aload_n 28 (D d25_27) rfl rfl rfl ?_
  obtain ⟨t4, k5, E6, F7, F8, A9, B10, L11⟩ := id p1
  refine callV0 (cells' := 0) (slots' := 0) (Wd := 0) (argsL := []) (rest := []) (pay_of (a0 := a0) (c_islatin l G a h0 O0 F8) (wk G 55) (wk G 5)) E6 (wk G 51) (wk G 52) (wk G 54) (wk G 54) (wk G 53) pd9 (by rw [hml]; rfl) all0 sf00 (D d25_28) (k_v 31 rfl ?_)
  rintro _ h12 ⟨rfl, rfl⟩ K13
  refine go_ifF 34 (D d25_31) rfl (by decide) ?_
  refine go_aload_n 35 (D d25_34) rfl rfl rfl ?_
  refine go_getF 38 (wk G 36) Via.refl F7 (D d25_35) rfl ?_
  refine go_iload_n 39 (D d25_38) rfl rfl ?_
  refine go_iload 41 (D d25_39) rfl rfl ?_
  refine callSW0 rfl (cells' := 2) (slots' := 4) (Wd := 0) (argsL := [(.ref t4), (.int 0), (.int 0)]) (rest := []) (payW_of (a0 := a0) (c_news0_0_1 l G t4 k5 c0 h0 O0 A9 q1) (wk G 110) (wk G 68) (ew1 G)) (wk G 108) (wk G 109) (wk G 68) (wk G 110) pd19 (by rw [hml]; rfl) all0 (D d25_41) (k_v 44 rfl ?_)
  rintro _ h14 ⟨r16, rfl, f17⟩ K15
  refine go_goto 57 (D d25_44) (by decide) rfl ?_
  have K18 : Keep h0 h14 [] := ((Keep.refl h0 []).trans K15 all0)
  refine go_areturn hret hlk rfl rfl (D d25_57) (by decide) (by decide) ⟨_, rfl, ⟨r16, rfl, f17⟩⟩ K18
theorem c_sch1 (G : GH Z a0) (a : Addr) (c0 : Int32) (h0 : Heap) (O0 : Old Z Z.heap.size h0) (p1 : Str Z h0 a [c0]) : Con true EL1 l Z (⟨"com/example/commit_feed/commitfeed/config/SqlNames", "schema", "(Ljava/lang/String;)Ljava/util/Optional;"⟩ : MethodName) prog_9_method_3_code 2 (some (.object "java/util/Optional")) [] (rm4 4 3 5 59) #[(.ref a)] h0 [] (rvl (Q_sch1 Z a c0 h0)) := by
  refine conW G (plainFor_of_name pn8) O0 (fun m => ef11 m a) ?_
  intro _ _ _ m_ _ _ _ D hml hret hlk hnm
  refine go_aload_n 1 (D d18_0) rfl rfl rfl ?_
  refine go_bipush 3 (v := 46) (D d18_1) rfl rfl ?_
  refine callV0 (cells' := 0) (slots' := 0) (Wd := 0) (argsL := [(.int 46)]) (rest := []) (pay_of (a0 := a0) (c_idx1 l G a c0 h0 O0 p1) (wk G 45) (wk G 5)) p1.exa (wk G 41) (wk G 42) (wk G 44) (wk G 44) (wk G 43) pd14 (by rw [hml]; rfl) all0 sf00 (D d18_3) (k_v 6 rfl ?_)
  rintro _ h1 (⟨rfl, rfl, f3⟩ | ⟨rfl, rfl, f4⟩) K2
  · refine go_istore_n 7 (ls' := #[vr a, vi 0]) (D d18_6) rfl rfl ?_
    refine go_iload_n 8 (D d18_7) rfl rfl ?_
    refine go_ifT 17 (D d18_8) (by decide) rfl (by decide) ?_
    refine go_aload_n 18 (D d18_17) rfl rfl rfl ?_
    refine go_iconst 19 (v := 0) (D d18_18) rfl rfl ?_
    refine go_iload_n 20 (D d18_19) rfl rfl ?_
    refine callVW0 rfl (cells' := 2) (slots' := 4) (Wd := 0) (argsL := [(.int 0), (.int 0)]) (rest := []) (payW_of (a0 := a0) (c_sub0_0_1 l G a c0 h0 O0 p1) (wk G 99) (wk G 5) (ew1 G)) p1.exa (wk G 95) (wk G 96) (wk G 98) (wk G 98) (wk G 97) pd20 (by rw [hml]; rfl) all0 (D d18_20) (k_v 23 rfl ?_)
    rintro _ h5 ⟨r7, rfl, f8⟩ K6
    refine go_old (fun O9 => ?_)
    refine callS0 (cells' := 3) (slots' := 5) (Wd := 0) (argsL := [(.ref r7)]) (rest := []) (pay_of (a0 := a0) (c_opof l G r7 h5 O9 ) (wk G 114) (wk G 82)) (wk G 112) (wk G 113) (wk G 82) (wk G 114) pd21 (by rw [hml]; rfl) all0 sf00 (D d18_23) (k_v 26 rfl ?_)
    rintro _ h10 ⟨r12, rfl, f13, f14, f15⟩ K11
    have K16 : Keep h0 h5 [] := ((Keep.refl h0 []).trans K6 all0)
    have K17 : Keep h0 h10 [] := (K16.trans K11 all0)
    have K18 : Keep h5 h10 [] := ((Keep.refl h5 []).trans K11 all0)
    have S19 := (f8.keep K18)
    refine go_areturn hret hlk rfl rfl (D d18_26) (by decide) (by decide) ⟨_, rfl, (Or.inl ⟨r12, r7, rfl, f3, f14, f15, S19⟩)⟩ K17
  · refine go_istore_n 7 (ls' := #[vr a, vi (-1 : Int32)]) (D d18_6) rfl rfl ?_
    refine go_iload_n 8 (D d18_7) rfl rfl ?_
    refine go_ifF 11 (D d18_8) rfl (by decide) ?_
    refine callS0 (cells' := 0) (slots' := 0) (Wd := 0) (argsL := []) (rest := []) (pay_of (a0 := a0) (c_opempty l G  h0 O0 ) (wk G 83) (wk G 82)) (wk G 80) (wk G 81) (wk G 82) (wk G 83) pd15 (by rw [hml]; rfl) all0 sf00 (D d18_11) (k_v 14 rfl ?_)
    rintro _ h20 ⟨rfl, rfl⟩ K21
    refine go_goto 26 (D d18_14) (by decide) rfl ?_
    refine go_areturn hret hlk rfl rfl (D d18_26) (by decide) (by decide) ⟨_, rfl, (Or.inr (⟨rfl, f4⟩))⟩ (Keep.refl h0 [])
def Q_sch2 (Z : State) (a : Addr) (c0 c1 : Int32) (h0 : Heap) (xv : Value) (h : Heap) : Prop := (∃ (r : Addr) (q : Addr), (.ref r) = xv ∧ c0 = (46 : Int32) ∧ Exa Z h r "java/util/Optional" ∧ Fld Z h r "java/util/Optional" "value" "Ljava/lang/Object;" (.ref q) ∧ Str Z h q []) ∨ (∃ (r : Addr) (q : Addr), (.ref r) = xv ∧ ¬ c0 = (46 : Int32) ∧ c1 = (46 : Int32) ∧ Exa Z h r "java/util/Optional" ∧ Fld Z h r "java/util/Optional" "value" "Ljava/lang/Object;" (.ref q) ∧ Str Z h q [c0]) ∨ ((.ref (s_OE Z)) = xv ∧ ¬ c0 = (46 : Int32) ∧ ¬ c1 = (46 : Int32))
def Q_idx2 (Z : State) (a : Addr) (c0 c1 : Int32) (h0 : Heap) (xv : Value) (h : Heap) : Prop := ((.int 0) = xv ∧ h0 = h ∧ c0 = (46 : Int32)) ∨ ((.int 1) = xv ∧ h0 = h ∧ ¬ c0 = (46 : Int32) ∧ c1 = (46 : Int32)) ∨ ((.int (-1)) = xv ∧ h0 = h ∧ ¬ c0 = (46 : Int32) ∧ ¬ c1 = (46 : Int32))
def Q_idxs2 (Z : State) (a : Addr) (c0 c1 : Int32) (h0 : Heap) (xv : Value) (h : Heap) : Prop := ((.int 0) = xv ∧ h0 = h ∧ c0 = (46 : Int32)) ∨ ((.int 1) = xv ∧ h0 = h ∧ ¬ c0 = (46 : Int32) ∧ c1 = (46 : Int32)) ∨ ((.int (-1)) = xv ∧ h0 = h ∧ ¬ c0 = (46 : Int32) ∧ ¬ c1 = (46 : Int32))
def Q_idxl2 (Z : State) (t : Addr) (k : ClassId) (b0 b1 : Int32) (h0 : Heap) (xv : Value) (h : Heap) : Prop := ((.int 0) = xv ∧ h0 = h ∧ b0 = (46 : Int32)) ∨ ((.int 1) = xv ∧ h0 = h ∧ ¬ b0 = (46 : Int32) ∧ b1 = (46 : Int32)) ∨ ((.int (-1)) = xv ∧ h0 = h ∧ ¬ b0 = (46 : Int32) ∧ ¬ b1 = (46 : Int32))
def Q_min2_2 (Z : State)  (h0 : Heap) (xv : Value) (h : Heap) : Prop := (.int 2) = xv ∧ h0 = h
theorem c_min2_2 (G : GH Z a0)   (h0 : Heap) (O0 : Old Z Z.heap.size h0)  : Con false [] l Z (⟨"java/lang/Math", "min", "(II)I"⟩ : MethodName) jdk_29_method_69_code 2 (some .int) [] (rm4 0 0 0 0) #[(.int 2), (.int 2)] h0 [] (rvl (Q_min2_2 Z h0)) := by
  refine conN G (Jvm.Free.JP.mathPlain rfl (by decide)) O0 (fun m => ef7 m (2 : Int32) (2 : Int32)) ?_
  intro _ _ _ m_ _ _ _ D hml hret hlk hnm
  refine go_iload_n 1 (D d23_0) rfl rfl ?_
  refine go_iload_n 2 (D d23_1) rfl rfl ?_
  refine go_icF 5 (D d23_2) rfl (by decide) ?_
  refine go_iload_n 6 (D d23_5) rfl rfl ?_
  refine go_goto 10 (D d23_6) (by decide) rfl ?_
  refine go_ireturn hret hlk rfl (by simp) (D d23_10) (by decide) (by decide) ⟨_, rfl, ⟨rfl, rfl⟩⟩ (Keep.refl h0 [])
def Q_idxc2 (Z : State) (t : Addr) (k : ClassId) (b0 b1 : Int32) (h0 : Heap) (xv : Value) (h : Heap) : Prop := ((.int 0) = xv ∧ h0 = h ∧ b0 = (46 : Int32)) ∨ ((.int 1) = xv ∧ h0 = h ∧ ¬ b0 = (46 : Int32) ∧ b1 = (46 : Int32)) ∨ ((.int (-1)) = xv ∧ h0 = h ∧ ¬ b0 = (46 : Int32) ∧ ¬ b1 = (46 : Int32))
theorem c_idxc2 (G : GH Z a0) (t : Addr) (k : ClassId) (b0 b1 : Int32) (h0 : Heap) (O0 : Old Z Z.heap.size h0) (p1 : Arv Z h0 t k (.byte) (2 : Int32) [(.int b0), (.int b1)] (.int 0)) : Con false [] l Z (⟨"java/lang/StringLatin1", "indexOfChar", "([BIII)I"⟩ : MethodName) jdk_43_method_23_code 6 (some .int) [] (rm4 0 0 0 0) #[(.ref t), (.int 46), (.int 0), (.int 2)] h0 [] (rvl (Q_idxc2 Z t k b0 b1 h0)) := by
  refine conN G (plainFor_of_name pn2) O0 (fun m => ef15 m t (46 : Int32) (0 : Int32) (2 : Int32)) ?_
  intro _ _ _ m_ _ _ _ D hml hret hlk hnm
  refine go_iload_n 1 (D d24_0) rfl rfl ?_
  refine go_i2b 2 (z := (46 : Int32)) (D d24_1) rfl (by decide) ?_
  refine go_istore 4 (ls' := #[vr t, vi 46, vi 0, vi 2, vi 46, un]) (D d24_2) rfl rfl ?_
  refine go_iload_n 5 (D d24_4) rfl rfl ?_
  refine go_istore 7 (ls' := #[vr t, vi 46, vi 0, vi 2, vi 46, vi 0]) (D d24_5) rfl rfl ?_
  refine go_iload 9 (D d24_7) rfl rfl ?_
  refine go_iload_n 10 (D d24_9) rfl rfl ?_
  refine go_icF 13 (D d24_10) rfl (by decide) ?_
  refine go_aload_n 14 (D d24_13) rfl rfl rfl ?_
  refine go_iload 16 (D d24_14) rfl rfl ?_
  refine go_baload 17 (i := 0) (v := (.int b0)) p1 (by decide) (by decide) rfl rfl (D d24_16) rfl ?_
  refine go_iload 19 (D d24_17) rfl rfl ?_
  by_cases cz1 : b0 = (46 : Int32)
  · refine go_icF 22 (D d24_19) rfl (XT.ii_ne_f cz1) ?_
    refine go_iload 24 (D d24_22) rfl rfl ?_
    refine go_ireturn hret hlk rfl (by simp) (D d24_24) (by decide) (by decide) ⟨_, rfl, (Or.inl ⟨rfl, rfl, cz1⟩)⟩ (Keep.refl h0 [])
  · refine go_icT 25 (D d24_19) (by decide) rfl (XT.ii_ne_t cz1) ?_
    refine go_iinc 28 (ls' := #[vr t, vi 46, vi 0, vi 2, vi 46, vi 1]) (y := (1 : Int32)) (D d24_25) rfl rfl rfl rfl ?_
    refine go_goto 7 (D d24_28) (by decide) rfl ?_
    refine go_iload 9 (D d24_7) rfl rfl ?_
    refine go_iload_n 10 (D d24_9) rfl rfl ?_
    refine go_icF 13 (D d24_10) rfl (by decide) ?_
    refine go_aload_n 14 (D d24_13) rfl rfl rfl ?_
    refine go_iload 16 (D d24_14) rfl rfl ?_
    refine go_baload 17 (i := 1) (v := (.int b1)) p1 (by decide) (by decide) rfl rfl (D d24_16) rfl ?_
    refine go_iload 19 (D d24_17) rfl rfl ?_
    by_cases cz2 : b1 = (46 : Int32)
    · refine go_icF 22 (D d24_19) rfl (XT.ii_ne_f cz2) ?_
      refine go_iload 24 (D d24_22) rfl rfl ?_
      refine go_ireturn hret hlk rfl (by simp) (D d24_24) (by decide) (by decide) ⟨_, rfl, (Or.inr (Or.inl ⟨rfl, rfl, cz1, cz2⟩))⟩ (Keep.refl h0 [])
    · refine go_icT 25 (D d24_19) (by decide) rfl (XT.ii_ne_t cz2) ?_
      refine go_iinc 28 (ls' := #[vr t, vi 46, vi 0, vi 2, vi 46, vi 2]) (y := (2 : Int32)) (D d24_25) rfl rfl rfl rfl ?_
      refine go_goto 7 (D d24_28) (by decide) rfl ?_
      refine go_iload 9 (D d24_7) rfl rfl ?_
      refine go_iload_n 10 (D d24_9) rfl rfl ?_
      refine go_icT 31 (D d24_10) (by decide) rfl (by decide) ?_
      refine go_iconst 32 (v := (-1)) (D d24_31) rfl rfl ?_
      refine go_ireturn hret hlk rfl (by simp) (D d24_32) (by decide) (by decide) ⟨_, rfl, (Or.inr (Or.inr (⟨rfl, rfl, cz1, cz2⟩)))⟩ (Keep.refl h0 [])
theorem c_idxl2 (G : GH Z a0) (t : Addr) (k : ClassId) (b0 b1 : Int32) (h0 : Heap) (O0 : Old Z Z.heap.size h0) (p1 : Arv Z h0 t k (.byte) (2 : Int32) [(.int b0), (.int b1)] (.int 0)) : Con false [] l Z (⟨"java/lang/StringLatin1", "indexOf", "([BIII)I"⟩ : MethodName) jdk_43_method_22_code 4 (some .int) [] (rm4 1 0 0 17) #[(.ref t), (.int 46), (.int 0), (.int 2)] h0 [] (rvl (Q_idxl2 Z t k b0 b1 h0)) := by
  refine conN G (plainFor_of_name pn2) O0 (fun m => ef14 m t (46 : Int32) (0 : Int32) (2 : Int32)) ?_
  intro _ _ _ m_ _ _ _ D hml hret hlk hnm
  refine go_iload_n 1 (D d21_0) rfl rfl ?_
  refine callS0 (cells' := 0) (slots' := 0) (Wd := 0) (argsL := [(.int 46)]) (rest := []) (pay_of (a0 := a0) (c_canenc46 l G  h0 O0 ) (wk G 72) (wk G 68)) (wk G 70) (wk G 71) (wk G 68) (wk G 72) pd11 (by rw [hml]; rfl) all0 sf00 (D d21_1) (k_v 4 rfl ?_)
  rintro _ h1 ⟨rfl, rfl⟩ K2
  refine go_ifT 9 (D d21_4) (by decide) rfl (by decide) ?_
  refine go_iload_n 10 (D d21_9) rfl rfl ?_
  refine go_iconst 11 (v := 0) (D d21_10) rfl rfl ?_
  refine callS0 (cells' := 0) (slots' := 0) (Wd := 0) (argsL := [(.int 0), (.int 0)]) (rest := []) (pay_of (a0 := a0) (c_max0_0 l G  h0 O0 ) (wk G 76) (wk G 75)) (wk G 73) (wk G 74) (wk G 75) (wk G 76) pd12 (by rw [hml]; rfl) all0 sf00 (D d21_11) (k_v 14 rfl ?_)
  rintro _ h3 ⟨rfl, rfl⟩ K4
  refine go_istore_n 15 (ls' := #[vr t, vi 46, vi 0, vi 2]) (D d21_14) rfl rfl ?_
  refine go_iload_n 16 (D d21_15) rfl rfl ?_
  refine go_aload_n 17 (D d21_16) rfl rfl rfl ?_
  refine go_arraylength 18 p1 (D d21_17) rfl ?_
  refine callS0 (cells' := 0) (slots' := 0) (Wd := 0) (argsL := [(.int 2), (.int 2)]) (rest := []) (pay_of (a0 := a0) (c_min2_2 l G  h0 O0 ) (wk G 79) (wk G 75)) (wk G 77) (wk G 78) (wk G 75) (wk G 79) pd12 (by rw [hml]; rfl) all0 sf00 (D d21_18) (k_v 21 rfl ?_)
  rintro _ h5 ⟨rfl, rfl⟩ K6
  refine go_istore_n 22 (ls' := #[vr t, vi 46, vi 0, vi 2]) (D d21_21) rfl rfl ?_
  refine go_iload_n 23 (D d21_22) rfl rfl ?_
  refine go_iload_n 24 (D d21_23) rfl rfl ?_
  refine go_icT 29 (D d21_24) (by decide) rfl (by decide) ?_
  refine go_aload_n 30 (D d21_29) rfl rfl rfl ?_
  refine go_iload_n 31 (D d21_30) rfl rfl ?_
  refine go_iload_n 32 (D d21_31) rfl rfl ?_
  refine go_iload_n 33 (D d21_32) rfl rfl ?_
  refine callS0 (cells' := 0) (slots' := 0) (Wd := 0) (argsL := [(.ref t), (.int 46), (.int 0), (.int 2)]) (rest := []) (pay_of (a0 := a0) (c_idxc2 l G t k b0 b1 h0 O0 p1) (wk G 94) (wk G 68)) (wk G 92) (wk G 93) (wk G 68) (wk G 94) pd13 (by rw [hml]; rfl) all0 sf00 (D d21_33) (k_v 36 rfl ?_)
  rintro _ h7 (⟨rfl, rfl, f9⟩ | ⟨rfl, rfl, f10, f11⟩ | ⟨rfl, rfl, f12, f13⟩) K8
  · refine go_ireturn hret hlk rfl (by simp) (D d21_36) (by decide) (by decide) ⟨_, rfl, (Or.inl ⟨rfl, rfl, f9⟩)⟩ (Keep.refl h0 [])
  · refine go_ireturn hret hlk rfl (by simp) (D d21_36) (by decide) (by decide) ⟨_, rfl, (Or.inr (Or.inl ⟨rfl, rfl, f10, f11⟩))⟩ (Keep.refl h0 [])
  · refine go_ireturn hret hlk rfl (by simp) (D d21_36) (by decide) (by decide) ⟨_, rfl, (Or.inr (Or.inr (⟨rfl, rfl, f12, f13⟩)))⟩ (Keep.refl h0 [])
theorem c_idxs2 (G : GH Z a0) (a : Addr) (c0 c1 : Int32) (h0 : Heap) (O0 : Old Z Z.heap.size h0) (p1 : Str Z h0 a [c0, c1]) : Con false [] l Z (⟨"java/lang/String", "indexOf", "(II)I"⟩ : MethodName) jdk_42_method_80_code 3 (some .int) [] (rm4 2 0 0 32) #[(.ref a), (.int 46), (.int 0)] h0 [] (rvl (Q_idxs2 Z a c0 c1 h0)) := by
  refine conN G (plainFor_of_name pn1) O0 (fun m => ef13 m a (46 : Int32) (0 : Int32)) ?_
  intro _ _ _ m_ _ _ _ D hml hret hlk hnm
  refine go_aload_n 1 (D d20_0) rfl rfl rfl ?_
  obtain ⟨t1, k2, E3, F4, F5, A6, B7, L8⟩ := id p1
  refine callV0 (cells' := 0) (slots' := 0) (Wd := 0) (argsL := []) (rest := []) (pay_of (a0 := a0) (c_islatin l G a h0 O0 F5) (wk G 55) (wk G 5)) E3 (wk G 51) (wk G 52) (wk G 54) (wk G 54) (wk G 53) pd9 (by rw [hml]; rfl) all0 sf00 (D d20_1) (k_v 4 rfl ?_)
  rintro _ h9 ⟨rfl, rfl⟩ K10
  refine go_ifF 7 (D d20_4) rfl (by decide) ?_
  refine go_aload_n 8 (D d20_7) rfl rfl rfl ?_
  refine go_getF 11 (wk G 36) Via.refl F4 (D d20_8) rfl ?_
  refine go_iload_n 12 (D d20_11) rfl rfl ?_
  refine go_iload_n 13 (D d20_12) rfl rfl ?_
  refine go_aload_n 14 (D d20_13) rfl rfl rfl ?_
  refine callV0 (cells' := 0) (slots' := 0) (Wd := 3) (argsL := []) (rest := [(.int 0), (.int 46), (.ref t1)]) (pay_len G O0 (n := (2 : Int32)) p1 rfl (by decide) (by decide)) E3 (wk G 56) (wk G 57) (wk G 59) (wk G 59) (wk G 58) pd10 (by rw [hml]; rfl) all0 sf00 (D d20_14) (k_v 17 rfl ?_)
  rintro _ _ ⟨rfl, rfl⟩ -
  refine callS0 (cells' := 0) (slots' := 0) (Wd := 0) (argsL := [(.ref t1), (.int 46), (.int 0), (.int 2)]) (rest := []) (pay_of (a0 := a0) (c_idxl2 l G t1 k2 ((c0).toInt8.toInt32) ((c1).toInt8.toInt32) h0 O0 A6) (wk G 69) (wk G 68)) (wk G 66) (wk G 67) (wk G 68) (wk G 69) pd13 (by rw [hml]; rfl) all0 sf00 (D d20_17) (k_v 20 rfl ?_)
  rintro _ h11 (⟨rfl, rfl, f13⟩ | ⟨rfl, rfl, f14, f15⟩ | ⟨rfl, rfl, f16, f17⟩) K12
  · refine go_goto 36 (D d20_20) (by decide) rfl ?_
    refine go_ireturn hret hlk rfl (by simp) (D d20_36) (by decide) (by decide) ⟨_, rfl, (Or.inl ⟨rfl, rfl, ((b46 (by obtain ⟨_, _, _, _, _, _, q, _⟩ := id p1; exact q _ (by simp) : C8 c0)).mp f13)⟩)⟩ (Keep.refl h0 [])
  · refine go_goto 36 (D d20_20) (by decide) rfl ?_
    refine go_ireturn hret hlk rfl (by simp) (D d20_36) (by decide) (by decide) ⟨_, rfl, (Or.inr (Or.inl ⟨rfl, rfl, (fun z => f14 ((b46 (by obtain ⟨_, _, _, _, _, _, q, _⟩ := id p1; exact q _ (by simp) : C8 c0)).mpr z)), ((b46 (by obtain ⟨_, _, _, _, _, _, q, _⟩ := id p1; exact q _ (by simp) : C8 c1)).mp f15)⟩))⟩ (Keep.refl h0 [])
  · refine go_goto 36 (D d20_20) (by decide) rfl ?_
    refine go_ireturn hret hlk rfl (by simp) (D d20_36) (by decide) (by decide) ⟨_, rfl, (Or.inr (Or.inr (⟨rfl, rfl, (fun z => f16 ((b46 (by obtain ⟨_, _, _, _, _, _, q, _⟩ := id p1; exact q _ (by simp) : C8 c0)).mpr z)), (fun z => f17 ((b46 (by obtain ⟨_, _, _, _, _, _, q, _⟩ := id p1; exact q _ (by simp) : C8 c1)).mpr z))⟩)))⟩ (Keep.refl h0 [])
theorem c_idx2 (G : GH Z a0) (a : Addr) (c0 c1 : Int32) (h0 : Heap) (O0 : Old Z Z.heap.size h0) (p1 : Str Z h0 a [c0, c1]) : Con false [] l Z (⟨"java/lang/String", "indexOf", "(I)I"⟩ : MethodName) jdk_42_method_79_code 2 (some .int) [] (rm4 3 0 0 46) #[(.ref a), (.int 46)] h0 [] (rvl (Q_idx2 Z a c0 c1 h0)) := by
  refine conN G (plainFor_of_name pn1) O0 (fun m => ef12 m a (46 : Int32)) ?_
  intro _ _ _ m_ _ _ _ D hml hret hlk hnm
  refine go_aload_n 1 (D d19_0) rfl rfl rfl ?_
  refine go_iload_n 2 (D d19_1) rfl rfl ?_
  refine go_iconst 3 (v := 0) (D d19_2) rfl rfl ?_
  refine callV0 (cells' := 0) (slots' := 0) (Wd := 0) (argsL := [(.int 46), (.int 0)]) (rest := []) (pay_of (a0 := a0) (c_idxs2 l G a c0 c1 h0 O0 p1) (wk G 50) (wk G 5)) p1.exa (wk G 46) (wk G 47) (wk G 49) (wk G 49) (wk G 48) pd12 (by rw [hml]; rfl) all0 sf00 (D d19_3) (k_v 6 rfl ?_)
  rintro _ h1 (⟨rfl, rfl, f3⟩ | ⟨rfl, rfl, f4, f5⟩ | ⟨rfl, rfl, f6, f7⟩) K2
  · refine go_ireturn hret hlk rfl (by simp) (D d19_6) (by decide) (by decide) ⟨_, rfl, (Or.inl ⟨rfl, rfl, f3⟩)⟩ (Keep.refl h0 [])
  · refine go_ireturn hret hlk rfl (by simp) (D d19_6) (by decide) (by decide) ⟨_, rfl, (Or.inr (Or.inl ⟨rfl, rfl, f4, f5⟩))⟩ (Keep.refl h0 [])
  · refine go_ireturn hret hlk rfl (by simp) (D d19_6) (by decide) (by decide) ⟨_, rfl, (Or.inr (Or.inr (⟨rfl, rfl, f6, f7⟩)))⟩ (Keep.refl h0 [])
def Q_sub0_0_2 (Z : State) (a : Addr) (c0 c1 : Int32) (h0 : Heap) (xv : Value) (h : Heap) : Prop := ∃ (r : Addr), (.ref r) = xv ∧ Str Z h r []
def Q_news0_0_2 (Z : State) (t : Addr) (k : ClassId) (c0 c1 : Int32) (h0 : Heap) (xv : Value) (h : Heap) : Prop := ∃ (r : Addr), (.ref r) = xv ∧ Str Z h r []
theorem c_news0_0_2 (G : GH Z a0) (t : Addr) (k : ClassId) (c0 c1 : Int32) (h0 : Heap) (O0 : Old Z Z.heap.size h0) (p1 : Arv Z h0 t k (.byte) (2 : Int32) [(.int (c0).toInt8.toInt32), (.int (c1).toInt8.toInt32)] (.int 0)) (p2 : C8 c0) (p3 : C8 c1) : Con true EL1 l Z (⟨"java/lang/StringLatin1", "newString", "([BII)Ljava/lang/String;"⟩ : MethodName) jdk_43_method_47_code 3 (some (.object "java/lang/String")) [] (rm4 0 2 4 0) #[(.ref t), (.int 0), (.int 0)] h0 [] (rvl (Q_news0_0_2 Z t k c0 c1 h0)) := by
  refine conW G (plainFor_of_name pn2) O0 (fun m => ef13 m t (0 : Int32) (0 : Int32)) ?_
  intro _ _ _ m_ _ _ _ D hml hret hlk hnm
  refine go_iload_n 1 (D d26_0) rfl rfl ?_
  refine go_ifF 4 (D d26_1) rfl (by decide) ?_
  refine go_ldcH 6 (cells' := 2) (slots' := 4) (n := 0) (vs := (([] : List Int32).map fun c => c.toInt8.toInt32).map Value.int) (z := (0 : Int32)) rfl (by decide) (wk G 111) (wS G) (by decide +kernel) (by decide) (by decide) (by decide) (by decide) (D d26_4) rfl rfl rfl (by decide) (by decide) (fun h1 a2 t4 k5 X3 E6 F7 F8 A9 => ?_)
  have S10 : Str Z h1 a2 [] := ⟨t4, k5, E6, F8, F7, A9, by decide, by decide⟩
  have K11 : Keep h0 h1 [] := ((Keep.refl h0 []).ext X3)
  refine go_areturn hret hlk rfl rfl (D d26_6) (by decide) (by decide) ⟨_, rfl, ⟨a2, rfl, S10⟩⟩ K11
theorem c_sub0_0_2 (G : GH Z a0) (a : Addr) (c0 c1 : Int32) (h0 : Heap) (O0 : Old Z Z.heap.size h0) (p1 : Str Z h0 a [c0, c1]) : Con true EL1 l Z (⟨"java/lang/String", "substring", "(II)Ljava/lang/String;"⟩ : MethodName) jdk_42_method_92_code 5 (some (.object "java/lang/String")) [] (rm4 2 2 4 29) #[(.ref a), (.int 0), (.int 0)] h0 [] (rvl (Q_sub0_0_2 Z a c0 c1 h0)) := by
  refine conW G (plainFor_of_name pn1) O0 (fun m => ef16 m a (0 : Int32) (0 : Int32)) ?_
  intro _ _ _ m_ _ _ _ D hml hret hlk hnm
  have q1 : C8 c0 := by obtain ⟨_, _, _, _, _, _, q, _⟩ := id p1; exact q _ (by simp)
  have q2 : C8 c1 := by obtain ⟨_, _, _, _, _, _, q, _⟩ := id p1; exact q _ (by simp)
  refine go_aload_n 1 (D d25_0) rfl rfl rfl ?_
  refine callV0 (cells' := 0) (slots' := 0) (Wd := 0) (argsL := []) (rest := []) (pay_len G O0 (n := (2 : Int32)) p1 rfl (by decide) (by decide)) p1.exa (wk G 56) (wk G 57) (wk G 59) (wk G 59) (wk G 58) pd10 (by rw [hml]; rfl) all0 sf00 (D d25_1) (k_v 4 rfl ?_)
  rintro _ _ ⟨rfl, rfl⟩ -
  refine go_istore_n 5 (ls' := #[vr a, vi 0, vi 0, vi 2, un]) (D d25_4) rfl rfl ?_
  refine go_iload_n 6 (D d25_5) rfl rfl ?_
  refine go_iload_n 7 (D d25_6) rfl rfl ?_
  refine go_iload_n 8 (D d25_7) rfl rfl ?_
  refine callS0 (cells' := 0) (slots' := 0) (Wd := 0) (argsL := [(.int 0), (.int 0), (.int 2)]) (rest := []) (pay_of (a0 := a0) (c_cbbe l G (0 : Int32) (0 : Int32) (2 : Int32) h0 O0 (by decide) (by decide) (by decide)) (wk G 102) (wk G 5)) (wk G 100) (wk G 101) (wk G 5) (wk G 102) pd18 (by rw [hml]; rfl) all0 sf00 (D d25_8) (k_n 11 rfl ?_)
  rintro  h3 rfl K4
  refine go_iload_n 12 (D d25_11) rfl rfl ?_
  refine go_ifF 15 (D d25_12) rfl (by decide) ?_
  refine go_iload_n 16 (D d25_15) rfl rfl ?_
  refine go_iload_n 17 (D d25_16) rfl rfl ?_
  refine go_icT 22 (D d25_17) (by decide) rfl (by decide) ?_
  refine go_iload_n 23 (D d25_22) rfl rfl ?_
  refine go_iload_n 24 (D d25_23) rfl rfl ?_
  refine go_isub 25 (z := (0 : Int32)) (D d25_24) rfl (by decide) ?_
  refine go_istore 27 (ls' := #[vr a, vi 0, vi 0, vi 2, vi 0]) (D d25_25) rfl rfl ?_
  refine go_aload_n 28 (D d25_27) rfl rfl rfl ?_
  obtain ⟨t5, k6, E7, F8, F9, A10, B11, L12⟩ := id p1
  refine callV0 (cells' := 0) (slots' := 0) (Wd := 0) (argsL := []) (rest := []) (pay_of (a0 := a0) (c_islatin l G a h0 O0 F9) (wk G 55) (wk G 5)) E7 (wk G 51) (wk G 52) (wk G 54) (wk G 54) (wk G 53) pd9 (by rw [hml]; rfl) all0 sf00 (D d25_28) (k_v 31 rfl ?_)
  rintro _ h13 ⟨rfl, rfl⟩ K14
  refine go_ifF 34 (D d25_31) rfl (by decide) ?_
  refine go_aload_n 35 (D d25_34) rfl rfl rfl ?_
  refine go_getF 38 (wk G 36) Via.refl F8 (D d25_35) rfl ?_
  refine go_iload_n 39 (D d25_38) rfl rfl ?_
  refine go_iload 41 (D d25_39) rfl rfl ?_
  refine callSW0 rfl (cells' := 2) (slots' := 4) (Wd := 0) (argsL := [(.ref t5), (.int 0), (.int 0)]) (rest := []) (payW_of (a0 := a0) (c_news0_0_2 l G t5 k6 c0 c1 h0 O0 A10 q1 q2) (wk G 110) (wk G 68) (ew1 G)) (wk G 108) (wk G 109) (wk G 68) (wk G 110) pd19 (by rw [hml]; rfl) all0 (D d25_41) (k_v 44 rfl ?_)
  rintro _ h15 ⟨r17, rfl, f18⟩ K16
  refine go_goto 57 (D d25_44) (by decide) rfl ?_
  have K19 : Keep h0 h15 [] := ((Keep.refl h0 []).trans K16 all0)
  refine go_areturn hret hlk rfl rfl (D d25_57) (by decide) (by decide) ⟨_, rfl, ⟨r17, rfl, f18⟩⟩ K19
def Q_sub0_1_2 (Z : State) (a : Addr) (c0 c1 : Int32) (h0 : Heap) (xv : Value) (h : Heap) : Prop := ∃ (r : Addr), (.ref r) = xv ∧ Str Z h r [c0]
def Q_news0_1_2 (Z : State) (t : Addr) (k : ClassId) (c0 c1 : Int32) (h0 : Heap) (xv : Value) (h : Heap) : Prop := ∃ (r : Addr), (.ref r) = xv ∧ Str Z h r [c0]
def Q_cor0_1_2 (Z : State) (t : Addr) (k : ClassId) (b0 b1 : Int32) (h0 : Heap) (xv : Value) (h : Heap) : Prop := ∃ (r : Addr) (k2 : ClassId), (.ref r) = xv ∧ h0.size ≤ r ∧ Arv Z h r k2 (.byte) (1 : Int32) [(.int b0)] (.int 0)
def Q_corb0_1_2 (Z : State) (t : Addr) (k : ClassId) (b0 b1 : Int32) (h0 : Heap) (xv : Value) (h : Heap) : Prop := ∃ (r : Addr) (k2 : ClassId), (.ref r) = xv ∧ h0.size ≤ r ∧ Arv Z h r k2 (.byte) (1 : Int32) [(.int b0)] (.int 0)
def Q_min2_1 (Z : State)  (h0 : Heap) (xv : Value) (h : Heap) : Prop := (.int 1) = xv ∧ h0 = h
theorem c_min2_1 (G : GH Z a0)   (h0 : Heap) (O0 : Old Z Z.heap.size h0)  : Con false [] l Z (⟨"java/lang/Math", "min", "(II)I"⟩ : MethodName) jdk_29_method_69_code 2 (some .int) [] (rm4 0 0 0 0) #[(.int 2), (.int 1)] h0 [] (rvl (Q_min2_1 Z h0)) := by
  refine conN G (Jvm.Free.JP.mathPlain rfl (by decide)) O0 (fun m => ef7 m (2 : Int32) (1 : Int32)) ?_
  intro _ _ _ m_ _ _ _ D hml hret hlk hnm
  refine go_iload_n 1 (D d23_0) rfl rfl ?_
  refine go_iload_n 2 (D d23_1) rfl rfl ?_
  refine go_icT 9 (D d23_2) (by decide) rfl (by decide) ?_
  refine go_iload_n 10 (D d23_9) rfl rfl ?_
  refine go_ireturn hret hlk rfl (by simp) (D d23_10) (by decide) (by decide) ⟨_, rfl, ⟨rfl, rfl⟩⟩ (Keep.refl h0 [])
theorem c_corb0_1_2 (G : GH Z a0) (t : Addr) (k : ClassId) (b0 b1 : Int32) (h0 : Heap) (O0 : Old Z Z.heap.size h0) (p1 : Arv Z h0 t k (.byte) (2 : Int32) [(.int b0), (.int b1)] (.int 0)) : Con false [] l Z (⟨"java/util/Arrays", "copyOfRangeByte", "([BII)[B"⟩ : MethodName) jdk_65_method_133_code 5 (some (.array .byte)) [] (rm4 1 1 1 18) #[(.ref t), (.int 0), (.int 1)] h0 [] (rvl (Q_corb0_1_2 Z t k b0 b1 h0)) := by
  refine conN G (plainFor_of_name pn4) O0 (fun m => ef16 m t (0 : Int32) (1 : Int32)) ?_
  intro _ _ _ m_ _ _ _ D hml hret hlk hnm
  refine go_iload_n 1 (D d28_0) rfl rfl ?_
  refine go_iload_n 2 (D d28_1) rfl rfl ?_
  refine callS0 (cells' := 0) (slots' := 0) (Wd := 0) (argsL := [(.int 0), (.int 1)]) (rest := []) (pay_of (a0 := a0) (c_chkl l G (0 : Int32) (1 : Int32) h0 O0 (by decide)) (wk G 159) (wk G 152)) (wk G 157) (wk G 158) (wk G 152) (wk G 159) pd24 (by rw [hml]; rfl) all0 sf00 (D d28_2) (k_n 5 rfl ?_)
  rintro  h1 rfl K2
  refine go_iload_n 6 (D d28_5) rfl rfl ?_
  refine go_iload_n 7 (D d28_6) rfl rfl ?_
  refine go_isub 8 (z := (1 : Int32)) (D d28_7) rfl (by decide) ?_
  refine go_istore_n 9 (ls' := #[vr t, vi 0, vi 1, vi 1, un]) (D d28_8) rfl rfl ?_
  refine go_iload_n 10 (D d28_9) rfl rfl ?_
  refine go_newP 12 (cells' := 1) (slots' := 1) (cap := 1) (vs := [(.int 0)]) (ty := .byte) (dv := .int 0) (wk G 7) rfl rfl (D d28_10) rfl (by decide) rfl (by decide) rfl rfl rfl (by decide) (by decide) (fun h3 a4 k8 g5 X6 A7 => ?_)
  refine go_astore 14 (ls' := #[vr t, vi 0, vi 1, vi 1, vr a4]) (D d28_12) rfl rfl rfl ?_
  refine go_aload_n 15 (D d28_14) rfl rfl rfl ?_
  refine go_iload_n 16 (D d28_15) rfl rfl ?_
  refine go_aload 18 (D d28_16) rfl rfl rfl ?_
  refine go_iconst 19 (v := 0) (D d28_18) rfl rfl ?_
  refine go_aload_n 20 (D d28_19) rfl rfl rfl ?_
  have K9 : Keep h0 h3 [] := ((Keep.refl h0 []).ext X6)
  have A10 := (p1.keep K9 nin0)
  refine go_arraylength 21 A10 (D d28_20) rfl ?_
  refine go_iload_n 22 (D d28_21) rfl rfl ?_
  refine go_isub 23 (z := (2 : Int32)) (D d28_22) rfl (by decide) ?_
  refine go_iload_n 24 (D d28_23) rfl rfl ?_
  refine go_old (fun O11 => ?_)
  refine callS0 (cells' := 1) (slots' := 1) (Wd := 4) (argsL := [(.int 2), (.int 1)]) (rest := [(.int 0), (.ref a4), (.int 0), (.ref t)]) (pay_of (a0 := a0) (c_min2_1 l G  h3 O11 ) (wk G 79) (wk G 75)) (wk G 160) (wk G 78) (wk G 75) (wk G 79) pd12 (by rw [hml]; rfl) all0 sf00 (D d28_24) (k_v 27 rfl ?_)
  rintro _ h12 ⟨rfl, rfl⟩ K13
  refine go_acopy 30 (Wd := 0) (vd' := [(.int b0)]) (wk G 161) (wk G 164) (wk G 162) (wk G 163) rfl A10 A7 rfl (by decide) (by decide) (by decide) (nb rfl) (nb rfl) (nb rfl) (Nat.le_trans O0.2.1 (Nat.le_of_eq g5)) rfl (by rw [hml]; rfl) (by decide) (by decide) (by decide) (D d28_27) rfl (fun h14 K15 A16 => ?_)
  refine go_aload 32 (D d28_30) rfl rfl rfl ?_
  have K17 : Keep h0 h14 [] := (K9.trans K15 (allS (Or.inr (Nat.le_of_eq g5)) all0))
  refine go_areturn hret hlk rfl rfl (D d28_32) (by decide) (by decide) ⟨_, rfl, ⟨a4, k8, rfl, (Nat.le_of_eq g5), A16⟩⟩ K17
theorem c_cor0_1_2 (G : GH Z a0) (t : Addr) (k : ClassId) (b0 b1 : Int32) (h0 : Heap) (O0 : Old Z Z.heap.size h0) (p1 : Arv Z h0 t k (.byte) (2 : Int32) [(.int b0), (.int b1)] (.int 0)) : Con false [] l Z (⟨"java/util/Arrays", "copyOfRange", "([BII)[B"⟩ : MethodName) jdk_65_method_132_code 3 (some (.array .byte)) [] (rm4 2 1 1 34) #[(.ref t), (.int 0), (.int 1)] h0 [] (rvl (Q_cor0_1_2 Z t k b0 b1 h0)) := by
  refine conN G (plainFor_of_name pn4) O0 (fun m => ef13 m t (0 : Int32) (1 : Int32)) ?_
  intro _ _ _ m_ _ _ _ D hml hret hlk hnm
  refine go_iload_n 1 (D d27_0) rfl rfl ?_
  refine go_ifF 4 (D d27_1) rfl (by decide) ?_
  refine go_iload_n 5 (D d27_4) rfl rfl ?_
  refine go_aload_n 6 (D d27_5) rfl rfl rfl ?_
  refine go_arraylength 7 p1 (D d27_6) rfl ?_
  refine go_icF 10 (D d27_7) rfl (by decide) ?_
  refine go_aload_n 11 (D d27_10) rfl rfl rfl ?_
  refine go_iload_n 12 (D d27_11) rfl rfl ?_
  refine go_iload_n 13 (D d27_12) rfl rfl ?_
  refine callS0 (cells' := 1) (slots' := 1) (Wd := 0) (argsL := [(.ref t), (.int 0), (.int 1)]) (rest := []) (pay_of (a0 := a0) (c_corb0_1_2 l G t k b0 b1 h0 O0 p1) (wk G 156) (wk G 152)) (wk G 154) (wk G 155) (wk G 152) (wk G 156) pd25 (by rw [hml]; rfl) all0 sf00 (D d27_13) (k_v 16 rfl ?_)
  rintro _ h1 ⟨r3, r4, rfl, f5, f6⟩ K2
  have K7 : Keep h0 h1 [] := ((Keep.refl h0 []).trans K2 all0)
  refine go_areturn hret hlk rfl rfl (D d27_16) (by decide) (by decide) ⟨_, rfl, ⟨r3, r4, rfl, f5, f6⟩⟩ K7
theorem c_news0_1_2 (G : GH Z a0) (t : Addr) (k : ClassId) (c0 c1 : Int32) (h0 : Heap) (O0 : Old Z Z.heap.size h0) (p1 : Arv Z h0 t k (.byte) (2 : Int32) [(.int (c0).toInt8.toInt32), (.int (c1).toInt8.toInt32)] (.int 0)) (p2 : C8 c0) (p3 : C8 c1) : Con false [] l Z (⟨"java/lang/StringLatin1", "newString", "([BII)Ljava/lang/String;"⟩ : MethodName) jdk_43_method_47_code 3 (some (.object "java/lang/String")) [] (rm4 3 2 5 50) #[(.ref t), (.int 0), (.int 1)] h0 [] (rvl (Q_news0_1_2 Z t k c0 c1 h0)) := by
  refine conN G (plainFor_of_name pn2) O0 (fun m => ef13 m t (0 : Int32) (1 : Int32)) ?_
  intro _ _ _ m_ _ _ _ D hml hret hlk hnm
  refine go_iload_n 1 (D d26_0) rfl rfl ?_
  refine go_ifT 7 (D d26_1) (by decide) rfl (by decide) ?_
  refine go_newO 10 (cells' := 1) (slots' := 4) (wk G 149) (wk G 6) (wk G 5) (D d26_7) rfl rfl rfl (by decide) (by decide) (fun h1 a2 g3 X4 E5 D6 U7 => ?_)
  refine go_dup 11 (D d26_10) rfl rfl ?_
  refine go_aload_n 12 (D d26_11) rfl rfl rfl ?_
  refine go_iload_n 13 (D d26_12) rfl rfl ?_
  refine go_iload_n 14 (D d26_13) rfl rfl ?_
  refine go_iload_n 15 (D d26_14) rfl rfl ?_
  refine go_iadd 16 (z := (1 : Int32)) (D d26_15) rfl (by decide) ?_
  have K8 : Keep h0 h1 [] := ((Keep.refl h0 []).ext X4)
  have A9 := (p1.keep K8 nin0)
  refine go_old (fun O10 => ?_)
  refine callS0 (cells' := 2) (slots' := 5) (Wd := 2) (argsL := [(.ref t), (.int 0), (.int 1)]) (rest := [(.ref a2), (.ref a2)]) (pay_of (a0 := a0) (c_cor0_1_2 l G t k ((c0).toInt8.toInt32) ((c1).toInt8.toInt32) h1 O10 A9) (wk G 153) (wk G 152)) (wk G 150) (wk G 151) (wk G 152) (wk G 153) pd25 (by rw [hml]; rfl) all0 sf00 (D d26_16) (k_v 19 rfl ?_)
  rintro _ h11 ⟨r13, r14, rfl, f15, f16⟩ K12
  refine go_iconst 20 (v := 0) (D d26_19) rfl rfl ?_
  have K17 : Keep h1 h11 [] := ((Keep.refl h1 []).trans K12 all0)
  have E18 := (E5.keep K17)
  have F19 := D6 (Or.inr (wk G 8)) (ty := (.array .byte)) (by decide)
  have F20 := (F19.keep K17 nin0)
  have F21 := D6 (Or.inr (wk G 9)) (ty := .byte) (by decide)
  have F22 := (F21.keep K17 nin0)
  refine go_old (fun O23 => ?_)
  refine callI0 (cells' := 2) (slots' := 5) (Wd := 1) (argsL := [(.ref r13), (.int 0)]) (rest := [(.ref a2)]) (pay_of (a0 := a0) (c_strbb l G a2 r13 h11 O23 E18 (Nat.le_trans O0.2.1 (Nat.le_of_eq g3)) F20 F22) (wk G 148) (wk G 5)) rfl (wk G 165) (wk G 147) (wk G 148) pd3 (by rw [hml]; rfl) (allS (Nat.le_trans O0.2.1 (Nat.le_of_eq g3)) all0) (fun _ hal => (sfS safe_nil sf0)) (D d26_20) (k_n 23 rfl ?_)
  rintro  h24 ⟨f26, f27⟩ K25
  have K28 : Keep h0 h11 [] := (K8.trans K12 all0)
  have K29 : Keep h0 h24 [] := (K28.trans K25 (allS (Or.inr (Nat.le_of_eq g3)) all0))
  have E30 := (E18.keep K25)
  have A31 := (f16.keep K25 (ninS (Nat.ne_of_gt (Nat.lt_of_lt_of_le E5.lt f15)) nin0))
  have S32 : Str Z h24 a2 [c0] := ⟨r13, r14, E30, f26, f27, A31, (c8c p2 c8n), Nat.le_of_ble_eq_true rfl⟩
  refine go_areturn hret hlk rfl rfl (D d26_23) (by decide) (by decide) ⟨_, rfl, ⟨a2, rfl, S32⟩⟩ K29
theorem c_sub0_1_2 (G : GH Z a0) (a : Addr) (c0 c1 : Int32) (h0 : Heap) (O0 : Old Z Z.heap.size h0) (p1 : Str Z h0 a [c0, c1]) : Con false [] l Z (⟨"java/lang/String", "substring", "(II)Ljava/lang/String;"⟩ : MethodName) jdk_42_method_92_code 5 (some (.object "java/lang/String")) [] (rm4 4 2 5 64) #[(.ref a), (.int 0), (.int 1)] h0 [] (rvl (Q_sub0_1_2 Z a c0 c1 h0)) := by
  refine conN G (plainFor_of_name pn1) O0 (fun m => ef16 m a (0 : Int32) (1 : Int32)) ?_
  intro _ _ _ m_ _ _ _ D hml hret hlk hnm
  have q1 : C8 c0 := by obtain ⟨_, _, _, _, _, _, q, _⟩ := id p1; exact q _ (by simp)
  have q2 : C8 c1 := by obtain ⟨_, _, _, _, _, _, q, _⟩ := id p1; exact q _ (by simp)
  refine go_aload_n 1 (D d25_0) rfl rfl rfl ?_
  refine callV0 (cells' := 0) (slots' := 0) (Wd := 0) (argsL := []) (rest := []) (pay_len G O0 (n := (2 : Int32)) p1 rfl (by decide) (by decide)) p1.exa (wk G 56) (wk G 57) (wk G 59) (wk G 59) (wk G 58) pd10 (by rw [hml]; rfl) all0 sf00 (D d25_1) (k_v 4 rfl ?_)
  rintro _ _ ⟨rfl, rfl⟩ -
  refine go_istore_n 5 (ls' := #[vr a, vi 0, vi 1, vi 2, un]) (D d25_4) rfl rfl ?_
  refine go_iload_n 6 (D d25_5) rfl rfl ?_
  refine go_iload_n 7 (D d25_6) rfl rfl ?_
  refine go_iload_n 8 (D d25_7) rfl rfl ?_
  refine callS0 (cells' := 0) (slots' := 0) (Wd := 0) (argsL := [(.int 0), (.int 1), (.int 2)]) (rest := []) (pay_of (a0 := a0) (c_cbbe l G (0 : Int32) (1 : Int32) (2 : Int32) h0 O0 (by decide) (by decide) (by decide)) (wk G 102) (wk G 5)) (wk G 100) (wk G 101) (wk G 5) (wk G 102) pd18 (by rw [hml]; rfl) all0 sf00 (D d25_8) (k_n 11 rfl ?_)
  rintro  h3 rfl K4
  refine go_iload_n 12 (D d25_11) rfl rfl ?_
  refine go_ifF 15 (D d25_12) rfl (by decide) ?_
  refine go_iload_n 16 (D d25_15) rfl rfl ?_
  refine go_iload_n 17 (D d25_16) rfl rfl ?_
  refine go_icT 22 (D d25_17) (by decide) rfl (by decide) ?_
  refine go_iload_n 23 (D d25_22) rfl rfl ?_
  refine go_iload_n 24 (D d25_23) rfl rfl ?_
  refine go_isub 25 (z := (1 : Int32)) (D d25_24) rfl (by decide) ?_
  refine go_istore 27 (ls' := #[vr a, vi 0, vi 1, vi 2, vi 1]) (D d25_25) rfl rfl ?_
  refine go_aload_n 28 (D d25_27) rfl rfl rfl ?_
  obtain ⟨t5, k6, E7, F8, F9, A10, B11, L12⟩ := id p1
  refine callV0 (cells' := 0) (slots' := 0) (Wd := 0) (argsL := []) (rest := []) (pay_of (a0 := a0) (c_islatin l G a h0 O0 F9) (wk G 55) (wk G 5)) E7 (wk G 51) (wk G 52) (wk G 54) (wk G 54) (wk G 53) pd9 (by rw [hml]; rfl) all0 sf00 (D d25_28) (k_v 31 rfl ?_)
  rintro _ h13 ⟨rfl, rfl⟩ K14
  refine go_ifF 34 (D d25_31) rfl (by decide) ?_
  refine go_aload_n 35 (D d25_34) rfl rfl rfl ?_
  refine go_getF 38 (wk G 36) Via.refl F8 (D d25_35) rfl ?_
  refine go_iload_n 39 (D d25_38) rfl rfl ?_
  refine go_iload 41 (D d25_39) rfl rfl ?_
  refine callS0 (cells' := 2) (slots' := 5) (Wd := 0) (argsL := [(.ref t5), (.int 0), (.int 1)]) (rest := []) (pay_of (a0 := a0) (c_news0_1_2 l G t5 k6 c0 c1 h0 O0 A10 q1 q2) (wk G 110) (wk G 68)) (wk G 108) (wk G 109) (wk G 68) (wk G 110) pd19 (by rw [hml]; rfl) all0 sf00 (D d25_41) (k_v 44 rfl ?_)
  rintro _ h15 ⟨r17, rfl, f18⟩ K16
  refine go_goto 57 (D d25_44) (by decide) rfl ?_
  have K19 : Keep h0 h15 [] := ((Keep.refl h0 []).trans K16 all0)
  refine go_areturn hret hlk rfl rfl (D d25_57) (by decide) (by decide) ⟨_, rfl, ⟨r17, rfl, f18⟩⟩ K19
theorem c_sch2 (G : GH Z a0) (a : Addr) (c0 c1 : Int32) (h0 : Heap) (O0 : Old Z Z.heap.size h0) (p1 : Str Z h0 a [c0, c1]) : Con true EL1 l Z (⟨"com/example/commit_feed/commitfeed/config/SqlNames", "schema", "(Ljava/lang/String;)Ljava/util/Optional;"⟩ : MethodName) prog_9_method_3_code 2 (some (.object "java/util/Optional")) [] (rm4 5 3 6 80) #[(.ref a)] h0 [] (rvl (Q_sch2 Z a c0 c1 h0)) := by
  refine conW G (plainFor_of_name pn8) O0 (fun m => ef11 m a) ?_
  intro _ _ _ m_ _ _ _ D hml hret hlk hnm
  refine go_aload_n 1 (D d18_0) rfl rfl rfl ?_
  refine go_bipush 3 (v := 46) (D d18_1) rfl rfl ?_
  refine callV0 (cells' := 0) (slots' := 0) (Wd := 0) (argsL := [(.int 46)]) (rest := []) (pay_of (a0 := a0) (c_idx2 l G a c0 c1 h0 O0 p1) (wk G 45) (wk G 5)) p1.exa (wk G 41) (wk G 42) (wk G 44) (wk G 44) (wk G 43) pd14 (by rw [hml]; rfl) all0 sf00 (D d18_3) (k_v 6 rfl ?_)
  rintro _ h1 (⟨rfl, rfl, f3⟩ | ⟨rfl, rfl, f4, f5⟩ | ⟨rfl, rfl, f6, f7⟩) K2
  · refine go_istore_n 7 (ls' := #[vr a, vi 0]) (D d18_6) rfl rfl ?_
    refine go_iload_n 8 (D d18_7) rfl rfl ?_
    refine go_ifT 17 (D d18_8) (by decide) rfl (by decide) ?_
    refine go_aload_n 18 (D d18_17) rfl rfl rfl ?_
    refine go_iconst 19 (v := 0) (D d18_18) rfl rfl ?_
    refine go_iload_n 20 (D d18_19) rfl rfl ?_
    refine callVW0 rfl (cells' := 2) (slots' := 4) (Wd := 0) (argsL := [(.int 0), (.int 0)]) (rest := []) (payW_of (a0 := a0) (c_sub0_0_2 l G a c0 c1 h0 O0 p1) (wk G 99) (wk G 5) (ew1 G)) p1.exa (wk G 95) (wk G 96) (wk G 98) (wk G 98) (wk G 97) pd20 (by rw [hml]; rfl) all0 (D d18_20) (k_v 23 rfl ?_)
    rintro _ h8 ⟨r10, rfl, f11⟩ K9
    refine go_old (fun O12 => ?_)
    refine callS0 (cells' := 3) (slots' := 5) (Wd := 0) (argsL := [(.ref r10)]) (rest := []) (pay_of (a0 := a0) (c_opof l G r10 h8 O12 ) (wk G 114) (wk G 82)) (wk G 112) (wk G 113) (wk G 82) (wk G 114) pd21 (by rw [hml]; rfl) all0 sf00 (D d18_23) (k_v 26 rfl ?_)
    rintro _ h13 ⟨r15, rfl, f16, f17, f18⟩ K14
    have K19 : Keep h0 h8 [] := ((Keep.refl h0 []).trans K9 all0)
    have K20 : Keep h0 h13 [] := (K19.trans K14 all0)
    have K21 : Keep h8 h13 [] := ((Keep.refl h8 []).trans K14 all0)
    have S22 := (f11.keep K21)
    refine go_areturn hret hlk rfl rfl (D d18_26) (by decide) (by decide) ⟨_, rfl, (Or.inl ⟨r15, r10, rfl, f3, f17, f18, S22⟩)⟩ K20
  · refine go_istore_n 7 (ls' := #[vr a, vi 1]) (D d18_6) rfl rfl ?_
    refine go_iload_n 8 (D d18_7) rfl rfl ?_
    refine go_ifT 17 (D d18_8) (by decide) rfl (by decide) ?_
    refine go_aload_n 18 (D d18_17) rfl rfl rfl ?_
    refine go_iconst 19 (v := 0) (D d18_18) rfl rfl ?_
    refine go_iload_n 20 (D d18_19) rfl rfl ?_
    refine callV0 (cells' := 2) (slots' := 5) (Wd := 0) (argsL := [(.int 0), (.int 1)]) (rest := []) (pay_of (a0 := a0) (c_sub0_1_2 l G a c0 c1 h0 O0 p1) (wk G 99) (wk G 5)) p1.exa (wk G 95) (wk G 96) (wk G 98) (wk G 98) (wk G 97) pd20 (by rw [hml]; rfl) all0 sf00 (D d18_20) (k_v 23 rfl ?_)
    rintro _ h23 ⟨r25, rfl, f26⟩ K24
    refine go_old (fun O27 => ?_)
    refine callS0 (cells' := 3) (slots' := 6) (Wd := 0) (argsL := [(.ref r25)]) (rest := []) (pay_of (a0 := a0) (c_opof l G r25 h23 O27 ) (wk G 114) (wk G 82)) (wk G 112) (wk G 113) (wk G 82) (wk G 114) pd21 (by rw [hml]; rfl) all0 sf00 (D d18_23) (k_v 26 rfl ?_)
    rintro _ h28 ⟨r30, rfl, f31, f32, f33⟩ K29
    have K34 : Keep h0 h23 [] := ((Keep.refl h0 []).trans K24 all0)
    have K35 : Keep h0 h28 [] := (K34.trans K29 all0)
    have K36 : Keep h23 h28 [] := ((Keep.refl h23 []).trans K29 all0)
    have S37 := (f26.keep K36)
    refine go_areturn hret hlk rfl rfl (D d18_26) (by decide) (by decide) ⟨_, rfl, (Or.inr (Or.inl ⟨r30, r25, rfl, f4, f5, f32, f33, S37⟩))⟩ K35
  · refine go_istore_n 7 (ls' := #[vr a, vi (-1 : Int32)]) (D d18_6) rfl rfl ?_
    refine go_iload_n 8 (D d18_7) rfl rfl ?_
    refine go_ifF 11 (D d18_8) rfl (by decide) ?_
    refine callS0 (cells' := 0) (slots' := 0) (Wd := 0) (argsL := []) (rest := []) (pay_of (a0 := a0) (c_opempty l G  h0 O0 ) (wk G 83) (wk G 82)) (wk G 80) (wk G 81) (wk G 82) (wk G 83) pd15 (by rw [hml]; rfl) all0 sf00 (D d18_11) (k_v 14 rfl ?_)
    rintro _ h38 ⟨rfl, rfl⟩ K39
    refine go_goto 26 (D d18_14) (by decide) rfl ?_
    refine go_areturn hret hlk rfl rfl (D d18_26) (by decide) (by decide) ⟨_, rfl, (Or.inr (Or.inr (⟨rfl, f6, f7⟩)))⟩ (Keep.refl h0 [])
def Q_sch3 (Z : State) (a : Addr) (c0 c1 c2 : Int32) (h0 : Heap) (xv : Value) (h : Heap) : Prop := (∃ (r : Addr) (q : Addr), (.ref r) = xv ∧ c0 = (46 : Int32) ∧ Exa Z h r "java/util/Optional" ∧ Fld Z h r "java/util/Optional" "value" "Ljava/lang/Object;" (.ref q) ∧ Str Z h q []) ∨ (∃ (r : Addr) (q : Addr), (.ref r) = xv ∧ ¬ c0 = (46 : Int32) ∧ c1 = (46 : Int32) ∧ Exa Z h r "java/util/Optional" ∧ Fld Z h r "java/util/Optional" "value" "Ljava/lang/Object;" (.ref q) ∧ Str Z h q [c0]) ∨ (∃ (r : Addr) (q : Addr), (.ref r) = xv ∧ ¬ c0 = (46 : Int32) ∧ ¬ c1 = (46 : Int32) ∧ c2 = (46 : Int32) ∧ Exa Z h r "java/util/Optional" ∧ Fld Z h r "java/util/Optional" "value" "Ljava/lang/Object;" (.ref q) ∧ Str Z h q [c0, c1]) ∨ ((.ref (s_OE Z)) = xv ∧ ¬ c0 = (46 : Int32) ∧ ¬ c1 = (46 : Int32) ∧ ¬ c2 = (46 : Int32))
def Q_idx3 (Z : State) (a : Addr) (c0 c1 c2 : Int32) (h0 : Heap) (xv : Value) (h : Heap) : Prop := ((.int 0) = xv ∧ h0 = h ∧ c0 = (46 : Int32)) ∨ ((.int 1) = xv ∧ h0 = h ∧ ¬ c0 = (46 : Int32) ∧ c1 = (46 : Int32)) ∨ ((.int 2) = xv ∧ h0 = h ∧ ¬ c0 = (46 : Int32) ∧ ¬ c1 = (46 : Int32) ∧ c2 = (46 : Int32)) ∨ ((.int (-1)) = xv ∧ h0 = h ∧ ¬ c0 = (46 : Int32) ∧ ¬ c1 = (46 : Int32) ∧ ¬ c2 = (46 : Int32))
def Q_idxs3 (Z : State) (a : Addr) (c0 c1 c2 : Int32) (h0 : Heap) (xv : Value) (h : Heap) : Prop := ((.int 0) = xv ∧ h0 = h ∧ c0 = (46 : Int32)) ∨ ((.int 1) = xv ∧ h0 = h ∧ ¬ c0 = (46 : Int32) ∧ c1 = (46 : Int32)) ∨ ((.int 2) = xv ∧ h0 = h ∧ ¬ c0 = (46 : Int32) ∧ ¬ c1 = (46 : Int32) ∧ c2 = (46 : Int32)) ∨ ((.int (-1)) = xv ∧ h0 = h ∧ ¬ c0 = (46 : Int32) ∧ ¬ c1 = (46 : Int32) ∧ ¬ c2 = (46 : Int32))
def Q_idxl3 (Z : State) (t : Addr) (k : ClassId) (b0 b1 b2 : Int32) (h0 : Heap) (xv : Value) (h : Heap) : Prop := ((.int 0) = xv ∧ h0 = h ∧ b0 = (46 : Int32)) ∨ ((.int 1) = xv ∧ h0 = h ∧ ¬ b0 = (46 : Int32) ∧ b1 = (46 : Int32)) ∨ ((.int 2) = xv ∧ h0 = h ∧ ¬ b0 = (46 : Int32) ∧ ¬ b1 = (46 : Int32) ∧ b2 = (46 : Int32)) ∨ ((.int (-1)) = xv ∧ h0 = h ∧ ¬ b0 = (46 : Int32) ∧ ¬ b1 = (46 : Int32) ∧ ¬ b2 = (46 : Int32))
def Q_min3_3 (Z : State)  (h0 : Heap) (xv : Value) (h : Heap) : Prop := (.int 3) = xv ∧ h0 = h
theorem c_min3_3 (G : GH Z a0)   (h0 : Heap) (O0 : Old Z Z.heap.size h0)  : Con false [] l Z (⟨"java/lang/Math", "min", "(II)I"⟩ : MethodName) jdk_29_method_69_code 2 (some .int) [] (rm4 0 0 0 0) #[(.int 3), (.int 3)] h0 [] (rvl (Q_min3_3 Z h0)) := by
  refine conN G (Jvm.Free.JP.mathPlain rfl (by decide)) O0 (fun m => ef7 m (3 : Int32) (3 : Int32)) ?_
  intro _ _ _ m_ _ _ _ D hml hret hlk hnm
  refine go_iload_n 1 (D d23_0) rfl rfl ?_
  refine go_iload_n 2 (D d23_1) rfl rfl ?_
  refine go_icF 5 (D d23_2) rfl (by decide) ?_
  refine go_iload_n 6 (D d23_5) rfl rfl ?_
  refine go_goto 10 (D d23_6) (by decide) rfl ?_
  refine go_ireturn hret hlk rfl (by simp) (D d23_10) (by decide) (by decide) ⟨_, rfl, ⟨rfl, rfl⟩⟩ (Keep.refl h0 [])
def Q_idxc3 (Z : State) (t : Addr) (k : ClassId) (b0 b1 b2 : Int32) (h0 : Heap) (xv : Value) (h : Heap) : Prop := ((.int 0) = xv ∧ h0 = h ∧ b0 = (46 : Int32)) ∨ ((.int 1) = xv ∧ h0 = h ∧ ¬ b0 = (46 : Int32) ∧ b1 = (46 : Int32)) ∨ ((.int 2) = xv ∧ h0 = h ∧ ¬ b0 = (46 : Int32) ∧ ¬ b1 = (46 : Int32) ∧ b2 = (46 : Int32)) ∨ ((.int (-1)) = xv ∧ h0 = h ∧ ¬ b0 = (46 : Int32) ∧ ¬ b1 = (46 : Int32) ∧ ¬ b2 = (46 : Int32))
theorem c_idxc3 (G : GH Z a0) (t : Addr) (k : ClassId) (b0 b1 b2 : Int32) (h0 : Heap) (O0 : Old Z Z.heap.size h0) (p1 : Arv Z h0 t k (.byte) (3 : Int32) [(.int b0), (.int b1), (.int b2)] (.int 0)) : Con false [] l Z (⟨"java/lang/StringLatin1", "indexOfChar", "([BIII)I"⟩ : MethodName) jdk_43_method_23_code 6 (some .int) [] (rm4 0 0 0 0) #[(.ref t), (.int 46), (.int 0), (.int 3)] h0 [] (rvl (Q_idxc3 Z t k b0 b1 b2 h0)) := by
  refine conN G (plainFor_of_name pn2) O0 (fun m => ef15 m t (46 : Int32) (0 : Int32) (3 : Int32)) ?_
  intro _ _ _ m_ _ _ _ D hml hret hlk hnm
  refine go_iload_n 1 (D d24_0) rfl rfl ?_
  refine go_i2b 2 (z := (46 : Int32)) (D d24_1) rfl (by decide) ?_
  refine go_istore 4 (ls' := #[vr t, vi 46, vi 0, vi 3, vi 46, un]) (D d24_2) rfl rfl ?_
  refine go_iload_n 5 (D d24_4) rfl rfl ?_
  refine go_istore 7 (ls' := #[vr t, vi 46, vi 0, vi 3, vi 46, vi 0]) (D d24_5) rfl rfl ?_
  refine go_iload 9 (D d24_7) rfl rfl ?_
  refine go_iload_n 10 (D d24_9) rfl rfl ?_
  refine go_icF 13 (D d24_10) rfl (by decide) ?_
  refine go_aload_n 14 (D d24_13) rfl rfl rfl ?_
  refine go_iload 16 (D d24_14) rfl rfl ?_
  refine go_baload 17 (i := 0) (v := (.int b0)) p1 (by decide) (by decide) rfl rfl (D d24_16) rfl ?_
  refine go_iload 19 (D d24_17) rfl rfl ?_
  by_cases cz1 : b0 = (46 : Int32)
  · refine go_icF 22 (D d24_19) rfl (XT.ii_ne_f cz1) ?_
    refine go_iload 24 (D d24_22) rfl rfl ?_
    refine go_ireturn hret hlk rfl (by simp) (D d24_24) (by decide) (by decide) ⟨_, rfl, (Or.inl ⟨rfl, rfl, cz1⟩)⟩ (Keep.refl h0 [])
  · refine go_icT 25 (D d24_19) (by decide) rfl (XT.ii_ne_t cz1) ?_
    refine go_iinc 28 (ls' := #[vr t, vi 46, vi 0, vi 3, vi 46, vi 1]) (y := (1 : Int32)) (D d24_25) rfl rfl rfl rfl ?_
    refine go_goto 7 (D d24_28) (by decide) rfl ?_
    refine go_iload 9 (D d24_7) rfl rfl ?_
    refine go_iload_n 10 (D d24_9) rfl rfl ?_
    refine go_icF 13 (D d24_10) rfl (by decide) ?_
    refine go_aload_n 14 (D d24_13) rfl rfl rfl ?_
    refine go_iload 16 (D d24_14) rfl rfl ?_
    refine go_baload 17 (i := 1) (v := (.int b1)) p1 (by decide) (by decide) rfl rfl (D d24_16) rfl ?_
    refine go_iload 19 (D d24_17) rfl rfl ?_
    by_cases cz2 : b1 = (46 : Int32)
    · refine go_icF 22 (D d24_19) rfl (XT.ii_ne_f cz2) ?_
      refine go_iload 24 (D d24_22) rfl rfl ?_
      refine go_ireturn hret hlk rfl (by simp) (D d24_24) (by decide) (by decide) ⟨_, rfl, (Or.inr (Or.inl ⟨rfl, rfl, cz1, cz2⟩))⟩ (Keep.refl h0 [])
    · refine go_icT 25 (D d24_19) (by decide) rfl (XT.ii_ne_t cz2) ?_
      refine go_iinc 28 (ls' := #[vr t, vi 46, vi 0, vi 3, vi 46, vi 2]) (y := (2 : Int32)) (D d24_25) rfl rfl rfl rfl ?_
      refine go_goto 7 (D d24_28) (by decide) rfl ?_
      refine go_iload 9 (D d24_7) rfl rfl ?_
      refine go_iload_n 10 (D d24_9) rfl rfl ?_
      refine go_icF 13 (D d24_10) rfl (by decide) ?_
      refine go_aload_n 14 (D d24_13) rfl rfl rfl ?_
      refine go_iload 16 (D d24_14) rfl rfl ?_
      refine go_baload 17 (i := 2) (v := (.int b2)) p1 (by decide) (by decide) rfl rfl (D d24_16) rfl ?_
      refine go_iload 19 (D d24_17) rfl rfl ?_
      by_cases cz3 : b2 = (46 : Int32)
      · refine go_icF 22 (D d24_19) rfl (XT.ii_ne_f cz3) ?_
        refine go_iload 24 (D d24_22) rfl rfl ?_
        refine go_ireturn hret hlk rfl (by simp) (D d24_24) (by decide) (by decide) ⟨_, rfl, (Or.inr (Or.inr (Or.inl ⟨rfl, rfl, cz1, cz2, cz3⟩)))⟩ (Keep.refl h0 [])
      · refine go_icT 25 (D d24_19) (by decide) rfl (XT.ii_ne_t cz3) ?_
        refine go_iinc 28 (ls' := #[vr t, vi 46, vi 0, vi 3, vi 46, vi 3]) (y := (3 : Int32)) (D d24_25) rfl rfl rfl rfl ?_
        refine go_goto 7 (D d24_28) (by decide) rfl ?_
        refine go_iload 9 (D d24_7) rfl rfl ?_
        refine go_iload_n 10 (D d24_9) rfl rfl ?_
        refine go_icT 31 (D d24_10) (by decide) rfl (by decide) ?_
        refine go_iconst 32 (v := (-1)) (D d24_31) rfl rfl ?_
        refine go_ireturn hret hlk rfl (by simp) (D d24_32) (by decide) (by decide) ⟨_, rfl, (Or.inr (Or.inr (Or.inr (⟨rfl, rfl, cz1, cz2, cz3⟩))))⟩ (Keep.refl h0 [])
theorem c_idxl3 (G : GH Z a0) (t : Addr) (k : ClassId) (b0 b1 b2 : Int32) (h0 : Heap) (O0 : Old Z Z.heap.size h0) (p1 : Arv Z h0 t k (.byte) (3 : Int32) [(.int b0), (.int b1), (.int b2)] (.int 0)) : Con false [] l Z (⟨"java/lang/StringLatin1", "indexOf", "([BIII)I"⟩ : MethodName) jdk_43_method_22_code 4 (some .int) [] (rm4 1 0 0 17) #[(.ref t), (.int 46), (.int 0), (.int 3)] h0 [] (rvl (Q_idxl3 Z t k b0 b1 b2 h0)) := by
  refine conN G (plainFor_of_name pn2) O0 (fun m => ef14 m t (46 : Int32) (0 : Int32) (3 : Int32)) ?_
  intro _ _ _ m_ _ _ _ D hml hret hlk hnm
  refine go_iload_n 1 (D d21_0) rfl rfl ?_
  refine callS0 (cells' := 0) (slots' := 0) (Wd := 0) (argsL := [(.int 46)]) (rest := []) (pay_of (a0 := a0) (c_canenc46 l G  h0 O0 ) (wk G 72) (wk G 68)) (wk G 70) (wk G 71) (wk G 68) (wk G 72) pd11 (by rw [hml]; rfl) all0 sf00 (D d21_1) (k_v 4 rfl ?_)
  rintro _ h1 ⟨rfl, rfl⟩ K2
  refine go_ifT 9 (D d21_4) (by decide) rfl (by decide) ?_
  refine go_iload_n 10 (D d21_9) rfl rfl ?_
  refine go_iconst 11 (v := 0) (D d21_10) rfl rfl ?_
  refine callS0 (cells' := 0) (slots' := 0) (Wd := 0) (argsL := [(.int 0), (.int 0)]) (rest := []) (pay_of (a0 := a0) (c_max0_0 l G  h0 O0 ) (wk G 76) (wk G 75)) (wk G 73) (wk G 74) (wk G 75) (wk G 76) pd12 (by rw [hml]; rfl) all0 sf00 (D d21_11) (k_v 14 rfl ?_)
  rintro _ h3 ⟨rfl, rfl⟩ K4
  refine go_istore_n 15 (ls' := #[vr t, vi 46, vi 0, vi 3]) (D d21_14) rfl rfl ?_
  refine go_iload_n 16 (D d21_15) rfl rfl ?_
  refine go_aload_n 17 (D d21_16) rfl rfl rfl ?_
  refine go_arraylength 18 p1 (D d21_17) rfl ?_
  refine callS0 (cells' := 0) (slots' := 0) (Wd := 0) (argsL := [(.int 3), (.int 3)]) (rest := []) (pay_of (a0 := a0) (c_min3_3 l G  h0 O0 ) (wk G 79) (wk G 75)) (wk G 77) (wk G 78) (wk G 75) (wk G 79) pd12 (by rw [hml]; rfl) all0 sf00 (D d21_18) (k_v 21 rfl ?_)
  rintro _ h5 ⟨rfl, rfl⟩ K6
  refine go_istore_n 22 (ls' := #[vr t, vi 46, vi 0, vi 3]) (D d21_21) rfl rfl ?_
  refine go_iload_n 23 (D d21_22) rfl rfl ?_
  refine go_iload_n 24 (D d21_23) rfl rfl ?_
  refine go_icT 29 (D d21_24) (by decide) rfl (by decide) ?_
  refine go_aload_n 30 (D d21_29) rfl rfl rfl ?_
  refine go_iload_n 31 (D d21_30) rfl rfl ?_
  refine go_iload_n 32 (D d21_31) rfl rfl ?_
  refine go_iload_n 33 (D d21_32) rfl rfl ?_
  refine callS0 (cells' := 0) (slots' := 0) (Wd := 0) (argsL := [(.ref t), (.int 46), (.int 0), (.int 3)]) (rest := []) (pay_of (a0 := a0) (c_idxc3 l G t k b0 b1 b2 h0 O0 p1) (wk G 94) (wk G 68)) (wk G 92) (wk G 93) (wk G 68) (wk G 94) pd13 (by rw [hml]; rfl) all0 sf00 (D d21_33) (k_v 36 rfl ?_)
  rintro _ h7 (⟨rfl, rfl, f9⟩ | ⟨rfl, rfl, f10, f11⟩ | ⟨rfl, rfl, f12, f13, f14⟩ | ⟨rfl, rfl, f15, f16, f17⟩) K8
  · refine go_ireturn hret hlk rfl (by simp) (D d21_36) (by decide) (by decide) ⟨_, rfl, (Or.inl ⟨rfl, rfl, f9⟩)⟩ (Keep.refl h0 [])
  · refine go_ireturn hret hlk rfl (by simp) (D d21_36) (by decide) (by decide) ⟨_, rfl, (Or.inr (Or.inl ⟨rfl, rfl, f10, f11⟩))⟩ (Keep.refl h0 [])
  · refine go_ireturn hret hlk rfl (by simp) (D d21_36) (by decide) (by decide) ⟨_, rfl, (Or.inr (Or.inr (Or.inl ⟨rfl, rfl, f12, f13, f14⟩)))⟩ (Keep.refl h0 [])
  · refine go_ireturn hret hlk rfl (by simp) (D d21_36) (by decide) (by decide) ⟨_, rfl, (Or.inr (Or.inr (Or.inr (⟨rfl, rfl, f15, f16, f17⟩))))⟩ (Keep.refl h0 [])
theorem c_idxs3 (G : GH Z a0) (a : Addr) (c0 c1 c2 : Int32) (h0 : Heap) (O0 : Old Z Z.heap.size h0) (p1 : Str Z h0 a [c0, c1, c2]) : Con false [] l Z (⟨"java/lang/String", "indexOf", "(II)I"⟩ : MethodName) jdk_42_method_80_code 3 (some .int) [] (rm4 2 0 0 32) #[(.ref a), (.int 46), (.int 0)] h0 [] (rvl (Q_idxs3 Z a c0 c1 c2 h0)) := by
  refine conN G (plainFor_of_name pn1) O0 (fun m => ef13 m a (46 : Int32) (0 : Int32)) ?_
  intro _ _ _ m_ _ _ _ D hml hret hlk hnm
  refine go_aload_n 1 (D d20_0) rfl rfl rfl ?_
  obtain ⟨t1, k2, E3, F4, F5, A6, B7, L8⟩ := id p1
  refine callV0 (cells' := 0) (slots' := 0) (Wd := 0) (argsL := []) (rest := []) (pay_of (a0 := a0) (c_islatin l G a h0 O0 F5) (wk G 55) (wk G 5)) E3 (wk G 51) (wk G 52) (wk G 54) (wk G 54) (wk G 53) pd9 (by rw [hml]; rfl) all0 sf00 (D d20_1) (k_v 4 rfl ?_)
  rintro _ h9 ⟨rfl, rfl⟩ K10
  refine go_ifF 7 (D d20_4) rfl (by decide) ?_
  refine go_aload_n 8 (D d20_7) rfl rfl rfl ?_
  refine go_getF 11 (wk G 36) Via.refl F4 (D d20_8) rfl ?_
  refine go_iload_n 12 (D d20_11) rfl rfl ?_
  refine go_iload_n 13 (D d20_12) rfl rfl ?_
  refine go_aload_n 14 (D d20_13) rfl rfl rfl ?_
  refine callV0 (cells' := 0) (slots' := 0) (Wd := 3) (argsL := []) (rest := [(.int 0), (.int 46), (.ref t1)]) (pay_len G O0 (n := (3 : Int32)) p1 rfl (by decide) (by decide)) E3 (wk G 56) (wk G 57) (wk G 59) (wk G 59) (wk G 58) pd10 (by rw [hml]; rfl) all0 sf00 (D d20_14) (k_v 17 rfl ?_)
  rintro _ _ ⟨rfl, rfl⟩ -
  refine callS0 (cells' := 0) (slots' := 0) (Wd := 0) (argsL := [(.ref t1), (.int 46), (.int 0), (.int 3)]) (rest := []) (pay_of (a0 := a0) (c_idxl3 l G t1 k2 ((c0).toInt8.toInt32) ((c1).toInt8.toInt32) ((c2).toInt8.toInt32) h0 O0 A6) (wk G 69) (wk G 68)) (wk G 66) (wk G 67) (wk G 68) (wk G 69) pd13 (by rw [hml]; rfl) all0 sf00 (D d20_17) (k_v 20 rfl ?_)
  rintro _ h11 (⟨rfl, rfl, f13⟩ | ⟨rfl, rfl, f14, f15⟩ | ⟨rfl, rfl, f16, f17, f18⟩ | ⟨rfl, rfl, f19, f20, f21⟩) K12
  · refine go_goto 36 (D d20_20) (by decide) rfl ?_
    refine go_ireturn hret hlk rfl (by simp) (D d20_36) (by decide) (by decide) ⟨_, rfl, (Or.inl ⟨rfl, rfl, ((b46 (by obtain ⟨_, _, _, _, _, _, q, _⟩ := id p1; exact q _ (by simp) : C8 c0)).mp f13)⟩)⟩ (Keep.refl h0 [])
  · refine go_goto 36 (D d20_20) (by decide) rfl ?_
    refine go_ireturn hret hlk rfl (by simp) (D d20_36) (by decide) (by decide) ⟨_, rfl, (Or.inr (Or.inl ⟨rfl, rfl, (fun z => f14 ((b46 (by obtain ⟨_, _, _, _, _, _, q, _⟩ := id p1; exact q _ (by simp) : C8 c0)).mpr z)), ((b46 (by obtain ⟨_, _, _, _, _, _, q, _⟩ := id p1; exact q _ (by simp) : C8 c1)).mp f15)⟩))⟩ (Keep.refl h0 [])
  · refine go_goto 36 (D d20_20) (by decide) rfl ?_
    refine go_ireturn hret hlk rfl (by simp) (D d20_36) (by decide) (by decide) ⟨_, rfl, (Or.inr (Or.inr (Or.inl ⟨rfl, rfl, (fun z => f16 ((b46 (by obtain ⟨_, _, _, _, _, _, q, _⟩ := id p1; exact q _ (by simp) : C8 c0)).mpr z)), (fun z => f17 ((b46 (by obtain ⟨_, _, _, _, _, _, q, _⟩ := id p1; exact q _ (by simp) : C8 c1)).mpr z)), ((b46 (by obtain ⟨_, _, _, _, _, _, q, _⟩ := id p1; exact q _ (by simp) : C8 c2)).mp f18)⟩)))⟩ (Keep.refl h0 [])
  · refine go_goto 36 (D d20_20) (by decide) rfl ?_
    refine go_ireturn hret hlk rfl (by simp) (D d20_36) (by decide) (by decide) ⟨_, rfl, (Or.inr (Or.inr (Or.inr (⟨rfl, rfl, (fun z => f19 ((b46 (by obtain ⟨_, _, _, _, _, _, q, _⟩ := id p1; exact q _ (by simp) : C8 c0)).mpr z)), (fun z => f20 ((b46 (by obtain ⟨_, _, _, _, _, _, q, _⟩ := id p1; exact q _ (by simp) : C8 c1)).mpr z)), (fun z => f21 ((b46 (by obtain ⟨_, _, _, _, _, _, q, _⟩ := id p1; exact q _ (by simp) : C8 c2)).mpr z))⟩))))⟩ (Keep.refl h0 [])
theorem c_idx3 (G : GH Z a0) (a : Addr) (c0 c1 c2 : Int32) (h0 : Heap) (O0 : Old Z Z.heap.size h0) (p1 : Str Z h0 a [c0, c1, c2]) : Con false [] l Z (⟨"java/lang/String", "indexOf", "(I)I"⟩ : MethodName) jdk_42_method_79_code 2 (some .int) [] (rm4 3 0 0 46) #[(.ref a), (.int 46)] h0 [] (rvl (Q_idx3 Z a c0 c1 c2 h0)) := by
  refine conN G (plainFor_of_name pn1) O0 (fun m => ef12 m a (46 : Int32)) ?_
  intro _ _ _ m_ _ _ _ D hml hret hlk hnm
  refine go_aload_n 1 (D d19_0) rfl rfl rfl ?_
  refine go_iload_n 2 (D d19_1) rfl rfl ?_
  refine go_iconst 3 (v := 0) (D d19_2) rfl rfl ?_
  refine callV0 (cells' := 0) (slots' := 0) (Wd := 0) (argsL := [(.int 46), (.int 0)]) (rest := []) (pay_of (a0 := a0) (c_idxs3 l G a c0 c1 c2 h0 O0 p1) (wk G 50) (wk G 5)) p1.exa (wk G 46) (wk G 47) (wk G 49) (wk G 49) (wk G 48) pd12 (by rw [hml]; rfl) all0 sf00 (D d19_3) (k_v 6 rfl ?_)
  rintro _ h1 (⟨rfl, rfl, f3⟩ | ⟨rfl, rfl, f4, f5⟩ | ⟨rfl, rfl, f6, f7, f8⟩ | ⟨rfl, rfl, f9, f10, f11⟩) K2
  · refine go_ireturn hret hlk rfl (by simp) (D d19_6) (by decide) (by decide) ⟨_, rfl, (Or.inl ⟨rfl, rfl, f3⟩)⟩ (Keep.refl h0 [])
  · refine go_ireturn hret hlk rfl (by simp) (D d19_6) (by decide) (by decide) ⟨_, rfl, (Or.inr (Or.inl ⟨rfl, rfl, f4, f5⟩))⟩ (Keep.refl h0 [])
  · refine go_ireturn hret hlk rfl (by simp) (D d19_6) (by decide) (by decide) ⟨_, rfl, (Or.inr (Or.inr (Or.inl ⟨rfl, rfl, f6, f7, f8⟩)))⟩ (Keep.refl h0 [])
  · refine go_ireturn hret hlk rfl (by simp) (D d19_6) (by decide) (by decide) ⟨_, rfl, (Or.inr (Or.inr (Or.inr (⟨rfl, rfl, f9, f10, f11⟩))))⟩ (Keep.refl h0 [])
def Q_sub0_0_3 (Z : State) (a : Addr) (c0 c1 c2 : Int32) (h0 : Heap) (xv : Value) (h : Heap) : Prop := ∃ (r : Addr), (.ref r) = xv ∧ Str Z h r []
def Q_news0_0_3 (Z : State) (t : Addr) (k : ClassId) (c0 c1 c2 : Int32) (h0 : Heap) (xv : Value) (h : Heap) : Prop := ∃ (r : Addr), (.ref r) = xv ∧ Str Z h r []
theorem c_news0_0_3 (G : GH Z a0) (t : Addr) (k : ClassId) (c0 c1 c2 : Int32) (h0 : Heap) (O0 : Old Z Z.heap.size h0) (p1 : Arv Z h0 t k (.byte) (3 : Int32) [(.int (c0).toInt8.toInt32), (.int (c1).toInt8.toInt32), (.int (c2).toInt8.toInt32)] (.int 0)) (p2 : C8 c0) (p3 : C8 c1) (p4 : C8 c2) : Con true EL1 l Z (⟨"java/lang/StringLatin1", "newString", "([BII)Ljava/lang/String;"⟩ : MethodName) jdk_43_method_47_code 3 (some (.object "java/lang/String")) [] (rm4 0 2 4 0) #[(.ref t), (.int 0), (.int 0)] h0 [] (rvl (Q_news0_0_3 Z t k c0 c1 c2 h0)) := by
  refine conW G (plainFor_of_name pn2) O0 (fun m => ef13 m t (0 : Int32) (0 : Int32)) ?_
  intro _ _ _ m_ _ _ _ D hml hret hlk hnm
  refine go_iload_n 1 (D d26_0) rfl rfl ?_
  refine go_ifF 4 (D d26_1) rfl (by decide) ?_
  refine go_ldcH 6 (cells' := 2) (slots' := 4) (n := 0) (vs := (([] : List Int32).map fun c => c.toInt8.toInt32).map Value.int) (z := (0 : Int32)) rfl (by decide) (wk G 111) (wS G) (by decide +kernel) (by decide) (by decide) (by decide) (by decide) (D d26_4) rfl rfl rfl (by decide) (by decide) (fun h1 a2 t4 k5 X3 E6 F7 F8 A9 => ?_)
  have S10 : Str Z h1 a2 [] := ⟨t4, k5, E6, F8, F7, A9, by decide, by decide⟩
  have K11 : Keep h0 h1 [] := ((Keep.refl h0 []).ext X3)
  refine go_areturn hret hlk rfl rfl (D d26_6) (by decide) (by decide) ⟨_, rfl, ⟨a2, rfl, S10⟩⟩ K11
theorem c_sub0_0_3 (G : GH Z a0) (a : Addr) (c0 c1 c2 : Int32) (h0 : Heap) (O0 : Old Z Z.heap.size h0) (p1 : Str Z h0 a [c0, c1, c2]) : Con true EL1 l Z (⟨"java/lang/String", "substring", "(II)Ljava/lang/String;"⟩ : MethodName) jdk_42_method_92_code 5 (some (.object "java/lang/String")) [] (rm4 2 2 4 29) #[(.ref a), (.int 0), (.int 0)] h0 [] (rvl (Q_sub0_0_3 Z a c0 c1 c2 h0)) := by
  refine conW G (plainFor_of_name pn1) O0 (fun m => ef16 m a (0 : Int32) (0 : Int32)) ?_
  intro _ _ _ m_ _ _ _ D hml hret hlk hnm
  have q1 : C8 c0 := by obtain ⟨_, _, _, _, _, _, q, _⟩ := id p1; exact q _ (by simp)
  have q2 : C8 c1 := by obtain ⟨_, _, _, _, _, _, q, _⟩ := id p1; exact q _ (by simp)
  have q3 : C8 c2 := by obtain ⟨_, _, _, _, _, _, q, _⟩ := id p1; exact q _ (by simp)
  refine go_aload_n 1 (D d25_0) rfl rfl rfl ?_
  refine callV0 (cells' := 0) (slots' := 0) (Wd := 0) (argsL := []) (rest := []) (pay_len G O0 (n := (3 : Int32)) p1 rfl (by decide) (by decide)) p1.exa (wk G 56) (wk G 57) (wk G 59) (wk G 59) (wk G 58) pd10 (by rw [hml]; rfl) all0 sf00 (D d25_1) (k_v 4 rfl ?_)
  rintro _ _ ⟨rfl, rfl⟩ -
  refine go_istore_n 5 (ls' := #[vr a, vi 0, vi 0, vi 3, un]) (D d25_4) rfl rfl ?_
  refine go_iload_n 6 (D d25_5) rfl rfl ?_
  refine go_iload_n 7 (D d25_6) rfl rfl ?_
  refine go_iload_n 8 (D d25_7) rfl rfl ?_
  refine callS0 (cells' := 0) (slots' := 0) (Wd := 0) (argsL := [(.int 0), (.int 0), (.int 3)]) (rest := []) (pay_of (a0 := a0) (c_cbbe l G (0 : Int32) (0 : Int32) (3 : Int32) h0 O0 (by decide) (by decide) (by decide)) (wk G 102) (wk G 5)) (wk G 100) (wk G 101) (wk G 5) (wk G 102) pd18 (by rw [hml]; rfl) all0 sf00 (D d25_8) (k_n 11 rfl ?_)
  rintro  h4 rfl K5
  refine go_iload_n 12 (D d25_11) rfl rfl ?_
  refine go_ifF 15 (D d25_12) rfl (by decide) ?_
  refine go_iload_n 16 (D d25_15) rfl rfl ?_
  refine go_iload_n 17 (D d25_16) rfl rfl ?_
  refine go_icT 22 (D d25_17) (by decide) rfl (by decide) ?_
  refine go_iload_n 23 (D d25_22) rfl rfl ?_
  refine go_iload_n 24 (D d25_23) rfl rfl ?_
  refine go_isub 25 (z := (0 : Int32)) (D d25_24) rfl (by decide) ?_
  refine go_istore 27 (ls' := #[vr a, vi 0, vi 0, vi 3, vi 0]) (D d25_25) rfl rfl ?_
  refine go_aload_n 28 (D d25_27) rfl rfl rfl ?_
  obtain ⟨t6, k7, E8, F9, F10, A11, B12, L13⟩ := id p1
  refine callV0 (cells' := 0) (slots' := 0) (Wd := 0) (argsL := []) (rest := []) (pay_of (a0 := a0) (c_islatin l G a h0 O0 F10) (wk G 55) (wk G 5)) E8 (wk G 51) (wk G 52) (wk G 54) (wk G 54) (wk G 53) pd9 (by rw [hml]; rfl) all0 sf00 (D d25_28) (k_v 31 rfl ?_)
  rintro _ h14 ⟨rfl, rfl⟩ K15
  refine go_ifF 34 (D d25_31) rfl (by decide) ?_
  refine go_aload_n 35 (D d25_34) rfl rfl rfl ?_
  refine go_getF 38 (wk G 36) Via.refl F9 (D d25_35) rfl ?_
  refine go_iload_n 39 (D d25_38) rfl rfl ?_
  refine go_iload 41 (D d25_39) rfl rfl ?_
  refine callSW0 rfl (cells' := 2) (slots' := 4) (Wd := 0) (argsL := [(.ref t6), (.int 0), (.int 0)]) (rest := []) (payW_of (a0 := a0) (c_news0_0_3 l G t6 k7 c0 c1 c2 h0 O0 A11 q1 q2 q3) (wk G 110) (wk G 68) (ew1 G)) (wk G 108) (wk G 109) (wk G 68) (wk G 110) pd19 (by rw [hml]; rfl) all0 (D d25_41) (k_v 44 rfl ?_)
  rintro _ h16 ⟨r18, rfl, f19⟩ K17
  refine go_goto 57 (D d25_44) (by decide) rfl ?_
  have K20 : Keep h0 h16 [] := ((Keep.refl h0 []).trans K17 all0)
  refine go_areturn hret hlk rfl rfl (D d25_57) (by decide) (by decide) ⟨_, rfl, ⟨r18, rfl, f19⟩⟩ K20
def Q_sub0_1_3 (Z : State) (a : Addr) (c0 c1 c2 : Int32) (h0 : Heap) (xv : Value) (h : Heap) : Prop := ∃ (r : Addr), (.ref r) = xv ∧ Str Z h r [c0]
def Q_news0_1_3 (Z : State) (t : Addr) (k : ClassId) (c0 c1 c2 : Int32) (h0 : Heap) (xv : Value) (h : Heap) : Prop := ∃ (r : Addr), (.ref r) = xv ∧ Str Z h r [c0]
def Q_cor0_1_3 (Z : State) (t : Addr) (k : ClassId) (b0 b1 b2 : Int32) (h0 : Heap) (xv : Value) (h : Heap) : Prop := ∃ (r : Addr) (k2 : ClassId), (.ref r) = xv ∧ h0.size ≤ r ∧ Arv Z h r k2 (.byte) (1 : Int32) [(.int b0)] (.int 0)
def Q_corb0_1_3 (Z : State) (t : Addr) (k : ClassId) (b0 b1 b2 : Int32) (h0 : Heap) (xv : Value) (h : Heap) : Prop := ∃ (r : Addr) (k2 : ClassId), (.ref r) = xv ∧ h0.size ≤ r ∧ Arv Z h r k2 (.byte) (1 : Int32) [(.int b0)] (.int 0)
def Q_min3_1 (Z : State)  (h0 : Heap) (xv : Value) (h : Heap) : Prop := (.int 1) = xv ∧ h0 = h
theorem c_min3_1 (G : GH Z a0)   (h0 : Heap) (O0 : Old Z Z.heap.size h0)  : Con false [] l Z (⟨"java/lang/Math", "min", "(II)I"⟩ : MethodName) jdk_29_method_69_code 2 (some .int) [] (rm4 0 0 0 0) #[(.int 3), (.int 1)] h0 [] (rvl (Q_min3_1 Z h0)) := by
  refine conN G (Jvm.Free.JP.mathPlain rfl (by decide)) O0 (fun m => ef7 m (3 : Int32) (1 : Int32)) ?_
  intro _ _ _ m_ _ _ _ D hml hret hlk hnm
  refine go_iload_n 1 (D d23_0) rfl rfl ?_
  refine go_iload_n 2 (D d23_1) rfl rfl ?_
  refine go_icT 9 (D d23_2) (by decide) rfl (by decide) ?_
  refine go_iload_n 10 (D d23_9) rfl rfl ?_
  refine go_ireturn hret hlk rfl (by simp) (D d23_10) (by decide) (by decide) ⟨_, rfl, ⟨rfl, rfl⟩⟩ (Keep.refl h0 [])
theorem c_corb0_1_3 (G : GH Z a0) (t : Addr) (k : ClassId) (b0 b1 b2 : Int32) (h0 : Heap) (O0 : Old Z Z.heap.size h0) (p1 : Arv Z h0 t k (.byte) (3 : Int32) [(.int b0), (.int b1), (.int b2)] (.int 0)) : Con false [] l Z (⟨"java/util/Arrays", "copyOfRangeByte", "([BII)[B"⟩ : MethodName) jdk_65_method_133_code 5 (some (.array .byte)) [] (rm4 1 1 1 18) #[(.ref t), (.int 0), (.int 1)] h0 [] (rvl (Q_corb0_1_3 Z t k b0 b1 b2 h0)) := by
  refine conN G (plainFor_of_name pn4) O0 (fun m => ef16 m t (0 : Int32) (1 : Int32)) ?_
  intro _ _ _ m_ _ _ _ D hml hret hlk hnm
  refine go_iload_n 1 (D d28_0) rfl rfl ?_
  refine go_iload_n 2 (D d28_1) rfl rfl ?_
  refine callS0 (cells' := 0) (slots' := 0) (Wd := 0) (argsL := [(.int 0), (.int 1)]) (rest := []) (pay_of (a0 := a0) (c_chkl l G (0 : Int32) (1 : Int32) h0 O0 (by decide)) (wk G 159) (wk G 152)) (wk G 157) (wk G 158) (wk G 152) (wk G 159) pd24 (by rw [hml]; rfl) all0 sf00 (D d28_2) (k_n 5 rfl ?_)
  rintro  h1 rfl K2
  refine go_iload_n 6 (D d28_5) rfl rfl ?_
  refine go_iload_n 7 (D d28_6) rfl rfl ?_
  refine go_isub 8 (z := (1 : Int32)) (D d28_7) rfl (by decide) ?_
  refine go_istore_n 9 (ls' := #[vr t, vi 0, vi 1, vi 1, un]) (D d28_8) rfl rfl ?_
  refine go_iload_n 10 (D d28_9) rfl rfl ?_
  refine go_newP 12 (cells' := 1) (slots' := 1) (cap := 1) (vs := [(.int 0)]) (ty := .byte) (dv := .int 0) (wk G 7) rfl rfl (D d28_10) rfl (by decide) rfl (by decide) rfl rfl rfl (by decide) (by decide) (fun h3 a4 k8 g5 X6 A7 => ?_)
  refine go_astore 14 (ls' := #[vr t, vi 0, vi 1, vi 1, vr a4]) (D d28_12) rfl rfl rfl ?_
  refine go_aload_n 15 (D d28_14) rfl rfl rfl ?_
  refine go_iload_n 16 (D d28_15) rfl rfl ?_
  refine go_aload 18 (D d28_16) rfl rfl rfl ?_
  refine go_iconst 19 (v := 0) (D d28_18) rfl rfl ?_
  refine go_aload_n 20 (D d28_19) rfl rfl rfl ?_
  have K9 : Keep h0 h3 [] := ((Keep.refl h0 []).ext X6)
  have A10 := (p1.keep K9 nin0)
  refine go_arraylength 21 A10 (D d28_20) rfl ?_
  refine go_iload_n 22 (D d28_21) rfl rfl ?_
  refine go_isub 23 (z := (3 : Int32)) (D d28_22) rfl (by decide) ?_
  refine go_iload_n 24 (D d28_23) rfl rfl ?_
  refine go_old (fun O11 => ?_)
  refine callS0 (cells' := 1) (slots' := 1) (Wd := 4) (argsL := [(.int 3), (.int 1)]) (rest := [(.int 0), (.ref a4), (.int 0), (.ref t)]) (pay_of (a0 := a0) (c_min3_1 l G  h3 O11 ) (wk G 79) (wk G 75)) (wk G 160) (wk G 78) (wk G 75) (wk G 79) pd12 (by rw [hml]; rfl) all0 sf00 (D d28_24) (k_v 27 rfl ?_)
  rintro _ h12 ⟨rfl, rfl⟩ K13
  refine go_acopy 30 (Wd := 0) (vd' := [(.int b0)]) (wk G 161) (wk G 164) (wk G 162) (wk G 163) rfl A10 A7 rfl (by decide) (by decide) (by decide) (nb rfl) (nb rfl) (nb rfl) (Nat.le_trans O0.2.1 (Nat.le_of_eq g5)) rfl (by rw [hml]; rfl) (by decide) (by decide) (by decide) (D d28_27) rfl (fun h14 K15 A16 => ?_)
  refine go_aload 32 (D d28_30) rfl rfl rfl ?_
  have K17 : Keep h0 h14 [] := (K9.trans K15 (allS (Or.inr (Nat.le_of_eq g5)) all0))
  refine go_areturn hret hlk rfl rfl (D d28_32) (by decide) (by decide) ⟨_, rfl, ⟨a4, k8, rfl, (Nat.le_of_eq g5), A16⟩⟩ K17
theorem c_cor0_1_3 (G : GH Z a0) (t : Addr) (k : ClassId) (b0 b1 b2 : Int32) (h0 : Heap) (O0 : Old Z Z.heap.size h0) (p1 : Arv Z h0 t k (.byte) (3 : Int32) [(.int b0), (.int b1), (.int b2)] (.int 0)) : Con false [] l Z (⟨"java/util/Arrays", "copyOfRange", "([BII)[B"⟩ : MethodName) jdk_65_method_132_code 3 (some (.array .byte)) [] (rm4 2 1 1 34) #[(.ref t), (.int 0), (.int 1)] h0 [] (rvl (Q_cor0_1_3 Z t k b0 b1 b2 h0)) := by
  refine conN G (plainFor_of_name pn4) O0 (fun m => ef13 m t (0 : Int32) (1 : Int32)) ?_
  intro _ _ _ m_ _ _ _ D hml hret hlk hnm
  refine go_iload_n 1 (D d27_0) rfl rfl ?_
  refine go_ifF 4 (D d27_1) rfl (by decide) ?_
  refine go_iload_n 5 (D d27_4) rfl rfl ?_
  refine go_aload_n 6 (D d27_5) rfl rfl rfl ?_
  refine go_arraylength 7 p1 (D d27_6) rfl ?_
  refine go_icF 10 (D d27_7) rfl (by decide) ?_
  refine go_aload_n 11 (D d27_10) rfl rfl rfl ?_
  refine go_iload_n 12 (D d27_11) rfl rfl ?_
  refine go_iload_n 13 (D d27_12) rfl rfl ?_
  refine callS0 (cells' := 1) (slots' := 1) (Wd := 0) (argsL := [(.ref t), (.int 0), (.int 1)]) (rest := []) (pay_of (a0 := a0) (c_corb0_1_3 l G t k b0 b1 b2 h0 O0 p1) (wk G 156) (wk G 152)) (wk G 154) (wk G 155) (wk G 152) (wk G 156) pd25 (by rw [hml]; rfl) all0 sf00 (D d27_13) (k_v 16 rfl ?_)
  rintro _ h1 ⟨r3, r4, rfl, f5, f6⟩ K2
  have K7 : Keep h0 h1 [] := ((Keep.refl h0 []).trans K2 all0)
  refine go_areturn hret hlk rfl rfl (D d27_16) (by decide) (by decide) ⟨_, rfl, ⟨r3, r4, rfl, f5, f6⟩⟩ K7
theorem c_news0_1_3 (G : GH Z a0) (t : Addr) (k : ClassId) (c0 c1 c2 : Int32) (h0 : Heap) (O0 : Old Z Z.heap.size h0) (p1 : Arv Z h0 t k (.byte) (3 : Int32) [(.int (c0).toInt8.toInt32), (.int (c1).toInt8.toInt32), (.int (c2).toInt8.toInt32)] (.int 0)) (p2 : C8 c0) (p3 : C8 c1) (p4 : C8 c2) : Con false [] l Z (⟨"java/lang/StringLatin1", "newString", "([BII)Ljava/lang/String;"⟩ : MethodName) jdk_43_method_47_code 3 (some (.object "java/lang/String")) [] (rm4 3 2 5 50) #[(.ref t), (.int 0), (.int 1)] h0 [] (rvl (Q_news0_1_3 Z t k c0 c1 c2 h0)) := by
  refine conN G (plainFor_of_name pn2) O0 (fun m => ef13 m t (0 : Int32) (1 : Int32)) ?_
  intro _ _ _ m_ _ _ _ D hml hret hlk hnm
  refine go_iload_n 1 (D d26_0) rfl rfl ?_
  refine go_ifT 7 (D d26_1) (by decide) rfl (by decide) ?_
  refine go_newO 10 (cells' := 1) (slots' := 4) (wk G 149) (wk G 6) (wk G 5) (D d26_7) rfl rfl rfl (by decide) (by decide) (fun h1 a2 g3 X4 E5 D6 U7 => ?_)
  refine go_dup 11 (D d26_10) rfl rfl ?_
  refine go_aload_n 12 (D d26_11) rfl rfl rfl ?_
  refine go_iload_n 13 (D d26_12) rfl rfl ?_
  refine go_iload_n 14 (D d26_13) rfl rfl ?_
  refine go_iload_n 15 (D d26_14) rfl rfl ?_
  refine go_iadd 16 (z := (1 : Int32)) (D d26_15) rfl (by decide) ?_
  have K8 : Keep h0 h1 [] := ((Keep.refl h0 []).ext X4)
  have A9 := (p1.keep K8 nin0)
  refine go_old (fun O10 => ?_)
  refine callS0 (cells' := 2) (slots' := 5) (Wd := 2) (argsL := [(.ref t), (.int 0), (.int 1)]) (rest := [(.ref a2), (.ref a2)]) (pay_of (a0 := a0) (c_cor0_1_3 l G t k ((c0).toInt8.toInt32) ((c1).toInt8.toInt32) ((c2).toInt8.toInt32) h1 O10 A9) (wk G 153) (wk G 152)) (wk G 150) (wk G 151) (wk G 152) (wk G 153) pd25 (by rw [hml]; rfl) all0 sf00 (D d26_16) (k_v 19 rfl ?_)
  rintro _ h11 ⟨r13, r14, rfl, f15, f16⟩ K12
  refine go_iconst 20 (v := 0) (D d26_19) rfl rfl ?_
  have K17 : Keep h1 h11 [] := ((Keep.refl h1 []).trans K12 all0)
  have E18 := (E5.keep K17)
  have F19 := D6 (Or.inr (wk G 8)) (ty := (.array .byte)) (by decide)
  have F20 := (F19.keep K17 nin0)
  have F21 := D6 (Or.inr (wk G 9)) (ty := .byte) (by decide)
  have F22 := (F21.keep K17 nin0)
  refine go_old (fun O23 => ?_)
  refine callI0 (cells' := 2) (slots' := 5) (Wd := 1) (argsL := [(.ref r13), (.int 0)]) (rest := [(.ref a2)]) (pay_of (a0 := a0) (c_strbb l G a2 r13 h11 O23 E18 (Nat.le_trans O0.2.1 (Nat.le_of_eq g3)) F20 F22) (wk G 148) (wk G 5)) rfl (wk G 165) (wk G 147) (wk G 148) pd3 (by rw [hml]; rfl) (allS (Nat.le_trans O0.2.1 (Nat.le_of_eq g3)) all0) (fun _ hal => (sfS safe_nil sf0)) (D d26_20) (k_n 23 rfl ?_)
  rintro  h24 ⟨f26, f27⟩ K25
  have K28 : Keep h0 h11 [] := (K8.trans K12 all0)
  have K29 : Keep h0 h24 [] := (K28.trans K25 (allS (Or.inr (Nat.le_of_eq g3)) all0))
  have E30 := (E18.keep K25)
  have A31 := (f16.keep K25 (ninS (Nat.ne_of_gt (Nat.lt_of_lt_of_le E5.lt f15)) nin0))
  have S32 : Str Z h24 a2 [c0] := ⟨r13, r14, E30, f26, f27, A31, (c8c p2 c8n), Nat.le_of_ble_eq_true rfl⟩
  refine go_areturn hret hlk rfl rfl (D d26_23) (by decide) (by decide) ⟨_, rfl, ⟨a2, rfl, S32⟩⟩ K29
theorem c_sub0_1_3 (G : GH Z a0) (a : Addr) (c0 c1 c2 : Int32) (h0 : Heap) (O0 : Old Z Z.heap.size h0) (p1 : Str Z h0 a [c0, c1, c2]) : Con false [] l Z (⟨"java/lang/String", "substring", "(II)Ljava/lang/String;"⟩ : MethodName) jdk_42_method_92_code 5 (some (.object "java/lang/String")) [] (rm4 4 2 5 64) #[(.ref a), (.int 0), (.int 1)] h0 [] (rvl (Q_sub0_1_3 Z a c0 c1 c2 h0)) := by
  refine conN G (plainFor_of_name pn1) O0 (fun m => ef16 m a (0 : Int32) (1 : Int32)) ?_
  intro _ _ _ m_ _ _ _ D hml hret hlk hnm
  have q1 : C8 c0 := by obtain ⟨_, _, _, _, _, _, q, _⟩ := id p1; exact q _ (by simp)
  have q2 : C8 c1 := by obtain ⟨_, _, _, _, _, _, q, _⟩ := id p1; exact q _ (by simp)
  have q3 : C8 c2 := by obtain ⟨_, _, _, _, _, _, q, _⟩ := id p1; exact q _ (by simp)
  refine go_aload_n 1 (D d25_0) rfl rfl rfl ?_
  refine callV0 (cells' := 0) (slots' := 0) (Wd := 0) (argsL := []) (rest := []) (pay_len G O0 (n := (3 : Int32)) p1 rfl (by decide) (by decide)) p1.exa (wk G 56) (wk G 57) (wk G 59) (wk G 59) (wk G 58) pd10 (by rw [hml]; rfl) all0 sf00 (D d25_1) (k_v 4 rfl ?_)
  rintro _ _ ⟨rfl, rfl⟩ -
  refine go_istore_n 5 (ls' := #[vr a, vi 0, vi 1, vi 3, un]) (D d25_4) rfl rfl ?_
  refine go_iload_n 6 (D d25_5) rfl rfl ?_
  refine go_iload_n 7 (D d25_6) rfl rfl ?_
  refine go_iload_n 8 (D d25_7) rfl rfl ?_
  refine callS0 (cells' := 0) (slots' := 0) (Wd := 0) (argsL := [(.int 0), (.int 1), (.int 3)]) (rest := []) (pay_of (a0 := a0) (c_cbbe l G (0 : Int32) (1 : Int32) (3 : Int32) h0 O0 (by decide) (by decide) (by decide)) (wk G 102) (wk G 5)) (wk G 100) (wk G 101) (wk G 5) (wk G 102) pd18 (by rw [hml]; rfl) all0 sf00 (D d25_8) (k_n 11 rfl ?_)
  rintro  h4 rfl K5
  refine go_iload_n 12 (D d25_11) rfl rfl ?_
  refine go_ifF 15 (D d25_12) rfl (by decide) ?_
  refine go_iload_n 16 (D d25_15) rfl rfl ?_
  refine go_iload_n 17 (D d25_16) rfl rfl ?_
  refine go_icT 22 (D d25_17) (by decide) rfl (by decide) ?_
  refine go_iload_n 23 (D d25_22) rfl rfl ?_
  refine go_iload_n 24 (D d25_23) rfl rfl ?_
  refine go_isub 25 (z := (1 : Int32)) (D d25_24) rfl (by decide) ?_
  refine go_istore 27 (ls' := #[vr a, vi 0, vi 1, vi 3, vi 1]) (D d25_25) rfl rfl ?_
  refine go_aload_n 28 (D d25_27) rfl rfl rfl ?_
  obtain ⟨t6, k7, E8, F9, F10, A11, B12, L13⟩ := id p1
  refine callV0 (cells' := 0) (slots' := 0) (Wd := 0) (argsL := []) (rest := []) (pay_of (a0 := a0) (c_islatin l G a h0 O0 F10) (wk G 55) (wk G 5)) E8 (wk G 51) (wk G 52) (wk G 54) (wk G 54) (wk G 53) pd9 (by rw [hml]; rfl) all0 sf00 (D d25_28) (k_v 31 rfl ?_)
  rintro _ h14 ⟨rfl, rfl⟩ K15
  refine go_ifF 34 (D d25_31) rfl (by decide) ?_
  refine go_aload_n 35 (D d25_34) rfl rfl rfl ?_
  refine go_getF 38 (wk G 36) Via.refl F9 (D d25_35) rfl ?_
  refine go_iload_n 39 (D d25_38) rfl rfl ?_
  refine go_iload 41 (D d25_39) rfl rfl ?_
  refine callS0 (cells' := 2) (slots' := 5) (Wd := 0) (argsL := [(.ref t6), (.int 0), (.int 1)]) (rest := []) (pay_of (a0 := a0) (c_news0_1_3 l G t6 k7 c0 c1 c2 h0 O0 A11 q1 q2 q3) (wk G 110) (wk G 68)) (wk G 108) (wk G 109) (wk G 68) (wk G 110) pd19 (by rw [hml]; rfl) all0 sf00 (D d25_41) (k_v 44 rfl ?_)
  rintro _ h16 ⟨r18, rfl, f19⟩ K17
  refine go_goto 57 (D d25_44) (by decide) rfl ?_
  have K20 : Keep h0 h16 [] := ((Keep.refl h0 []).trans K17 all0)
  refine go_areturn hret hlk rfl rfl (D d25_57) (by decide) (by decide) ⟨_, rfl, ⟨r18, rfl, f19⟩⟩ K20
def Q_sub0_2_3 (Z : State) (a : Addr) (c0 c1 c2 : Int32) (h0 : Heap) (xv : Value) (h : Heap) : Prop := ∃ (r : Addr), (.ref r) = xv ∧ Str Z h r [c0, c1]
def Q_news0_2_3 (Z : State) (t : Addr) (k : ClassId) (c0 c1 c2 : Int32) (h0 : Heap) (xv : Value) (h : Heap) : Prop := ∃ (r : Addr), (.ref r) = xv ∧ Str Z h r [c0, c1]
def Q_cor0_2_3 (Z : State) (t : Addr) (k : ClassId) (b0 b1 b2 : Int32) (h0 : Heap) (xv : Value) (h : Heap) : Prop := ∃ (r : Addr) (k2 : ClassId), (.ref r) = xv ∧ h0.size ≤ r ∧ Arv Z h r k2 (.byte) (2 : Int32) [(.int b0), (.int b1)] (.int 0)
def Q_corb0_2_3 (Z : State) (t : Addr) (k : ClassId) (b0 b1 b2 : Int32) (h0 : Heap) (xv : Value) (h : Heap) : Prop := ∃ (r : Addr) (k2 : ClassId), (.ref r) = xv ∧ h0.size ≤ r ∧ Arv Z h r k2 (.byte) (2 : Int32) [(.int b0), (.int b1)] (.int 0)
def Q_min3_2 (Z : State)  (h0 : Heap) (xv : Value) (h : Heap) : Prop := (.int 2) = xv ∧ h0 = h
theorem c_min3_2 (G : GH Z a0)   (h0 : Heap) (O0 : Old Z Z.heap.size h0)  : Con false [] l Z (⟨"java/lang/Math", "min", "(II)I"⟩ : MethodName) jdk_29_method_69_code 2 (some .int) [] (rm4 0 0 0 0) #[(.int 3), (.int 2)] h0 [] (rvl (Q_min3_2 Z h0)) := by
  refine conN G (Jvm.Free.JP.mathPlain rfl (by decide)) O0 (fun m => ef7 m (3 : Int32) (2 : Int32)) ?_
  intro _ _ _ m_ _ _ _ D hml hret hlk hnm
  refine go_iload_n 1 (D d23_0) rfl rfl ?_
  refine go_iload_n 2 (D d23_1) rfl rfl ?_
  refine go_icT 9 (D d23_2) (by decide) rfl (by decide) ?_
  refine go_iload_n 10 (D d23_9) rfl rfl ?_
  refine go_ireturn hret hlk rfl (by simp) (D d23_10) (by decide) (by decide) ⟨_, rfl, ⟨rfl, rfl⟩⟩ (Keep.refl h0 [])
theorem c_corb0_2_3 (G : GH Z a0) (t : Addr) (k : ClassId) (b0 b1 b2 : Int32) (h0 : Heap) (O0 : Old Z Z.heap.size h0) (p1 : Arv Z h0 t k (.byte) (3 : Int32) [(.int b0), (.int b1), (.int b2)] (.int 0)) : Con false [] l Z (⟨"java/util/Arrays", "copyOfRangeByte", "([BII)[B"⟩ : MethodName) jdk_65_method_133_code 5 (some (.array .byte)) [] (rm4 1 1 2 18) #[(.ref t), (.int 0), (.int 2)] h0 [] (rvl (Q_corb0_2_3 Z t k b0 b1 b2 h0)) := by
  refine conN G (plainFor_of_name pn4) O0 (fun m => ef16 m t (0 : Int32) (2 : Int32)) ?_
  intro _ _ _ m_ _ _ _ D hml hret hlk hnm
  refine go_iload_n 1 (D d28_0) rfl rfl ?_
  refine go_iload_n 2 (D d28_1) rfl rfl ?_
  refine callS0 (cells' := 0) (slots' := 0) (Wd := 0) (argsL := [(.int 0), (.int 2)]) (rest := []) (pay_of (a0 := a0) (c_chkl l G (0 : Int32) (2 : Int32) h0 O0 (by decide)) (wk G 159) (wk G 152)) (wk G 157) (wk G 158) (wk G 152) (wk G 159) pd24 (by rw [hml]; rfl) all0 sf00 (D d28_2) (k_n 5 rfl ?_)
  rintro  h1 rfl K2
  refine go_iload_n 6 (D d28_5) rfl rfl ?_
  refine go_iload_n 7 (D d28_6) rfl rfl ?_
  refine go_isub 8 (z := (2 : Int32)) (D d28_7) rfl (by decide) ?_
  refine go_istore_n 9 (ls' := #[vr t, vi 0, vi 2, vi 2, un]) (D d28_8) rfl rfl ?_
  refine go_iload_n 10 (D d28_9) rfl rfl ?_
  refine go_newP 12 (cells' := 1) (slots' := 2) (cap := 2) (vs := [(.int 0), (.int 0)]) (ty := .byte) (dv := .int 0) (wk G 7) rfl rfl (D d28_10) rfl (by decide) rfl (by decide) rfl rfl rfl (by decide) (by decide) (fun h3 a4 k8 g5 X6 A7 => ?_)
  refine go_astore 14 (ls' := #[vr t, vi 0, vi 2, vi 2, vr a4]) (D d28_12) rfl rfl rfl ?_
  refine go_aload_n 15 (D d28_14) rfl rfl rfl ?_
  refine go_iload_n 16 (D d28_15) rfl rfl ?_
  refine go_aload 18 (D d28_16) rfl rfl rfl ?_
  refine go_iconst 19 (v := 0) (D d28_18) rfl rfl ?_
  refine go_aload_n 20 (D d28_19) rfl rfl rfl ?_
  have K9 : Keep h0 h3 [] := ((Keep.refl h0 []).ext X6)
  have A10 := (p1.keep K9 nin0)
  refine go_arraylength 21 A10 (D d28_20) rfl ?_
  refine go_iload_n 22 (D d28_21) rfl rfl ?_
  refine go_isub 23 (z := (3 : Int32)) (D d28_22) rfl (by decide) ?_
  refine go_iload_n 24 (D d28_23) rfl rfl ?_
  refine go_old (fun O11 => ?_)
  refine callS0 (cells' := 1) (slots' := 2) (Wd := 4) (argsL := [(.int 3), (.int 2)]) (rest := [(.int 0), (.ref a4), (.int 0), (.ref t)]) (pay_of (a0 := a0) (c_min3_2 l G  h3 O11 ) (wk G 79) (wk G 75)) (wk G 160) (wk G 78) (wk G 75) (wk G 79) pd12 (by rw [hml]; rfl) all0 sf00 (D d28_24) (k_v 27 rfl ?_)
  rintro _ h12 ⟨rfl, rfl⟩ K13
  refine go_acopy 30 (Wd := 0) (vd' := [(.int b0), (.int b1)]) (wk G 161) (wk G 164) (wk G 162) (wk G 163) rfl A10 A7 rfl (by decide) (by decide) (by decide) (nb rfl) (nb rfl) (nb rfl) (Nat.le_trans O0.2.1 (Nat.le_of_eq g5)) rfl (by rw [hml]; rfl) (by decide) (by decide) (by decide) (D d28_27) rfl (fun h14 K15 A16 => ?_)
  refine go_aload 32 (D d28_30) rfl rfl rfl ?_
  have K17 : Keep h0 h14 [] := (K9.trans K15 (allS (Or.inr (Nat.le_of_eq g5)) all0))
  refine go_areturn hret hlk rfl rfl (D d28_32) (by decide) (by decide) ⟨_, rfl, ⟨a4, k8, rfl, (Nat.le_of_eq g5), A16⟩⟩ K17
theorem c_cor0_2_3 (G : GH Z a0) (t : Addr) (k : ClassId) (b0 b1 b2 : Int32) (h0 : Heap) (O0 : Old Z Z.heap.size h0) (p1 : Arv Z h0 t k (.byte) (3 : Int32) [(.int b0), (.int b1), (.int b2)] (.int 0)) : Con false [] l Z (⟨"java/util/Arrays", "copyOfRange", "([BII)[B"⟩ : MethodName) jdk_65_method_132_code 3 (some (.array .byte)) [] (rm4 2 1 2 34) #[(.ref t), (.int 0), (.int 2)] h0 [] (rvl (Q_cor0_2_3 Z t k b0 b1 b2 h0)) := by
  refine conN G (plainFor_of_name pn4) O0 (fun m => ef13 m t (0 : Int32) (2 : Int32)) ?_
  intro _ _ _ m_ _ _ _ D hml hret hlk hnm
  refine go_iload_n 1 (D d27_0) rfl rfl ?_
  refine go_ifF 4 (D d27_1) rfl (by decide) ?_
  refine go_iload_n 5 (D d27_4) rfl rfl ?_
  refine go_aload_n 6 (D d27_5) rfl rfl rfl ?_
  refine go_arraylength 7 p1 (D d27_6) rfl ?_
  refine go_icF 10 (D d27_7) rfl (by decide) ?_
  refine go_aload_n 11 (D d27_10) rfl rfl rfl ?_
  refine go_iload_n 12 (D d27_11) rfl rfl ?_
  refine go_iload_n 13 (D d27_12) rfl rfl ?_
  refine callS0 (cells' := 1) (slots' := 2) (Wd := 0) (argsL := [(.ref t), (.int 0), (.int 2)]) (rest := []) (pay_of (a0 := a0) (c_corb0_2_3 l G t k b0 b1 b2 h0 O0 p1) (wk G 156) (wk G 152)) (wk G 154) (wk G 155) (wk G 152) (wk G 156) pd25 (by rw [hml]; rfl) all0 sf00 (D d27_13) (k_v 16 rfl ?_)
  rintro _ h1 ⟨r3, r4, rfl, f5, f6⟩ K2
  have K7 : Keep h0 h1 [] := ((Keep.refl h0 []).trans K2 all0)
  refine go_areturn hret hlk rfl rfl (D d27_16) (by decide) (by decide) ⟨_, rfl, ⟨r3, r4, rfl, f5, f6⟩⟩ K7
theorem c_news0_2_3 (G : GH Z a0) (t : Addr) (k : ClassId) (c0 c1 c2 : Int32) (h0 : Heap) (O0 : Old Z Z.heap.size h0) (p1 : Arv Z h0 t k (.byte) (3 : Int32) [(.int (c0).toInt8.toInt32), (.int (c1).toInt8.toInt32), (.int (c2).toInt8.toInt32)] (.int 0)) (p2 : C8 c0) (p3 : C8 c1) (p4 : C8 c2) : Con false [] l Z (⟨"java/lang/StringLatin1", "newString", "([BII)Ljava/lang/String;"⟩ : MethodName) jdk_43_method_47_code 3 (some (.object "java/lang/String")) [] (rm4 3 2 6 50) #[(.ref t), (.int 0), (.int 2)] h0 [] (rvl (Q_news0_2_3 Z t k c0 c1 c2 h0)) := by
  refine conN G (plainFor_of_name pn2) O0 (fun m => ef13 m t (0 : Int32) (2 : Int32)) ?_
  intro _ _ _ m_ _ _ _ D hml hret hlk hnm
  refine go_iload_n 1 (D d26_0) rfl rfl ?_
  refine go_ifT 7 (D d26_1) (by decide) rfl (by decide) ?_
  refine go_newO 10 (cells' := 1) (slots' := 4) (wk G 149) (wk G 6) (wk G 5) (D d26_7) rfl rfl rfl (by decide) (by decide) (fun h1 a2 g3 X4 E5 D6 U7 => ?_)
  refine go_dup 11 (D d26_10) rfl rfl ?_
  refine go_aload_n 12 (D d26_11) rfl rfl rfl ?_
  refine go_iload_n 13 (D d26_12) rfl rfl ?_
  refine go_iload_n 14 (D d26_13) rfl rfl ?_
  refine go_iload_n 15 (D d26_14) rfl rfl ?_
  refine go_iadd 16 (z := (2 : Int32)) (D d26_15) rfl (by decide) ?_
  have K8 : Keep h0 h1 [] := ((Keep.refl h0 []).ext X4)
  have A9 := (p1.keep K8 nin0)
  refine go_old (fun O10 => ?_)
  refine callS0 (cells' := 2) (slots' := 6) (Wd := 2) (argsL := [(.ref t), (.int 0), (.int 2)]) (rest := [(.ref a2), (.ref a2)]) (pay_of (a0 := a0) (c_cor0_2_3 l G t k ((c0).toInt8.toInt32) ((c1).toInt8.toInt32) ((c2).toInt8.toInt32) h1 O10 A9) (wk G 153) (wk G 152)) (wk G 150) (wk G 151) (wk G 152) (wk G 153) pd25 (by rw [hml]; rfl) all0 sf00 (D d26_16) (k_v 19 rfl ?_)
  rintro _ h11 ⟨r13, r14, rfl, f15, f16⟩ K12
  refine go_iconst 20 (v := 0) (D d26_19) rfl rfl ?_
  have K17 : Keep h1 h11 [] := ((Keep.refl h1 []).trans K12 all0)
  have E18 := (E5.keep K17)
  have F19 := D6 (Or.inr (wk G 8)) (ty := (.array .byte)) (by decide)
  have F20 := (F19.keep K17 nin0)
  have F21 := D6 (Or.inr (wk G 9)) (ty := .byte) (by decide)
  have F22 := (F21.keep K17 nin0)
  refine go_old (fun O23 => ?_)
  refine callI0 (cells' := 2) (slots' := 6) (Wd := 1) (argsL := [(.ref r13), (.int 0)]) (rest := [(.ref a2)]) (pay_of (a0 := a0) (c_strbb l G a2 r13 h11 O23 E18 (Nat.le_trans O0.2.1 (Nat.le_of_eq g3)) F20 F22) (wk G 148) (wk G 5)) rfl (wk G 165) (wk G 147) (wk G 148) pd3 (by rw [hml]; rfl) (allS (Nat.le_trans O0.2.1 (Nat.le_of_eq g3)) all0) (fun _ hal => (sfS safe_nil sf0)) (D d26_20) (k_n 23 rfl ?_)
  rintro  h24 ⟨f26, f27⟩ K25
  have K28 : Keep h0 h11 [] := (K8.trans K12 all0)
  have K29 : Keep h0 h24 [] := (K28.trans K25 (allS (Or.inr (Nat.le_of_eq g3)) all0))
  have E30 := (E18.keep K25)
  have A31 := (f16.keep K25 (ninS (Nat.ne_of_gt (Nat.lt_of_lt_of_le E5.lt f15)) nin0))
  have S32 : Str Z h24 a2 [c0, c1] := ⟨r13, r14, E30, f26, f27, A31, (c8c p2 (c8c p3 c8n)), Nat.le_of_ble_eq_true rfl⟩
  refine go_areturn hret hlk rfl rfl (D d26_23) (by decide) (by decide) ⟨_, rfl, ⟨a2, rfl, S32⟩⟩ K29
theorem c_sub0_2_3 (G : GH Z a0) (a : Addr) (c0 c1 c2 : Int32) (h0 : Heap) (O0 : Old Z Z.heap.size h0) (p1 : Str Z h0 a [c0, c1, c2]) : Con false [] l Z (⟨"java/lang/String", "substring", "(II)Ljava/lang/String;"⟩ : MethodName) jdk_42_method_92_code 5 (some (.object "java/lang/String")) [] (rm4 4 2 6 64) #[(.ref a), (.int 0), (.int 2)] h0 [] (rvl (Q_sub0_2_3 Z a c0 c1 c2 h0)) := by
  refine conN G (plainFor_of_name pn1) O0 (fun m => ef16 m a (0 : Int32) (2 : Int32)) ?_
  intro _ _ _ m_ _ _ _ D hml hret hlk hnm
  have q1 : C8 c0 := by obtain ⟨_, _, _, _, _, _, q, _⟩ := id p1; exact q _ (by simp)
  have q2 : C8 c1 := by obtain ⟨_, _, _, _, _, _, q, _⟩ := id p1; exact q _ (by simp)
  have q3 : C8 c2 := by obtain ⟨_, _, _, _, _, _, q, _⟩ := id p1; exact q _ (by simp)
  refine go_aload_n 1 (D d25_0) rfl rfl rfl ?_
  refine callV0 (cells' := 0) (slots' := 0) (Wd := 0) (argsL := []) (rest := []) (pay_len G O0 (n := (3 : Int32)) p1 rfl (by decide) (by decide)) p1.exa (wk G 56) (wk G 57) (wk G 59) (wk G 59) (wk G 58) pd10 (by rw [hml]; rfl) all0 sf00 (D d25_1) (k_v 4 rfl ?_)
  rintro _ _ ⟨rfl, rfl⟩ -
  refine go_istore_n 5 (ls' := #[vr a, vi 0, vi 2, vi 3, un]) (D d25_4) rfl rfl ?_
  refine go_iload_n 6 (D d25_5) rfl rfl ?_
  refine go_iload_n 7 (D d25_6) rfl rfl ?_
  refine go_iload_n 8 (D d25_7) rfl rfl ?_
  refine callS0 (cells' := 0) (slots' := 0) (Wd := 0) (argsL := [(.int 0), (.int 2), (.int 3)]) (rest := []) (pay_of (a0 := a0) (c_cbbe l G (0 : Int32) (2 : Int32) (3 : Int32) h0 O0 (by decide) (by decide) (by decide)) (wk G 102) (wk G 5)) (wk G 100) (wk G 101) (wk G 5) (wk G 102) pd18 (by rw [hml]; rfl) all0 sf00 (D d25_8) (k_n 11 rfl ?_)
  rintro  h4 rfl K5
  refine go_iload_n 12 (D d25_11) rfl rfl ?_
  refine go_ifF 15 (D d25_12) rfl (by decide) ?_
  refine go_iload_n 16 (D d25_15) rfl rfl ?_
  refine go_iload_n 17 (D d25_16) rfl rfl ?_
  refine go_icT 22 (D d25_17) (by decide) rfl (by decide) ?_
  refine go_iload_n 23 (D d25_22) rfl rfl ?_
  refine go_iload_n 24 (D d25_23) rfl rfl ?_
  refine go_isub 25 (z := (2 : Int32)) (D d25_24) rfl (by decide) ?_
  refine go_istore 27 (ls' := #[vr a, vi 0, vi 2, vi 3, vi 2]) (D d25_25) rfl rfl ?_
  refine go_aload_n 28 (D d25_27) rfl rfl rfl ?_
  obtain ⟨t6, k7, E8, F9, F10, A11, B12, L13⟩ := id p1
  refine callV0 (cells' := 0) (slots' := 0) (Wd := 0) (argsL := []) (rest := []) (pay_of (a0 := a0) (c_islatin l G a h0 O0 F10) (wk G 55) (wk G 5)) E8 (wk G 51) (wk G 52) (wk G 54) (wk G 54) (wk G 53) pd9 (by rw [hml]; rfl) all0 sf00 (D d25_28) (k_v 31 rfl ?_)
  rintro _ h14 ⟨rfl, rfl⟩ K15
  refine go_ifF 34 (D d25_31) rfl (by decide) ?_
  refine go_aload_n 35 (D d25_34) rfl rfl rfl ?_
  refine go_getF 38 (wk G 36) Via.refl F9 (D d25_35) rfl ?_
  refine go_iload_n 39 (D d25_38) rfl rfl ?_
  refine go_iload 41 (D d25_39) rfl rfl ?_
  refine callS0 (cells' := 2) (slots' := 6) (Wd := 0) (argsL := [(.ref t6), (.int 0), (.int 2)]) (rest := []) (pay_of (a0 := a0) (c_news0_2_3 l G t6 k7 c0 c1 c2 h0 O0 A11 q1 q2 q3) (wk G 110) (wk G 68)) (wk G 108) (wk G 109) (wk G 68) (wk G 110) pd19 (by rw [hml]; rfl) all0 sf00 (D d25_41) (k_v 44 rfl ?_)
  rintro _ h16 ⟨r18, rfl, f19⟩ K17
  refine go_goto 57 (D d25_44) (by decide) rfl ?_
  have K20 : Keep h0 h16 [] := ((Keep.refl h0 []).trans K17 all0)
  refine go_areturn hret hlk rfl rfl (D d25_57) (by decide) (by decide) ⟨_, rfl, ⟨r18, rfl, f19⟩⟩ K20
theorem c_sch3 (G : GH Z a0) (a : Addr) (c0 c1 c2 : Int32) (h0 : Heap) (O0 : Old Z Z.heap.size h0) (p1 : Str Z h0 a [c0, c1, c2]) : Con true EL1 l Z (⟨"com/example/commit_feed/commitfeed/config/SqlNames", "schema", "(Ljava/lang/String;)Ljava/util/Optional;"⟩ : MethodName) prog_9_method_3_code 2 (some (.object "java/util/Optional")) [] (rm4 5 3 7 80) #[(.ref a)] h0 [] (rvl (Q_sch3 Z a c0 c1 c2 h0)) := by
  refine conW G (plainFor_of_name pn8) O0 (fun m => ef11 m a) ?_
  intro _ _ _ m_ _ _ _ D hml hret hlk hnm
  refine go_aload_n 1 (D d18_0) rfl rfl rfl ?_
  refine go_bipush 3 (v := 46) (D d18_1) rfl rfl ?_
  refine callV0 (cells' := 0) (slots' := 0) (Wd := 0) (argsL := [(.int 46)]) (rest := []) (pay_of (a0 := a0) (c_idx3 l G a c0 c1 c2 h0 O0 p1) (wk G 45) (wk G 5)) p1.exa (wk G 41) (wk G 42) (wk G 44) (wk G 44) (wk G 43) pd14 (by rw [hml]; rfl) all0 sf00 (D d18_3) (k_v 6 rfl ?_)
  rintro _ h1 (⟨rfl, rfl, f3⟩ | ⟨rfl, rfl, f4, f5⟩ | ⟨rfl, rfl, f6, f7, f8⟩ | ⟨rfl, rfl, f9, f10, f11⟩) K2
  · refine go_istore_n 7 (ls' := #[vr a, vi 0]) (D d18_6) rfl rfl ?_
    refine go_iload_n 8 (D d18_7) rfl rfl ?_
    refine go_ifT 17 (D d18_8) (by decide) rfl (by decide) ?_
    refine go_aload_n 18 (D d18_17) rfl rfl rfl ?_
    refine go_iconst 19 (v := 0) (D d18_18) rfl rfl ?_
    refine go_iload_n 20 (D d18_19) rfl rfl ?_
    refine callVW0 rfl (cells' := 2) (slots' := 4) (Wd := 0) (argsL := [(.int 0), (.int 0)]) (rest := []) (payW_of (a0 := a0) (c_sub0_0_3 l G a c0 c1 c2 h0 O0 p1) (wk G 99) (wk G 5) (ew1 G)) p1.exa (wk G 95) (wk G 96) (wk G 98) (wk G 98) (wk G 97) pd20 (by rw [hml]; rfl) all0 (D d18_20) (k_v 23 rfl ?_)
    rintro _ h12 ⟨r14, rfl, f15⟩ K13
    refine go_old (fun O16 => ?_)
    refine callS0 (cells' := 3) (slots' := 5) (Wd := 0) (argsL := [(.ref r14)]) (rest := []) (pay_of (a0 := a0) (c_opof l G r14 h12 O16 ) (wk G 114) (wk G 82)) (wk G 112) (wk G 113) (wk G 82) (wk G 114) pd21 (by rw [hml]; rfl) all0 sf00 (D d18_23) (k_v 26 rfl ?_)
    rintro _ h17 ⟨r19, rfl, f20, f21, f22⟩ K18
    have K23 : Keep h0 h12 [] := ((Keep.refl h0 []).trans K13 all0)
    have K24 : Keep h0 h17 [] := (K23.trans K18 all0)
    have K25 : Keep h12 h17 [] := ((Keep.refl h12 []).trans K18 all0)
    have S26 := (f15.keep K25)
    refine go_areturn hret hlk rfl rfl (D d18_26) (by decide) (by decide) ⟨_, rfl, (Or.inl ⟨r19, r14, rfl, f3, f21, f22, S26⟩)⟩ K24
  · refine go_istore_n 7 (ls' := #[vr a, vi 1]) (D d18_6) rfl rfl ?_
    refine go_iload_n 8 (D d18_7) rfl rfl ?_
    refine go_ifT 17 (D d18_8) (by decide) rfl (by decide) ?_
    refine go_aload_n 18 (D d18_17) rfl rfl rfl ?_
    refine go_iconst 19 (v := 0) (D d18_18) rfl rfl ?_
    refine go_iload_n 20 (D d18_19) rfl rfl ?_
    refine callV0 (cells' := 2) (slots' := 5) (Wd := 0) (argsL := [(.int 0), (.int 1)]) (rest := []) (pay_of (a0 := a0) (c_sub0_1_3 l G a c0 c1 c2 h0 O0 p1) (wk G 99) (wk G 5)) p1.exa (wk G 95) (wk G 96) (wk G 98) (wk G 98) (wk G 97) pd20 (by rw [hml]; rfl) all0 sf00 (D d18_20) (k_v 23 rfl ?_)
    rintro _ h27 ⟨r29, rfl, f30⟩ K28
    refine go_old (fun O31 => ?_)
    refine callS0 (cells' := 3) (slots' := 6) (Wd := 0) (argsL := [(.ref r29)]) (rest := []) (pay_of (a0 := a0) (c_opof l G r29 h27 O31 ) (wk G 114) (wk G 82)) (wk G 112) (wk G 113) (wk G 82) (wk G 114) pd21 (by rw [hml]; rfl) all0 sf00 (D d18_23) (k_v 26 rfl ?_)
    rintro _ h32 ⟨r34, rfl, f35, f36, f37⟩ K33
    have K38 : Keep h0 h27 [] := ((Keep.refl h0 []).trans K28 all0)
    have K39 : Keep h0 h32 [] := (K38.trans K33 all0)
    have K40 : Keep h27 h32 [] := ((Keep.refl h27 []).trans K33 all0)
    have S41 := (f30.keep K40)
    refine go_areturn hret hlk rfl rfl (D d18_26) (by decide) (by decide) ⟨_, rfl, (Or.inr (Or.inl ⟨r34, r29, rfl, f4, f5, f36, f37, S41⟩))⟩ K39
  · refine go_istore_n 7 (ls' := #[vr a, vi 2]) (D d18_6) rfl rfl ?_
    refine go_iload_n 8 (D d18_7) rfl rfl ?_
    refine go_ifT 17 (D d18_8) (by decide) rfl (by decide) ?_
    refine go_aload_n 18 (D d18_17) rfl rfl rfl ?_
    refine go_iconst 19 (v := 0) (D d18_18) rfl rfl ?_
    refine go_iload_n 20 (D d18_19) rfl rfl ?_
    refine callV0 (cells' := 2) (slots' := 6) (Wd := 0) (argsL := [(.int 0), (.int 2)]) (rest := []) (pay_of (a0 := a0) (c_sub0_2_3 l G a c0 c1 c2 h0 O0 p1) (wk G 99) (wk G 5)) p1.exa (wk G 95) (wk G 96) (wk G 98) (wk G 98) (wk G 97) pd20 (by rw [hml]; rfl) all0 sf00 (D d18_20) (k_v 23 rfl ?_)
    rintro _ h42 ⟨r44, rfl, f45⟩ K43
    refine go_old (fun O46 => ?_)
    refine callS0 (cells' := 3) (slots' := 7) (Wd := 0) (argsL := [(.ref r44)]) (rest := []) (pay_of (a0 := a0) (c_opof l G r44 h42 O46 ) (wk G 114) (wk G 82)) (wk G 112) (wk G 113) (wk G 82) (wk G 114) pd21 (by rw [hml]; rfl) all0 sf00 (D d18_23) (k_v 26 rfl ?_)
    rintro _ h47 ⟨r49, rfl, f50, f51, f52⟩ K48
    have K53 : Keep h0 h42 [] := ((Keep.refl h0 []).trans K43 all0)
    have K54 : Keep h0 h47 [] := (K53.trans K48 all0)
    have K55 : Keep h42 h47 [] := ((Keep.refl h42 []).trans K48 all0)
    have S56 := (f45.keep K55)
    refine go_areturn hret hlk rfl rfl (D d18_26) (by decide) (by decide) ⟨_, rfl, (Or.inr (Or.inr (Or.inl ⟨r49, r44, rfl, f6, f7, f8, f51, f52, S56⟩)))⟩ K54
  · refine go_istore_n 7 (ls' := #[vr a, vi (-1 : Int32)]) (D d18_6) rfl rfl ?_
    refine go_iload_n 8 (D d18_7) rfl rfl ?_
    refine go_ifF 11 (D d18_8) rfl (by decide) ?_
    refine callS0 (cells' := 0) (slots' := 0) (Wd := 0) (argsL := []) (rest := []) (pay_of (a0 := a0) (c_opempty l G  h0 O0 ) (wk G 83) (wk G 82)) (wk G 80) (wk G 81) (wk G 82) (wk G 83) pd15 (by rw [hml]; rfl) all0 sf00 (D d18_11) (k_v 14 rfl ?_)
    rintro _ h57 ⟨rfl, rfl⟩ K58
    refine go_goto 26 (D d18_14) (by decide) rfl ?_
    refine go_areturn hret hlk rfl rfl (D d18_26) (by decide) (by decide) ⟨_, rfl, (Or.inr (Or.inr (Or.inr (⟨rfl, f9, f10, f11⟩))))⟩ (Keep.refl h0 [])
theorem c_law (G : GH Z a0) (x0 x1 x2 x3 : Int32)  (h0 : Heap) (O0 : Old Z Z.heap.size h0)  : Con true EL1 l Z x code maxLocals ret tables_1 room_1 #[(.int x0), (.int x1), (.int x2), (.int x3)] h0 [] (rvl (Q_law Z x0 x1 x2 x3 h0)) := by
  refine conW G (plainFor_of_name pn6) O0 (fun m => ef10 m x0 x1 x2 x3) ?_
  intro _ _ _ m_ _ _ _ D hml hret hlk hnm
  refine go_iload_n 1 (D at_0) rfl rfl ?_
  refine go_iconst 2 (v := 3) (D at_1) rfl rfl ?_
  refine go_iand 3 (z := (x0 &&& (3 : Int32))) (D at_2) rfl rfl ?_
  refine go_istore 5 (ls' := #[vi x0, vi x1, vi x2, vi x3, vi (x0 &&& (3 : Int32)), un, un, un, un, un, un, un]) (D at_3) rfl rfl ?_
  refine go_iload_n 6 (D at_5) rfl rfl ?_
  refine callS0 (cells' := 0) (slots' := 0) (Wd := 0) (argsL := [(.int x1)]) (rest := []) (pay_of (a0 := a0) (c_draw l G x1 h0 O0 ) (wk G 3) (wk G 2)) (wk G 0) (wk G 1) (wk G 2) (wk G 3) pd7 (by rw [hml]; rfl) all0 sf00 (D at_6) (k_v 9 rfl ?_)
  rintro _ h1 ⟨r3, rfl, rfl, f4⟩ K2
  refine go_istore 11 (ls' := #[vi x0, vi x1, vi x2, vi x3, vi (x0 &&& (3 : Int32)), vi r3, un, un, un, un, un, un]) (D at_9) rfl rfl ?_
  refine go_iload_n 12 (D at_11) rfl rfl ?_
  refine callS0 (cells' := 0) (slots' := 0) (Wd := 0) (argsL := [(.int x2)]) (rest := []) (pay_of (a0 := a0) (c_draw l G x2 h0 O0 ) (wk G 3) (wk G 2)) (wk G 0) (wk G 1) (wk G 2) (wk G 3) pd7 (by rw [hml]; rfl) all0 sf00 (D at_12) (k_v 15 rfl ?_)
  rintro _ h5 ⟨r7, rfl, rfl, f8⟩ K6
  refine go_istore 17 (ls' := #[vi x0, vi x1, vi x2, vi x3, vi (x0 &&& (3 : Int32)), vi r3, vi r7, un, un, un, un, un]) (D at_15) rfl rfl ?_
  refine go_iload_n 18 (D at_17) rfl rfl ?_
  refine callS0 (cells' := 0) (slots' := 0) (Wd := 0) (argsL := [(.int x3)]) (rest := []) (pay_of (a0 := a0) (c_draw l G x3 h0 O0 ) (wk G 3) (wk G 2)) (wk G 0) (wk G 1) (wk G 2) (wk G 3) pd7 (by rw [hml]; rfl) all0 sf00 (D at_18) (k_v 21 rfl ?_)
  rintro _ h9 ⟨r11, rfl, rfl, f12⟩ K10
  refine go_istore 23 (ls' := #[vi x0, vi x1, vi x2, vi x3, vi (x0 &&& (3 : Int32)), vi r3, vi r7, vi r11, un, un, un, un]) (D at_21) rfl rfl ?_
  rcases and4 x0 with q13 | q13 | q13 | q13
  · rw [q13]
    refine go_iload 25 (D at_23) rfl rfl ?_
    refine go_ifF 28 (D at_25) rfl (by decide) ?_
    refine go_ldcH 30 (cells' := 2) (slots' := 4) (n := 0) (vs := (([] : List Int32).map fun c => c.toInt8.toInt32).map Value.int) (z := (0 : Int32)) rfl (by decide) (wk G 4) (wS G) (by decide +kernel) (by decide) (by decide) (by decide) (by decide) (D at_28) rfl rfl rfl (by decide) (by decide) (fun h14 a15 t17 k18 X16 E19 F20 F21 A22 => ?_)
    have S23 : Str Z h14 a15 [] := ⟨t17, k18, E19, F21, F20, A22, by decide, by decide⟩
    refine go_astore 32 (ls' := #[vi x0, vi x1, vi x2, vi x3, vi 0, vi r3, vi r7, vi r11, vr a15, un, un, un]) (D at_30) rfl rfl rfl ?_
    refine go_goto 109 (D at_32) (by decide) rfl ?_
    refine go_iconst 110 (v := (-1)) (D at_109) rfl rfl ?_
    refine go_istore 112 (ls' := #[vi x0, vi x1, vi x2, vi x3, vi 0, vi r3, vi r7, vi r11, vr a15, vi (-1 : Int32), un, un]) (D at_110) rfl rfl ?_
    refine go_iload 114 (D at_112) rfl rfl ?_
    refine go_ifT 130 (D at_114) (by decide) rfl (by decide) ?_
    refine go_iload 132 (D at_130) rfl rfl ?_
    refine go_iconst 133 (v := 1) (D at_132) rfl rfl ?_
    refine go_icT 149 (D at_133) (by decide) rfl (by decide) ?_
    refine go_iload 151 (D at_149) rfl rfl ?_
    refine go_iconst 152 (v := 2) (D at_151) rfl rfl ?_
    refine go_icT 165 (D at_152) (by decide) rfl (by decide) ?_
    refine go_iload 167 (D at_165) rfl rfl ?_
    refine go_ifT 177 (D at_167) (by decide) rfl (by decide) ?_
    refine go_iload 179 (D at_177) rfl rfl ?_
    refine go_iconst 180 (v := 1) (D at_179) rfl rfl ?_
    refine go_icT 193 (D at_180) (by decide) rfl (by decide) ?_
    refine go_newO 196 (cells' := 3) (slots' := 8) (wk G 12) (wk G 6) (wk G 5) (D at_193) rfl rfl rfl (by decide) (by decide) (fun h24 a25 g26 X27 E28 D29 U30 => ?_)
    refine go_dup 197 (D at_196) rfl rfl ?_
    refine go_iconst 198 (v := 2) (D at_197) rfl rfl ?_
    refine go_newP 200 (cells' := 4) (slots' := 10) (cap := 2) (vs := [(.int 0), (.int 0)]) (ty := .char) (dv := .int 0) (wk G 13) rfl rfl (D at_198) rfl (by decide) rfl (by decide) rfl rfl rfl (by decide) (by decide) (fun h31 a32 k36 g33 X34 A35 => ?_)
    refine go_dup 201 (D at_200) rfl rfl ?_
    refine go_iconst 202 (v := 0) (D at_201) rfl rfl ?_
    refine go_iload 204 (D at_202) rfl rfl ?_
    have K40 : Keep h0 h14 [] := ((Keep.refl h0 []).ext X16)
    have K41 : Keep h0 h24 [] := (K40.ext X27)
    refine go_stC 205 (i := 0) (x' := r3) (vs' := [(.int r3), (.int 0)]) A35 (Nat.le_trans O0.2.1 (Nat.le_trans K41.1 (Nat.le_of_eq g33))) (by decide) (by decide) rfl (nb rfl) (i2c_c8 f4) rfl (D at_204) rfl (fun h37 W38 A39 => ?_)
    refine go_dup 206 (D at_205) rfl rfl ?_
    refine go_iconst 207 (v := 1) (D at_206) rfl rfl ?_
    refine go_iload 209 (D at_207) rfl rfl ?_
    refine go_stC 210 (i := 1) (x' := r7) (vs' := [(.int r3), (.int r7)]) A39 (Nat.le_trans O0.2.1 (Nat.le_trans K41.1 (Nat.le_of_eq g33))) (by decide) (by decide) rfl (nb rfl) (i2c_c8 f8) rfl (D at_209) rfl (fun h42 W43 A44 => ?_)
    have K45 : Keep h24 h31 [] := ((Keep.refl h24 []).ext X34)
    have K46 : Keep h24 h37 [] := (K45.wr W38 (Or.inr (Nat.le_of_eq g33)))
    have K47 : Keep h24 h42 [] := (K46.wr W43 (Or.inr (Nat.le_of_eq g33)))
    have E48 := (E28.keep K47)
    have F49 := D29 (Or.inr (wk G 8)) (ty := (.array .byte)) (by decide)
    have F50 := (F49.keep K47 nin0)
    have F51 := D29 (Or.inr (wk G 9)) (ty := .byte) (by decide)
    have F52 := (F51.keep K47 nin0)
    refine go_old (fun O53 => ?_)
    refine callI0 (cells' := 5) (slots' := 12) (Wd := 1) (argsL := [(.ref a32)]) (rest := [(.ref a25)]) (pay_new G O53 (cs := [r3, r7]) (n := 2) (Nat.le_trans O0.2.1 (Nat.le_trans K40.1 (Nat.le_of_eq g26))) E48 F50 F52 A44 rfl rfl (by decide) (by decide) (c8c f4 (c8c f8 c8n)) (by decide) (by decide)) rfl (wk G 14) (wk G 15) (wk G 16) pd8 (by rw [hml]; rfl) (allS (Nat.le_trans O0.2.1 (Nat.le_trans K40.1 (Nat.le_of_eq g26))) all0) (fun _ hal => (sfS (safe_null hal E48 F50) sf0)) (D at_210) (k_n 213 rfl ?_)
    rintro h54 S56 K55
    refine go_astore 215 (ls' := #[vi x0, vi x1, vi x2, vi x3, vi 0, vi r3, vi r7, vi r11, vr a15, vi (-1 : Int32), vr a25, un]) (D at_213) rfl rfl rfl ?_
    refine go_aload 217 (D at_215) rfl rfl rfl ?_
    have K57 : Keep h14 h24 [] := ((Keep.refl h14 []).ext X27)
    have K58 : Keep h14 h31 [] := (K57.ext X34)
    have K59 : Keep h14 h37 [] := (K58.wr W38 (Or.inr (Nat.le_trans K57.1 (Nat.le_of_eq g33))))
    have K60 : Keep h14 h42 [] := (K59.wr W43 (Or.inr (Nat.le_trans K57.1 (Nat.le_of_eq g33))))
    have K61 : Keep h14 h54 [] := (K60.trans K55 (allS (Or.inr (Nat.le_of_eq g26)) all0))
    have S62 := (S23.keep K61)
    refine go_old (fun O63 => ?_)
    refine callSW0 rfl (cells' := 5) (slots' := 12) (Wd := 0) (argsL := [(.ref a15)]) (rest := []) (payW_of (a0 := a0) (c_sch0 l G a15 h54 O63 S62) (wk G 40) (wk G 39) (ew1 G)) (wk G 37) (wk G 38) (wk G 39) (wk G 40) pd16 (by rw [hml]; rfl) all0 (D at_217) (k_v 220 rfl ?_)
    rintro _ h64 rfl K65
    refine go_astore 222 (ls' := #[vi x0, vi x1, vi x2, vi x3, vi 0, vi r3, vi r7, vi r11, vr a15, vi (-1 : Int32), vr a25, vr (s_OE Z)]) (D at_220) rfl rfl rfl ?_
    refine go_iload 224 (D at_222) rfl rfl ?_
    refine go_ifF 227 (D at_224) rfl (by decide) ?_
    refine go_aload 229 (D at_227) rfl rfl rfl ?_
    refine go_old (fun O67 => ?_)
    have Z66 := (oe_all G).2.2.ext O67.2
    have Z68 := (oe_all G).2.1.ext O67.2
    refine callV0 (cells' := 5) (slots' := 12) (Wd := 0) (argsL := []) (rest := []) (pay_of (a0 := a0) (c_ispresN l G (s_OE Z) h64 O67 Z66) (wk G 89) (wk G 82)) Z68 (wk G 85) (wk G 86) (wk G 88) (wk G 88) (wk G 87) pd9 (by rw [hml]; rfl) all0 sf00 (D at_229) (k_v 232 rfl ?_)
    rintro _ h69 ⟨rfl, rfl⟩ K70
    refine go_ifF 235 (D at_232) rfl (by decide) ?_
    refine go_iconst 236 (v := 1) (D at_235) rfl rfl ?_
    refine go_goto 240 (D at_236) (by decide) rfl ?_
    have K71 : Keep h0 h31 [] := (K41.ext X34)
    have K72 : Keep h0 h37 [] := (K71.wr W38 (Or.inr (Nat.le_trans K41.1 (Nat.le_of_eq g33))))
    have K73 : Keep h0 h42 [] := (K72.wr W43 (Or.inr (Nat.le_trans K41.1 (Nat.le_of_eq g33))))
    have K74 : Keep h0 h54 [] := (K73.trans K55 (allS (Or.inr (Nat.le_trans K40.1 (Nat.le_of_eq g26))) all0))
    have K75 : Keep h0 h64 [] := (K74.trans K65 all0)
    refine go_ireturn hret hlk rfl (by simp) (D at_240) (by decide) (by decide) ⟨_, rfl, rfl⟩ K75
  · rw [q13]
    refine go_iload 25 (D at_23) rfl rfl ?_
    refine go_ifT 35 (D at_25) (by decide) rfl (by decide) ?_
    refine go_iload 37 (D at_35) rfl rfl ?_
    refine go_iconst 38 (v := 1) (D at_37) rfl rfl ?_
    refine go_icF 41 (D at_38) rfl (by decide) ?_
    refine go_iload 43 (D at_41) rfl rfl ?_
    refine callS0 (cells' := 2) (slots' := 5) (Wd := 0) (argsL := [(.int r3)]) (rest := []) (pay_of (a0 := a0) (c_valueof l G r3 h0 O0 f4) (wk G 138) (wk G 5)) (wk G 136) (wk G 137) (wk G 5) (wk G 138) pd17 (by rw [hml]; rfl) all0 sf00 (D at_43) (k_v 46 rfl ?_)
    rintro _ h76 ⟨r78, rfl, f79, f80⟩ K77
    refine go_astore 48 (ls' := #[vi x0, vi x1, vi x2, vi x3, vi 1, vi r3, vi r7, vi r11, vr r78, un, un, un]) (D at_46) rfl rfl rfl ?_
    refine go_goto 109 (D at_48) (by decide) rfl ?_
    refine go_iconst 110 (v := (-1)) (D at_109) rfl rfl ?_
    refine go_istore 112 (ls' := #[vi x0, vi x1, vi x2, vi x3, vi 1, vi r3, vi r7, vi r11, vr r78, vi (-1 : Int32), un, un]) (D at_110) rfl rfl ?_
    refine go_iload 114 (D at_112) rfl rfl ?_
    refine go_ifF 117 (D at_114) rfl (by decide) ?_
    refine go_iload 119 (D at_117) rfl rfl ?_
    refine go_bipush 121 (v := 46) (D at_119) rfl rfl ?_
    by_cases cz81 : r3 = (46 : Int32)
    · refine go_icF 124 (D at_121) rfl (XT.ii_ne_f cz81) ?_
      refine go_iconst 125 (v := 0) (D at_124) rfl rfl ?_
      refine go_istore 127 (ls' := #[vi x0, vi x1, vi x2, vi x3, vi 1, vi r3, vi r7, vi r11, vr r78, vi 0, un, un]) (D at_125) rfl rfl ?_
      refine go_goto 165 (D at_127) (by decide) rfl ?_
      refine go_iload 167 (D at_165) rfl rfl ?_
      refine go_ifF 170 (D at_167) rfl (by decide) ?_
      refine go_ldcH 172 (cells' := 4) (slots' := 9) (n := 0) (vs := (([] : List Int32).map fun c => c.toInt8.toInt32).map Value.int) (z := (0 : Int32)) rfl (by decide) (wk G 4) (wS G) (by decide +kernel) (by decide) (by decide) (by decide) (by decide) (D at_170) rfl rfl rfl (by decide) (by decide) (fun h82 a83 t85 k86 X84 E87 F88 F89 A90 => ?_)
      have S91 : Str Z h82 a83 [] := ⟨t85, k86, E87, F89, F88, A90, by decide, by decide⟩
      refine go_astore 174 (ls' := #[vi x0, vi x1, vi x2, vi x3, vi 1, vi r3, vi r7, vi r11, vr r78, vi 0, vr a83, un]) (D at_172) rfl rfl rfl ?_
      refine go_goto 215 (D at_174) (by decide) rfl ?_
      refine go_aload 217 (D at_215) rfl rfl rfl ?_
      have K92 : Keep h76 h82 [] := ((Keep.refl h76 []).ext X84)
      have S93 := (f80.keep K92)
      refine go_old (fun O94 => ?_)
      refine callSW0 rfl (cells' := 7) (slots' := 14) (Wd := 0) (argsL := [(.ref r78)]) (rest := []) (payW_of (a0 := a0) (c_sch1 l G r78 r3 h82 O94 S93) (wk G 40) (wk G 39) (ew1 G)) (wk G 37) (wk G 38) (wk G 39) (wk G 40) pd16 (by rw [hml]; rfl) all0 (D at_217) (k_v 220 rfl ?_)
      rintro _ h95 (⟨r97, r98, rfl, f99, f100, f101, f102⟩ | ⟨rfl, f103⟩) K96
      · refine go_astore 222 (ls' := #[vi x0, vi x1, vi x2, vi x3, vi 1, vi r3, vi r7, vi r11, vr r78, vi 0, vr a83, vr r97]) (D at_220) rfl rfl rfl ?_
        refine go_iload 224 (D at_222) rfl rfl ?_
        refine go_ifT 241 (D at_224) (by decide) rfl (by decide) ?_
        refine go_aload 243 (D at_241) rfl rfl rfl ?_
        refine go_old (fun O104 => ?_)
        refine callV0 (cells' := 7) (slots' := 14) (Wd := 0) (argsL := []) (rest := []) (pay_of (a0 := a0) (c_ispresR l G r97 r98 h95 O104 f101) (wk G 89) (wk G 82)) f100 (wk G 85) (wk G 86) (wk G 88) (wk G 88) (wk G 87) pd9 (by rw [hml]; rfl) all0 sf00 (D at_243) (k_v 246 rfl ?_)
        rintro _ h105 ⟨rfl, rfl⟩ K106
        refine go_ifF 249 (D at_246) rfl (by decide) ?_
        refine go_aload 251 (D at_249) rfl rfl rfl ?_
        refine callV0 (cells' := 7) (slots' := 14) (Wd := 0) (argsL := []) (rest := []) (pay_of (a0 := a0) (c_opget l G r97 r98 h95 O104 f101) (wk G 130) (wk G 82)) f100 (wk G 126) (wk G 127) (wk G 129) (wk G 129) (wk G 128) pd22 (by rw [hml]; rfl) all0 sf00 (D at_251) (k_v 254 rfl ?_)
        rintro _ h107 ⟨rfl, rfl⟩ K108
        refine go_cast 257 (wk G 12) (Ins.self f102.exa) (D at_254) rfl ?_
        refine go_aload 259 (D at_257) rfl rfl rfl ?_
        have K109 : Keep h82 h95 [] := ((Keep.refl h82 []).trans K96 all0)
        have S110 := (S91.keep K109)
        refine callV0 (cells' := 7) (slots' := 14) (Wd := 0) (argsL := [(.ref a83)]) (rest := []) (pay_eq G O104 f102 S110 (by decide) (by decide)) f102.exa (wk G 131) (wk G 132) (wk G 134) (wk G 134) (wk G 133) pd23 (by rw [hml]; rfl) all0 sf00 (D at_259) (k_v 262 rfl ?_)
        rintro _ _ (⟨rfl, q111, rfl⟩ | ⟨rfl, q111, rfl⟩) -
        rotate_left 1
        · exact absurd rfl q111
        refine go_ifF 265 (D at_262) rfl (by decide) ?_
        refine go_iconst 266 (v := 1) (D at_265) rfl rfl ?_
        refine go_goto 270 (D at_266) (by decide) rfl ?_
        have K112 : Keep h0 h76 [] := ((Keep.refl h0 []).trans K77 all0)
        have K113 : Keep h0 h82 [] := (K112.ext X84)
        have K114 : Keep h0 h95 [] := (K113.trans K96 all0)
        refine go_ireturn hret hlk rfl (by simp) (D at_270) (by decide) (by decide) ⟨_, rfl, rfl⟩ K114
      · exact absurd cz81 f103
    · refine go_icT 130 (D at_121) (by decide) rfl (XT.ii_ne_t cz81) ?_
      refine go_iload 132 (D at_130) rfl rfl ?_
      refine go_iconst 133 (v := 1) (D at_132) rfl rfl ?_
      refine go_icT 149 (D at_133) (by decide) rfl (by decide) ?_
      refine go_iload 151 (D at_149) rfl rfl ?_
      refine go_iconst 152 (v := 2) (D at_151) rfl rfl ?_
      refine go_icT 165 (D at_152) (by decide) rfl (by decide) ?_
      refine go_iload 167 (D at_165) rfl rfl ?_
      refine go_ifT 177 (D at_167) (by decide) rfl (by decide) ?_
      refine go_iload 179 (D at_177) rfl rfl ?_
      refine go_iconst 180 (v := 1) (D at_179) rfl rfl ?_
      refine go_icT 193 (D at_180) (by decide) rfl (by decide) ?_
      refine go_newO 196 (cells' := 3) (slots' := 9) (wk G 12) (wk G 6) (wk G 5) (D at_193) rfl rfl rfl (by decide) (by decide) (fun h115 a116 g117 X118 E119 D120 U121 => ?_)
      refine go_dup 197 (D at_196) rfl rfl ?_
      refine go_iconst 198 (v := 2) (D at_197) rfl rfl ?_
      refine go_newP 200 (cells' := 4) (slots' := 11) (cap := 2) (vs := [(.int 0), (.int 0)]) (ty := .char) (dv := .int 0) (wk G 13) rfl rfl (D at_198) rfl (by decide) rfl (by decide) rfl rfl rfl (by decide) (by decide) (fun h122 a123 k127 g124 X125 A126 => ?_)
      refine go_dup 201 (D at_200) rfl rfl ?_
      refine go_iconst 202 (v := 0) (D at_201) rfl rfl ?_
      refine go_iload 204 (D at_202) rfl rfl ?_
      have K131 : Keep h0 h76 [] := ((Keep.refl h0 []).trans K77 all0)
      have K132 : Keep h0 h115 [] := (K131.ext X118)
      refine go_stC 205 (i := 0) (x' := r3) (vs' := [(.int r3), (.int 0)]) A126 (Nat.le_trans O0.2.1 (Nat.le_trans K132.1 (Nat.le_of_eq g124))) (by decide) (by decide) rfl (nb rfl) (i2c_c8 f4) rfl (D at_204) rfl (fun h128 W129 A130 => ?_)
      refine go_dup 206 (D at_205) rfl rfl ?_
      refine go_iconst 207 (v := 1) (D at_206) rfl rfl ?_
      refine go_iload 209 (D at_207) rfl rfl ?_
      refine go_stC 210 (i := 1) (x' := r7) (vs' := [(.int r3), (.int r7)]) A130 (Nat.le_trans O0.2.1 (Nat.le_trans K132.1 (Nat.le_of_eq g124))) (by decide) (by decide) rfl (nb rfl) (i2c_c8 f8) rfl (D at_209) rfl (fun h133 W134 A135 => ?_)
      have K136 : Keep h115 h122 [] := ((Keep.refl h115 []).ext X125)
      have K137 : Keep h115 h128 [] := (K136.wr W129 (Or.inr (Nat.le_of_eq g124)))
      have K138 : Keep h115 h133 [] := (K137.wr W134 (Or.inr (Nat.le_of_eq g124)))
      have E139 := (E119.keep K138)
      have F140 := D120 (Or.inr (wk G 8)) (ty := (.array .byte)) (by decide)
      have F141 := (F140.keep K138 nin0)
      have F142 := D120 (Or.inr (wk G 9)) (ty := .byte) (by decide)
      have F143 := (F142.keep K138 nin0)
      refine go_old (fun O144 => ?_)
      refine callI0 (cells' := 5) (slots' := 13) (Wd := 1) (argsL := [(.ref a123)]) (rest := [(.ref a116)]) (pay_new G O144 (cs := [r3, r7]) (n := 2) (Nat.le_trans O0.2.1 (Nat.le_trans K131.1 (Nat.le_of_eq g117))) E139 F141 F143 A135 rfl rfl (by decide) (by decide) (c8c f4 (c8c f8 c8n)) (by decide) (by decide)) rfl (wk G 14) (wk G 15) (wk G 16) pd8 (by rw [hml]; rfl) (allS (Nat.le_trans O0.2.1 (Nat.le_trans K131.1 (Nat.le_of_eq g117))) all0) (fun _ hal => (sfS (safe_null hal E139 F141) sf0)) (D at_210) (k_n 213 rfl ?_)
      rintro h145 S147 K146
      refine go_astore 215 (ls' := #[vi x0, vi x1, vi x2, vi x3, vi 1, vi r3, vi r7, vi r11, vr r78, vi (-1 : Int32), vr a116, un]) (D at_213) rfl rfl rfl ?_
      refine go_aload 217 (D at_215) rfl rfl rfl ?_
      have K148 : Keep h76 h115 [] := ((Keep.refl h76 []).ext X118)
      have K149 : Keep h76 h122 [] := (K148.ext X125)
      have K150 : Keep h76 h128 [] := (K149.wr W129 (Or.inr (Nat.le_trans K148.1 (Nat.le_of_eq g124))))
      have K151 : Keep h76 h133 [] := (K150.wr W134 (Or.inr (Nat.le_trans K148.1 (Nat.le_of_eq g124))))
      have K152 : Keep h76 h145 [] := (K151.trans K146 (allS (Or.inr (Nat.le_of_eq g117)) all0))
      have S153 := (f80.keep K152)
      refine go_old (fun O154 => ?_)
      refine callSW0 rfl (cells' := 8) (slots' := 18) (Wd := 0) (argsL := [(.ref r78)]) (rest := []) (payW_of (a0 := a0) (c_sch1 l G r78 r3 h145 O154 S153) (wk G 40) (wk G 39) (ew1 G)) (wk G 37) (wk G 38) (wk G 39) (wk G 40) pd16 (by rw [hml]; rfl) all0 (D at_217) (k_v 220 rfl ?_)
      rintro _ h155 (⟨r157, r158, rfl, f159, f160, f161, f162⟩ | ⟨rfl, f163⟩) K156
      · exact absurd f159 cz81
      · refine go_astore 222 (ls' := #[vi x0, vi x1, vi x2, vi x3, vi 1, vi r3, vi r7, vi r11, vr r78, vi (-1 : Int32), vr a116, vr (s_OE Z)]) (D at_220) rfl rfl rfl ?_
        refine go_iload 224 (D at_222) rfl rfl ?_
        refine go_ifF 227 (D at_224) rfl (by decide) ?_
        refine go_aload 229 (D at_227) rfl rfl rfl ?_
        refine go_old (fun O165 => ?_)
        have Z164 := (oe_all G).2.2.ext O165.2
        have Z166 := (oe_all G).2.1.ext O165.2
        refine callV0 (cells' := 8) (slots' := 18) (Wd := 0) (argsL := []) (rest := []) (pay_of (a0 := a0) (c_ispresN l G (s_OE Z) h155 O165 Z164) (wk G 89) (wk G 82)) Z166 (wk G 85) (wk G 86) (wk G 88) (wk G 88) (wk G 87) pd9 (by rw [hml]; rfl) all0 sf00 (D at_229) (k_v 232 rfl ?_)
        rintro _ h167 ⟨rfl, rfl⟩ K168
        refine go_ifF 235 (D at_232) rfl (by decide) ?_
        refine go_iconst 236 (v := 1) (D at_235) rfl rfl ?_
        refine go_goto 240 (D at_236) (by decide) rfl ?_
        have K169 : Keep h0 h122 [] := (K132.ext X125)
        have K170 : Keep h0 h128 [] := (K169.wr W129 (Or.inr (Nat.le_trans K132.1 (Nat.le_of_eq g124))))
        have K171 : Keep h0 h133 [] := (K170.wr W134 (Or.inr (Nat.le_trans K132.1 (Nat.le_of_eq g124))))
        have K172 : Keep h0 h145 [] := (K171.trans K146 (allS (Or.inr (Nat.le_trans K131.1 (Nat.le_of_eq g117))) all0))
        have K173 : Keep h0 h155 [] := (K172.trans K156 all0)
        refine go_ireturn hret hlk rfl (by simp) (D at_240) (by decide) (by decide) ⟨_, rfl, rfl⟩ K173
  · rw [q13]
    refine go_iload 25 (D at_23) rfl rfl ?_
    refine go_ifT 35 (D at_25) (by decide) rfl (by decide) ?_
    refine go_iload 37 (D at_35) rfl rfl ?_
    refine go_iconst 38 (v := 1) (D at_37) rfl rfl ?_
    refine go_icT 51 (D at_38) (by decide) rfl (by decide) ?_
    refine go_iload 53 (D at_51) rfl rfl ?_
    refine go_iconst 54 (v := 2) (D at_53) rfl rfl ?_
    refine go_icF 57 (D at_54) rfl (by decide) ?_
    refine go_newO 60 (cells' := 1) (slots' := 4) (wk G 12) (wk G 6) (wk G 5) (D at_57) rfl rfl rfl (by decide) (by decide) (fun h174 a175 g176 X177 E178 D179 U180 => ?_)
    refine go_dup 61 (D at_60) rfl rfl ?_
    refine go_iconst 62 (v := 2) (D at_61) rfl rfl ?_
    refine go_newP 64 (cells' := 2) (slots' := 6) (cap := 2) (vs := [(.int 0), (.int 0)]) (ty := .char) (dv := .int 0) (wk G 13) rfl rfl (D at_62) rfl (by decide) rfl (by decide) rfl rfl rfl (by decide) (by decide) (fun h181 a182 k186 g183 X184 A185 => ?_)
    refine go_dup 65 (D at_64) rfl rfl ?_
    refine go_iconst 66 (v := 0) (D at_65) rfl rfl ?_
    refine go_iload 68 (D at_66) rfl rfl ?_
    have K190 : Keep h0 h174 [] := ((Keep.refl h0 []).ext X177)
    refine go_stC 69 (i := 0) (x' := r3) (vs' := [(.int r3), (.int 0)]) A185 (Nat.le_trans O0.2.1 (Nat.le_trans K190.1 (Nat.le_of_eq g183))) (by decide) (by decide) rfl (nb rfl) (i2c_c8 f4) rfl (D at_68) rfl (fun h187 W188 A189 => ?_)
    refine go_dup 70 (D at_69) rfl rfl ?_
    refine go_iconst 71 (v := 1) (D at_70) rfl rfl ?_
    refine go_iload 73 (D at_71) rfl rfl ?_
    refine go_stC 74 (i := 1) (x' := r7) (vs' := [(.int r3), (.int r7)]) A189 (Nat.le_trans O0.2.1 (Nat.le_trans K190.1 (Nat.le_of_eq g183))) (by decide) (by decide) rfl (nb rfl) (i2c_c8 f8) rfl (D at_73) rfl (fun h191 W192 A193 => ?_)
    have K194 : Keep h174 h181 [] := ((Keep.refl h174 []).ext X184)
    have K195 : Keep h174 h187 [] := (K194.wr W188 (Or.inr (Nat.le_of_eq g183)))
    have K196 : Keep h174 h191 [] := (K195.wr W192 (Or.inr (Nat.le_of_eq g183)))
    have E197 := (E178.keep K196)
    have F198 := D179 (Or.inr (wk G 8)) (ty := (.array .byte)) (by decide)
    have F199 := (F198.keep K196 nin0)
    have F200 := D179 (Or.inr (wk G 9)) (ty := .byte) (by decide)
    have F201 := (F200.keep K196 nin0)
    refine go_old (fun O202 => ?_)
    refine callI0 (cells' := 3) (slots' := 8) (Wd := 1) (argsL := [(.ref a182)]) (rest := [(.ref a175)]) (pay_new G O202 (cs := [r3, r7]) (n := 2) (Nat.le_trans O0.2.1 (Nat.le_of_eq g176)) E197 F199 F201 A193 rfl rfl (by decide) (by decide) (c8c f4 (c8c f8 c8n)) (by decide) (by decide)) rfl (wk G 14) (wk G 15) (wk G 16) pd8 (by rw [hml]; rfl) (allS (Nat.le_trans O0.2.1 (Nat.le_of_eq g176)) all0) (fun _ hal => (sfS (safe_null hal E197 F199) sf0)) (D at_74) (k_n 77 rfl ?_)
    rintro h203 S205 K204
    refine go_astore 79 (ls' := #[vi x0, vi x1, vi x2, vi x3, vi 2, vi r3, vi r7, vi r11, vr a175, un, un, un]) (D at_77) rfl rfl rfl ?_
    refine go_goto 109 (D at_79) (by decide) rfl ?_
    refine go_iconst 110 (v := (-1)) (D at_109) rfl rfl ?_
    refine go_istore 112 (ls' := #[vi x0, vi x1, vi x2, vi x3, vi 2, vi r3, vi r7, vi r11, vr a175, vi (-1 : Int32), un, un]) (D at_110) rfl rfl ?_
    refine go_iload 114 (D at_112) rfl rfl ?_
    refine go_ifF 117 (D at_114) rfl (by decide) ?_
    refine go_iload 119 (D at_117) rfl rfl ?_
    refine go_bipush 121 (v := 46) (D at_119) rfl rfl ?_
    by_cases cz206 : r3 = (46 : Int32)
    · refine go_icF 124 (D at_121) rfl (XT.ii_ne_f cz206) ?_
      refine go_iconst 125 (v := 0) (D at_124) rfl rfl ?_
      refine go_istore 127 (ls' := #[vi x0, vi x1, vi x2, vi x3, vi 2, vi r3, vi r7, vi r11, vr a175, vi 0, un, un]) (D at_125) rfl rfl ?_
      refine go_goto 165 (D at_127) (by decide) rfl ?_
      refine go_iload 167 (D at_165) rfl rfl ?_
      refine go_ifF 170 (D at_167) rfl (by decide) ?_
      refine go_ldcH 172 (cells' := 5) (slots' := 12) (n := 0) (vs := (([] : List Int32).map fun c => c.toInt8.toInt32).map Value.int) (z := (0 : Int32)) rfl (by decide) (wk G 4) (wS G) (by decide +kernel) (by decide) (by decide) (by decide) (by decide) (D at_170) rfl rfl rfl (by decide) (by decide) (fun h207 a208 t210 k211 X209 E212 F213 F214 A215 => ?_)
      have S216 : Str Z h207 a208 [] := ⟨t210, k211, E212, F214, F213, A215, by decide, by decide⟩
      refine go_astore 174 (ls' := #[vi x0, vi x1, vi x2, vi x3, vi 2, vi r3, vi r7, vi r11, vr a175, vi 0, vr a208, un]) (D at_172) rfl rfl rfl ?_
      refine go_goto 215 (D at_174) (by decide) rfl ?_
      refine go_aload 217 (D at_215) rfl rfl rfl ?_
      have K217 : Keep h203 h207 [] := ((Keep.refl h203 []).ext X209)
      have S218 := (S205.keep K217)
      refine go_old (fun O219 => ?_)
      refine callSW0 rfl (cells' := 8) (slots' := 18) (Wd := 0) (argsL := [(.ref a175)]) (rest := []) (payW_of (a0 := a0) (c_sch2 l G a175 r3 r7 h207 O219 S218) (wk G 40) (wk G 39) (ew1 G)) (wk G 37) (wk G 38) (wk G 39) (wk G 40) pd16 (by rw [hml]; rfl) all0 (D at_217) (k_v 220 rfl ?_)
      rintro _ h220 (⟨r222, r223, rfl, f224, f225, f226, f227⟩ | ⟨r228, r229, rfl, f230, f231, f232, f233, f234⟩ | ⟨rfl, f235, f236⟩) K221
      · refine go_astore 222 (ls' := #[vi x0, vi x1, vi x2, vi x3, vi 2, vi r3, vi r7, vi r11, vr a175, vi 0, vr a208, vr r222]) (D at_220) rfl rfl rfl ?_
        refine go_iload 224 (D at_222) rfl rfl ?_
        refine go_ifT 241 (D at_224) (by decide) rfl (by decide) ?_
        refine go_aload 243 (D at_241) rfl rfl rfl ?_
        refine go_old (fun O237 => ?_)
        refine callV0 (cells' := 8) (slots' := 18) (Wd := 0) (argsL := []) (rest := []) (pay_of (a0 := a0) (c_ispresR l G r222 r223 h220 O237 f226) (wk G 89) (wk G 82)) f225 (wk G 85) (wk G 86) (wk G 88) (wk G 88) (wk G 87) pd9 (by rw [hml]; rfl) all0 sf00 (D at_243) (k_v 246 rfl ?_)
        rintro _ h238 ⟨rfl, rfl⟩ K239
        refine go_ifF 249 (D at_246) rfl (by decide) ?_
        refine go_aload 251 (D at_249) rfl rfl rfl ?_
        refine callV0 (cells' := 8) (slots' := 18) (Wd := 0) (argsL := []) (rest := []) (pay_of (a0 := a0) (c_opget l G r222 r223 h220 O237 f226) (wk G 130) (wk G 82)) f225 (wk G 126) (wk G 127) (wk G 129) (wk G 129) (wk G 128) pd22 (by rw [hml]; rfl) all0 sf00 (D at_251) (k_v 254 rfl ?_)
        rintro _ h240 ⟨rfl, rfl⟩ K241
        refine go_cast 257 (wk G 12) (Ins.self f227.exa) (D at_254) rfl ?_
        refine go_aload 259 (D at_257) rfl rfl rfl ?_
        have K242 : Keep h207 h220 [] := ((Keep.refl h207 []).trans K221 all0)
        have S243 := (S216.keep K242)
        refine callV0 (cells' := 8) (slots' := 18) (Wd := 0) (argsL := [(.ref a208)]) (rest := []) (pay_eq G O237 f227 S243 (by decide) (by decide)) f227.exa (wk G 131) (wk G 132) (wk G 134) (wk G 134) (wk G 133) pd23 (by rw [hml]; rfl) all0 sf00 (D at_259) (k_v 262 rfl ?_)
        rintro _ _ (⟨rfl, q244, rfl⟩ | ⟨rfl, q244, rfl⟩) -
        rotate_left 1
        · exact absurd rfl q244
        refine go_ifF 265 (D at_262) rfl (by decide) ?_
        refine go_iconst 266 (v := 1) (D at_265) rfl rfl ?_
        refine go_goto 270 (D at_266) (by decide) rfl ?_
        have K245 : Keep h0 h181 [] := (K190.ext X184)
        have K246 : Keep h0 h187 [] := (K245.wr W188 (Or.inr (Nat.le_trans K190.1 (Nat.le_of_eq g183))))
        have K247 : Keep h0 h191 [] := (K246.wr W192 (Or.inr (Nat.le_trans K190.1 (Nat.le_of_eq g183))))
        have K248 : Keep h0 h203 [] := (K247.trans K204 (allS (Or.inr (Nat.le_of_eq g176)) all0))
        have K249 : Keep h0 h207 [] := (K248.ext X209)
        have K250 : Keep h0 h220 [] := (K249.trans K221 all0)
        refine go_ireturn hret hlk rfl (by simp) (D at_270) (by decide) (by decide) ⟨_, rfl, rfl⟩ K250
      · exact absurd cz206 f230
      · exact absurd cz206 f235
    · refine go_icT 130 (D at_121) (by decide) rfl (XT.ii_ne_t cz206) ?_
      refine go_iload 132 (D at_130) rfl rfl ?_
      refine go_iconst 133 (v := 1) (D at_132) rfl rfl ?_
      refine go_icF 136 (D at_133) rfl (by decide) ?_
      refine go_iload 138 (D at_136) rfl rfl ?_
      refine go_bipush 140 (v := 46) (D at_138) rfl rfl ?_
      by_cases cz251 : r7 = (46 : Int32)
      · refine go_icF 143 (D at_140) rfl (XT.ii_ne_f cz251) ?_
        refine go_iconst 144 (v := 1) (D at_143) rfl rfl ?_
        refine go_istore 146 (ls' := #[vi x0, vi x1, vi x2, vi x3, vi 2, vi r3, vi r7, vi r11, vr a175, vi 1, un, un]) (D at_144) rfl rfl ?_
        refine go_goto 165 (D at_146) (by decide) rfl ?_
        refine go_iload 167 (D at_165) rfl rfl ?_
        refine go_ifT 177 (D at_167) (by decide) rfl (by decide) ?_
        refine go_iload 179 (D at_177) rfl rfl ?_
        refine go_iconst 180 (v := 1) (D at_179) rfl rfl ?_
        refine go_icF 183 (D at_180) rfl (by decide) ?_
        refine go_iload 185 (D at_183) rfl rfl ?_
        refine go_old (fun O252 => ?_)
        refine callS0 (cells' := 5) (slots' := 13) (Wd := 0) (argsL := [(.int r3)]) (rest := []) (pay_of (a0 := a0) (c_valueof l G r3 h203 O252 f4) (wk G 138) (wk G 5)) (wk G 136) (wk G 137) (wk G 5) (wk G 138) pd17 (by rw [hml]; rfl) all0 sf00 (D at_185) (k_v 188 rfl ?_)
        rintro _ h253 ⟨r255, rfl, f256, f257⟩ K254
        refine go_astore 190 (ls' := #[vi x0, vi x1, vi x2, vi x3, vi 2, vi r3, vi r7, vi r11, vr a175, vi 1, vr r255, un]) (D at_188) rfl rfl rfl ?_
        refine go_goto 215 (D at_190) (by decide) rfl ?_
        refine go_aload 217 (D at_215) rfl rfl rfl ?_
        have K258 : Keep h203 h253 [] := ((Keep.refl h203 []).trans K254 all0)
        have S259 := (S205.keep K258)
        refine go_old (fun O260 => ?_)
        refine callSW0 rfl (cells' := 8) (slots' := 19) (Wd := 0) (argsL := [(.ref a175)]) (rest := []) (payW_of (a0 := a0) (c_sch2 l G a175 r3 r7 h253 O260 S259) (wk G 40) (wk G 39) (ew1 G)) (wk G 37) (wk G 38) (wk G 39) (wk G 40) pd16 (by rw [hml]; rfl) all0 (D at_217) (k_v 220 rfl ?_)
        rintro _ h261 (⟨r263, r264, rfl, f265, f266, f267, f268⟩ | ⟨r269, r270, rfl, f271, f272, f273, f274, f275⟩ | ⟨rfl, f276, f277⟩) K262
        · exact absurd f265 cz206
        · refine go_astore 222 (ls' := #[vi x0, vi x1, vi x2, vi x3, vi 2, vi r3, vi r7, vi r11, vr a175, vi 1, vr r255, vr r269]) (D at_220) rfl rfl rfl ?_
          refine go_iload 224 (D at_222) rfl rfl ?_
          refine go_ifT 241 (D at_224) (by decide) rfl (by decide) ?_
          refine go_aload 243 (D at_241) rfl rfl rfl ?_
          refine go_old (fun O278 => ?_)
          refine callV0 (cells' := 8) (slots' := 19) (Wd := 0) (argsL := []) (rest := []) (pay_of (a0 := a0) (c_ispresR l G r269 r270 h261 O278 f274) (wk G 89) (wk G 82)) f273 (wk G 85) (wk G 86) (wk G 88) (wk G 88) (wk G 87) pd9 (by rw [hml]; rfl) all0 sf00 (D at_243) (k_v 246 rfl ?_)
          rintro _ h279 ⟨rfl, rfl⟩ K280
          refine go_ifF 249 (D at_246) rfl (by decide) ?_
          refine go_aload 251 (D at_249) rfl rfl rfl ?_
          refine callV0 (cells' := 8) (slots' := 19) (Wd := 0) (argsL := []) (rest := []) (pay_of (a0 := a0) (c_opget l G r269 r270 h261 O278 f274) (wk G 130) (wk G 82)) f273 (wk G 126) (wk G 127) (wk G 129) (wk G 129) (wk G 128) pd22 (by rw [hml]; rfl) all0 sf00 (D at_251) (k_v 254 rfl ?_)
          rintro _ h281 ⟨rfl, rfl⟩ K282
          refine go_cast 257 (wk G 12) (Ins.self f275.exa) (D at_254) rfl ?_
          refine go_aload 259 (D at_257) rfl rfl rfl ?_
          have K283 : Keep h253 h261 [] := ((Keep.refl h253 []).trans K262 all0)
          have S284 := (f257.keep K283)
          refine callV0 (cells' := 8) (slots' := 19) (Wd := 0) (argsL := [(.ref r255)]) (rest := []) (pay_eq G O278 f275 S284 (by decide) (by decide)) f275.exa (wk G 131) (wk G 132) (wk G 134) (wk G 134) (wk G 133) pd23 (by rw [hml]; rfl) all0 sf00 (D at_259) (k_v 262 rfl ?_)
          rintro _ _ (⟨rfl, q285, rfl⟩ | ⟨rfl, q285, rfl⟩) -
          rotate_left 1
          · exact absurd rfl q285
          refine go_ifF 265 (D at_262) rfl (by decide) ?_
          refine go_iconst 266 (v := 1) (D at_265) rfl rfl ?_
          refine go_goto 270 (D at_266) (by decide) rfl ?_
          have K286 : Keep h0 h181 [] := (K190.ext X184)
          have K287 : Keep h0 h187 [] := (K286.wr W188 (Or.inr (Nat.le_trans K190.1 (Nat.le_of_eq g183))))
          have K288 : Keep h0 h191 [] := (K287.wr W192 (Or.inr (Nat.le_trans K190.1 (Nat.le_of_eq g183))))
          have K289 : Keep h0 h203 [] := (K288.trans K204 (allS (Or.inr (Nat.le_of_eq g176)) all0))
          have K290 : Keep h0 h253 [] := (K289.trans K254 all0)
          have K291 : Keep h0 h261 [] := (K290.trans K262 all0)
          refine go_ireturn hret hlk rfl (by simp) (D at_270) (by decide) (by decide) ⟨_, rfl, rfl⟩ K291
        · exact absurd cz251 f277
      · refine go_icT 149 (D at_140) (by decide) rfl (XT.ii_ne_t cz251) ?_
        refine go_iload 151 (D at_149) rfl rfl ?_
        refine go_iconst 152 (v := 2) (D at_151) rfl rfl ?_
        refine go_icT 165 (D at_152) (by decide) rfl (by decide) ?_
        refine go_iload 167 (D at_165) rfl rfl ?_
        refine go_ifT 177 (D at_167) (by decide) rfl (by decide) ?_
        refine go_iload 179 (D at_177) rfl rfl ?_
        refine go_iconst 180 (v := 1) (D at_179) rfl rfl ?_
        refine go_icT 193 (D at_180) (by decide) rfl (by decide) ?_
        refine go_newO 196 (cells' := 4) (slots' := 12) (wk G 12) (wk G 6) (wk G 5) (D at_193) rfl rfl rfl (by decide) (by decide) (fun h292 a293 g294 X295 E296 D297 U298 => ?_)
        refine go_dup 197 (D at_196) rfl rfl ?_
        refine go_iconst 198 (v := 2) (D at_197) rfl rfl ?_
        refine go_newP 200 (cells' := 5) (slots' := 14) (cap := 2) (vs := [(.int 0), (.int 0)]) (ty := .char) (dv := .int 0) (wk G 13) rfl rfl (D at_198) rfl (by decide) rfl (by decide) rfl rfl rfl (by decide) (by decide) (fun h299 a300 k304 g301 X302 A303 => ?_)
        refine go_dup 201 (D at_200) rfl rfl ?_
        refine go_iconst 202 (v := 0) (D at_201) rfl rfl ?_
        refine go_iload 204 (D at_202) rfl rfl ?_
        have K308 : Keep h0 h181 [] := (K190.ext X184)
        have K309 : Keep h0 h187 [] := (K308.wr W188 (Or.inr (Nat.le_trans K190.1 (Nat.le_of_eq g183))))
        have K310 : Keep h0 h191 [] := (K309.wr W192 (Or.inr (Nat.le_trans K190.1 (Nat.le_of_eq g183))))
        have K311 : Keep h0 h203 [] := (K310.trans K204 (allS (Or.inr (Nat.le_of_eq g176)) all0))
        have K312 : Keep h0 h292 [] := (K311.ext X295)
        refine go_stC 205 (i := 0) (x' := r3) (vs' := [(.int r3), (.int 0)]) A303 (Nat.le_trans O0.2.1 (Nat.le_trans K312.1 (Nat.le_of_eq g301))) (by decide) (by decide) rfl (nb rfl) (i2c_c8 f4) rfl (D at_204) rfl (fun h305 W306 A307 => ?_)
        refine go_dup 206 (D at_205) rfl rfl ?_
        refine go_iconst 207 (v := 1) (D at_206) rfl rfl ?_
        refine go_iload 209 (D at_207) rfl rfl ?_
        refine go_stC 210 (i := 1) (x' := r7) (vs' := [(.int r3), (.int r7)]) A307 (Nat.le_trans O0.2.1 (Nat.le_trans K312.1 (Nat.le_of_eq g301))) (by decide) (by decide) rfl (nb rfl) (i2c_c8 f8) rfl (D at_209) rfl (fun h313 W314 A315 => ?_)
        have K316 : Keep h292 h299 [] := ((Keep.refl h292 []).ext X302)
        have K317 : Keep h292 h305 [] := (K316.wr W306 (Or.inr (Nat.le_of_eq g301)))
        have K318 : Keep h292 h313 [] := (K317.wr W314 (Or.inr (Nat.le_of_eq g301)))
        have E319 := (E296.keep K318)
        have F320 := D297 (Or.inr (wk G 8)) (ty := (.array .byte)) (by decide)
        have F321 := (F320.keep K318 nin0)
        have F322 := D297 (Or.inr (wk G 9)) (ty := .byte) (by decide)
        have F323 := (F322.keep K318 nin0)
        refine go_old (fun O324 => ?_)
        refine callI0 (cells' := 6) (slots' := 16) (Wd := 1) (argsL := [(.ref a300)]) (rest := [(.ref a293)]) (pay_new G O324 (cs := [r3, r7]) (n := 2) (Nat.le_trans O0.2.1 (Nat.le_trans K311.1 (Nat.le_of_eq g294))) E319 F321 F323 A315 rfl rfl (by decide) (by decide) (c8c f4 (c8c f8 c8n)) (by decide) (by decide)) rfl (wk G 14) (wk G 15) (wk G 16) pd8 (by rw [hml]; rfl) (allS (Nat.le_trans O0.2.1 (Nat.le_trans K311.1 (Nat.le_of_eq g294))) all0) (fun _ hal => (sfS (safe_null hal E319 F321) sf0)) (D at_210) (k_n 213 rfl ?_)
        rintro h325 S327 K326
        refine go_astore 215 (ls' := #[vi x0, vi x1, vi x2, vi x3, vi 2, vi r3, vi r7, vi r11, vr a175, vi (-1 : Int32), vr a293, un]) (D at_213) rfl rfl rfl ?_
        refine go_aload 217 (D at_215) rfl rfl rfl ?_
        have K328 : Keep h203 h292 [] := ((Keep.refl h203 []).ext X295)
        have K329 : Keep h203 h299 [] := (K328.ext X302)
        have K330 : Keep h203 h305 [] := (K329.wr W306 (Or.inr (Nat.le_trans K328.1 (Nat.le_of_eq g301))))
        have K331 : Keep h203 h313 [] := (K330.wr W314 (Or.inr (Nat.le_trans K328.1 (Nat.le_of_eq g301))))
        have K332 : Keep h203 h325 [] := (K331.trans K326 (allS (Or.inr (Nat.le_of_eq g294)) all0))
        have S333 := (S205.keep K332)
        refine go_old (fun O334 => ?_)
        refine callSW0 rfl (cells' := 9) (slots' := 22) (Wd := 0) (argsL := [(.ref a175)]) (rest := []) (payW_of (a0 := a0) (c_sch2 l G a175 r3 r7 h325 O334 S333) (wk G 40) (wk G 39) (ew1 G)) (wk G 37) (wk G 38) (wk G 39) (wk G 40) pd16 (by rw [hml]; rfl) all0 (D at_217) (k_v 220 rfl ?_)
        rintro _ h335 (⟨r337, r338, rfl, f339, f340, f341, f342⟩ | ⟨r343, r344, rfl, f345, f346, f347, f348, f349⟩ | ⟨rfl, f350, f351⟩) K336
        · exact absurd f339 cz206
        · exact absurd f346 cz251
        · refine go_astore 222 (ls' := #[vi x0, vi x1, vi x2, vi x3, vi 2, vi r3, vi r7, vi r11, vr a175, vi (-1 : Int32), vr a293, vr (s_OE Z)]) (D at_220) rfl rfl rfl ?_
          refine go_iload 224 (D at_222) rfl rfl ?_
          refine go_ifF 227 (D at_224) rfl (by decide) ?_
          refine go_aload 229 (D at_227) rfl rfl rfl ?_
          refine go_old (fun O353 => ?_)
          have Z352 := (oe_all G).2.2.ext O353.2
          have Z354 := (oe_all G).2.1.ext O353.2
          refine callV0 (cells' := 9) (slots' := 22) (Wd := 0) (argsL := []) (rest := []) (pay_of (a0 := a0) (c_ispresN l G (s_OE Z) h335 O353 Z352) (wk G 89) (wk G 82)) Z354 (wk G 85) (wk G 86) (wk G 88) (wk G 88) (wk G 87) pd9 (by rw [hml]; rfl) all0 sf00 (D at_229) (k_v 232 rfl ?_)
          rintro _ h355 ⟨rfl, rfl⟩ K356
          refine go_ifF 235 (D at_232) rfl (by decide) ?_
          refine go_iconst 236 (v := 1) (D at_235) rfl rfl ?_
          refine go_goto 240 (D at_236) (by decide) rfl ?_
          have K357 : Keep h0 h299 [] := (K312.ext X302)
          have K358 : Keep h0 h305 [] := (K357.wr W306 (Or.inr (Nat.le_trans K312.1 (Nat.le_of_eq g301))))
          have K359 : Keep h0 h313 [] := (K358.wr W314 (Or.inr (Nat.le_trans K312.1 (Nat.le_of_eq g301))))
          have K360 : Keep h0 h325 [] := (K359.trans K326 (allS (Or.inr (Nat.le_trans K311.1 (Nat.le_of_eq g294))) all0))
          have K361 : Keep h0 h335 [] := (K360.trans K336 all0)
          refine go_ireturn hret hlk rfl (by simp) (D at_240) (by decide) (by decide) ⟨_, rfl, rfl⟩ K361
  · rw [q13]
    refine go_iload 25 (D at_23) rfl rfl ?_
    refine go_ifT 35 (D at_25) (by decide) rfl (by decide) ?_
    refine go_iload 37 (D at_35) rfl rfl ?_
    refine go_iconst 38 (v := 1) (D at_37) rfl rfl ?_
    refine go_icT 51 (D at_38) (by decide) rfl (by decide) ?_
    refine go_iload 53 (D at_51) rfl rfl ?_
    refine go_iconst 54 (v := 2) (D at_53) rfl rfl ?_
    refine go_icT 82 (D at_54) (by decide) rfl (by decide) ?_
    refine go_newO 85 (cells' := 1) (slots' := 4) (wk G 12) (wk G 6) (wk G 5) (D at_82) rfl rfl rfl (by decide) (by decide) (fun h362 a363 g364 X365 E366 D367 U368 => ?_)
    refine go_dup 86 (D at_85) rfl rfl ?_
    refine go_iconst 87 (v := 3) (D at_86) rfl rfl ?_
    refine go_newP 89 (cells' := 2) (slots' := 7) (cap := 3) (vs := [(.int 0), (.int 0), (.int 0)]) (ty := .char) (dv := .int 0) (wk G 13) rfl rfl (D at_87) rfl (by decide) rfl (by decide) rfl rfl rfl (by decide) (by decide) (fun h369 a370 k374 g371 X372 A373 => ?_)
    refine go_dup 90 (D at_89) rfl rfl ?_
    refine go_iconst 91 (v := 0) (D at_90) rfl rfl ?_
    refine go_iload 93 (D at_91) rfl rfl ?_
    have K378 : Keep h0 h362 [] := ((Keep.refl h0 []).ext X365)
    refine go_stC 94 (i := 0) (x' := r3) (vs' := [(.int r3), (.int 0), (.int 0)]) A373 (Nat.le_trans O0.2.1 (Nat.le_trans K378.1 (Nat.le_of_eq g371))) (by decide) (by decide) rfl (nb rfl) (i2c_c8 f4) rfl (D at_93) rfl (fun h375 W376 A377 => ?_)
    refine go_dup 95 (D at_94) rfl rfl ?_
    refine go_iconst 96 (v := 1) (D at_95) rfl rfl ?_
    refine go_iload 98 (D at_96) rfl rfl ?_
    refine go_stC 99 (i := 1) (x' := r7) (vs' := [(.int r3), (.int r7), (.int 0)]) A377 (Nat.le_trans O0.2.1 (Nat.le_trans K378.1 (Nat.le_of_eq g371))) (by decide) (by decide) rfl (nb rfl) (i2c_c8 f8) rfl (D at_98) rfl (fun h379 W380 A381 => ?_)
    refine go_dup 100 (D at_99) rfl rfl ?_
    refine go_iconst 101 (v := 2) (D at_100) rfl rfl ?_
    refine go_iload 103 (D at_101) rfl rfl ?_
    refine go_stC 104 (i := 2) (x' := r11) (vs' := [(.int r3), (.int r7), (.int r11)]) A381 (Nat.le_trans O0.2.1 (Nat.le_trans K378.1 (Nat.le_of_eq g371))) (by decide) (by decide) rfl (nb rfl) (i2c_c8 f12) rfl (D at_103) rfl (fun h382 W383 A384 => ?_)
    have K385 : Keep h362 h369 [] := ((Keep.refl h362 []).ext X372)
    have K386 : Keep h362 h375 [] := (K385.wr W376 (Or.inr (Nat.le_of_eq g371)))
    have K387 : Keep h362 h379 [] := (K386.wr W380 (Or.inr (Nat.le_of_eq g371)))
    have K388 : Keep h362 h382 [] := (K387.wr W383 (Or.inr (Nat.le_of_eq g371)))
    have E389 := (E366.keep K388)
    have F390 := D367 (Or.inr (wk G 8)) (ty := (.array .byte)) (by decide)
    have F391 := (F390.keep K388 nin0)
    have F392 := D367 (Or.inr (wk G 9)) (ty := .byte) (by decide)
    have F393 := (F392.keep K388 nin0)
    refine go_old (fun O394 => ?_)
    refine callI0 (cells' := 3) (slots' := 10) (Wd := 1) (argsL := [(.ref a370)]) (rest := [(.ref a363)]) (pay_new G O394 (cs := [r3, r7, r11]) (n := 3) (Nat.le_trans O0.2.1 (Nat.le_of_eq g364)) E389 F391 F393 A384 rfl rfl (by decide) (by decide) (c8c f4 (c8c f8 (c8c f12 c8n))) (by decide) (by decide)) rfl (wk G 14) (wk G 15) (wk G 16) pd8 (by rw [hml]; rfl) (allS (Nat.le_trans O0.2.1 (Nat.le_of_eq g364)) all0) (fun _ hal => (sfS (safe_null hal E389 F391) sf0)) (D at_104) (k_n 107 rfl ?_)
    rintro h395 S397 K396
    refine go_astore 109 (ls' := #[vi x0, vi x1, vi x2, vi x3, vi 3, vi r3, vi r7, vi r11, vr a363, un, un, un]) (D at_107) rfl rfl rfl ?_
    refine go_iconst 110 (v := (-1)) (D at_109) rfl rfl ?_
    refine go_istore 112 (ls' := #[vi x0, vi x1, vi x2, vi x3, vi 3, vi r3, vi r7, vi r11, vr a363, vi (-1 : Int32), un, un]) (D at_110) rfl rfl ?_
    refine go_iload 114 (D at_112) rfl rfl ?_
    refine go_ifF 117 (D at_114) rfl (by decide) ?_
    refine go_iload 119 (D at_117) rfl rfl ?_
    refine go_bipush 121 (v := 46) (D at_119) rfl rfl ?_
    by_cases cz398 : r3 = (46 : Int32)
    · refine go_icF 124 (D at_121) rfl (XT.ii_ne_f cz398) ?_
      refine go_iconst 125 (v := 0) (D at_124) rfl rfl ?_
      refine go_istore 127 (ls' := #[vi x0, vi x1, vi x2, vi x3, vi 3, vi r3, vi r7, vi r11, vr a363, vi 0, un, un]) (D at_125) rfl rfl ?_
      refine go_goto 165 (D at_127) (by decide) rfl ?_
      refine go_iload 167 (D at_165) rfl rfl ?_
      refine go_ifF 170 (D at_167) rfl (by decide) ?_
      refine go_ldcH 172 (cells' := 5) (slots' := 14) (n := 0) (vs := (([] : List Int32).map fun c => c.toInt8.toInt32).map Value.int) (z := (0 : Int32)) rfl (by decide) (wk G 4) (wS G) (by decide +kernel) (by decide) (by decide) (by decide) (by decide) (D at_170) rfl rfl rfl (by decide) (by decide) (fun h399 a400 t402 k403 X401 E404 F405 F406 A407 => ?_)
      have S408 : Str Z h399 a400 [] := ⟨t402, k403, E404, F406, F405, A407, by decide, by decide⟩
      refine go_astore 174 (ls' := #[vi x0, vi x1, vi x2, vi x3, vi 3, vi r3, vi r7, vi r11, vr a363, vi 0, vr a400, un]) (D at_172) rfl rfl rfl ?_
      refine go_goto 215 (D at_174) (by decide) rfl ?_
      refine go_aload 217 (D at_215) rfl rfl rfl ?_
      have K409 : Keep h395 h399 [] := ((Keep.refl h395 []).ext X401)
      have S410 := (S397.keep K409)
      refine go_old (fun O411 => ?_)
      refine callSW0 rfl (cells' := 8) (slots' := 21) (Wd := 0) (argsL := [(.ref a363)]) (rest := []) (payW_of (a0 := a0) (c_sch3 l G a363 r3 r7 r11 h399 O411 S410) (wk G 40) (wk G 39) (ew1 G)) (wk G 37) (wk G 38) (wk G 39) (wk G 40) pd16 (by rw [hml]; rfl) all0 (D at_217) (k_v 220 rfl ?_)
      rintro _ h412 (⟨r414, r415, rfl, f416, f417, f418, f419⟩ | ⟨r420, r421, rfl, f422, f423, f424, f425, f426⟩ | ⟨r427, r428, rfl, f429, f430, f431, f432, f433, f434⟩ | ⟨rfl, f435, f436, f437⟩) K413
      · refine go_astore 222 (ls' := #[vi x0, vi x1, vi x2, vi x3, vi 3, vi r3, vi r7, vi r11, vr a363, vi 0, vr a400, vr r414]) (D at_220) rfl rfl rfl ?_
        refine go_iload 224 (D at_222) rfl rfl ?_
        refine go_ifT 241 (D at_224) (by decide) rfl (by decide) ?_
        refine go_aload 243 (D at_241) rfl rfl rfl ?_
        refine go_old (fun O438 => ?_)
        refine callV0 (cells' := 8) (slots' := 21) (Wd := 0) (argsL := []) (rest := []) (pay_of (a0 := a0) (c_ispresR l G r414 r415 h412 O438 f418) (wk G 89) (wk G 82)) f417 (wk G 85) (wk G 86) (wk G 88) (wk G 88) (wk G 87) pd9 (by rw [hml]; rfl) all0 sf00 (D at_243) (k_v 246 rfl ?_)
        rintro _ h439 ⟨rfl, rfl⟩ K440
        refine go_ifF 249 (D at_246) rfl (by decide) ?_
        refine go_aload 251 (D at_249) rfl rfl rfl ?_
        refine callV0 (cells' := 8) (slots' := 21) (Wd := 0) (argsL := []) (rest := []) (pay_of (a0 := a0) (c_opget l G r414 r415 h412 O438 f418) (wk G 130) (wk G 82)) f417 (wk G 126) (wk G 127) (wk G 129) (wk G 129) (wk G 128) pd22 (by rw [hml]; rfl) all0 sf00 (D at_251) (k_v 254 rfl ?_)
        rintro _ h441 ⟨rfl, rfl⟩ K442
        refine go_cast 257 (wk G 12) (Ins.self f419.exa) (D at_254) rfl ?_
        refine go_aload 259 (D at_257) rfl rfl rfl ?_
        have K443 : Keep h399 h412 [] := ((Keep.refl h399 []).trans K413 all0)
        have S444 := (S408.keep K443)
        refine callV0 (cells' := 8) (slots' := 21) (Wd := 0) (argsL := [(.ref a400)]) (rest := []) (pay_eq G O438 f419 S444 (by decide) (by decide)) f419.exa (wk G 131) (wk G 132) (wk G 134) (wk G 134) (wk G 133) pd23 (by rw [hml]; rfl) all0 sf00 (D at_259) (k_v 262 rfl ?_)
        rintro _ _ (⟨rfl, q445, rfl⟩ | ⟨rfl, q445, rfl⟩) -
        rotate_left 1
        · exact absurd rfl q445
        refine go_ifF 265 (D at_262) rfl (by decide) ?_
        refine go_iconst 266 (v := 1) (D at_265) rfl rfl ?_
        refine go_goto 270 (D at_266) (by decide) rfl ?_
        have K446 : Keep h0 h369 [] := (K378.ext X372)
        have K447 : Keep h0 h375 [] := (K446.wr W376 (Or.inr (Nat.le_trans K378.1 (Nat.le_of_eq g371))))
        have K448 : Keep h0 h379 [] := (K447.wr W380 (Or.inr (Nat.le_trans K378.1 (Nat.le_of_eq g371))))
        have K449 : Keep h0 h382 [] := (K448.wr W383 (Or.inr (Nat.le_trans K378.1 (Nat.le_of_eq g371))))
        have K450 : Keep h0 h395 [] := (K449.trans K396 (allS (Or.inr (Nat.le_of_eq g364)) all0))
        have K451 : Keep h0 h399 [] := (K450.ext X401)
        have K452 : Keep h0 h412 [] := (K451.trans K413 all0)
        refine go_ireturn hret hlk rfl (by simp) (D at_270) (by decide) (by decide) ⟨_, rfl, rfl⟩ K452
      · exact absurd cz398 f422
      · exact absurd cz398 f429
      · exact absurd cz398 f435
    · refine go_icT 130 (D at_121) (by decide) rfl (XT.ii_ne_t cz398) ?_
      refine go_iload 132 (D at_130) rfl rfl ?_
      refine go_iconst 133 (v := 1) (D at_132) rfl rfl ?_
      refine go_icF 136 (D at_133) rfl (by decide) ?_
      refine go_iload 138 (D at_136) rfl rfl ?_
      refine go_bipush 140 (v := 46) (D at_138) rfl rfl ?_
      by_cases cz453 : r7 = (46 : Int32)
      · refine go_icF 143 (D at_140) rfl (XT.ii_ne_f cz453) ?_
        refine go_iconst 144 (v := 1) (D at_143) rfl rfl ?_
        refine go_istore 146 (ls' := #[vi x0, vi x1, vi x2, vi x3, vi 3, vi r3, vi r7, vi r11, vr a363, vi 1, un, un]) (D at_144) rfl rfl ?_
        refine go_goto 165 (D at_146) (by decide) rfl ?_
        refine go_iload 167 (D at_165) rfl rfl ?_
        refine go_ifT 177 (D at_167) (by decide) rfl (by decide) ?_
        refine go_iload 179 (D at_177) rfl rfl ?_
        refine go_iconst 180 (v := 1) (D at_179) rfl rfl ?_
        refine go_icF 183 (D at_180) rfl (by decide) ?_
        refine go_iload 185 (D at_183) rfl rfl ?_
        refine go_old (fun O454 => ?_)
        refine callS0 (cells' := 5) (slots' := 15) (Wd := 0) (argsL := [(.int r3)]) (rest := []) (pay_of (a0 := a0) (c_valueof l G r3 h395 O454 f4) (wk G 138) (wk G 5)) (wk G 136) (wk G 137) (wk G 5) (wk G 138) pd17 (by rw [hml]; rfl) all0 sf00 (D at_185) (k_v 188 rfl ?_)
        rintro _ h455 ⟨r457, rfl, f458, f459⟩ K456
        refine go_astore 190 (ls' := #[vi x0, vi x1, vi x2, vi x3, vi 3, vi r3, vi r7, vi r11, vr a363, vi 1, vr r457, un]) (D at_188) rfl rfl rfl ?_
        refine go_goto 215 (D at_190) (by decide) rfl ?_
        refine go_aload 217 (D at_215) rfl rfl rfl ?_
        have K460 : Keep h395 h455 [] := ((Keep.refl h395 []).trans K456 all0)
        have S461 := (S397.keep K460)
        refine go_old (fun O462 => ?_)
        refine callSW0 rfl (cells' := 8) (slots' := 22) (Wd := 0) (argsL := [(.ref a363)]) (rest := []) (payW_of (a0 := a0) (c_sch3 l G a363 r3 r7 r11 h455 O462 S461) (wk G 40) (wk G 39) (ew1 G)) (wk G 37) (wk G 38) (wk G 39) (wk G 40) pd16 (by rw [hml]; rfl) all0 (D at_217) (k_v 220 rfl ?_)
        rintro _ h463 (⟨r465, r466, rfl, f467, f468, f469, f470⟩ | ⟨r471, r472, rfl, f473, f474, f475, f476, f477⟩ | ⟨r478, r479, rfl, f480, f481, f482, f483, f484, f485⟩ | ⟨rfl, f486, f487, f488⟩) K464
        · exact absurd f467 cz398
        · refine go_astore 222 (ls' := #[vi x0, vi x1, vi x2, vi x3, vi 3, vi r3, vi r7, vi r11, vr a363, vi 1, vr r457, vr r471]) (D at_220) rfl rfl rfl ?_
          refine go_iload 224 (D at_222) rfl rfl ?_
          refine go_ifT 241 (D at_224) (by decide) rfl (by decide) ?_
          refine go_aload 243 (D at_241) rfl rfl rfl ?_
          refine go_old (fun O489 => ?_)
          refine callV0 (cells' := 8) (slots' := 22) (Wd := 0) (argsL := []) (rest := []) (pay_of (a0 := a0) (c_ispresR l G r471 r472 h463 O489 f476) (wk G 89) (wk G 82)) f475 (wk G 85) (wk G 86) (wk G 88) (wk G 88) (wk G 87) pd9 (by rw [hml]; rfl) all0 sf00 (D at_243) (k_v 246 rfl ?_)
          rintro _ h490 ⟨rfl, rfl⟩ K491
          refine go_ifF 249 (D at_246) rfl (by decide) ?_
          refine go_aload 251 (D at_249) rfl rfl rfl ?_
          refine callV0 (cells' := 8) (slots' := 22) (Wd := 0) (argsL := []) (rest := []) (pay_of (a0 := a0) (c_opget l G r471 r472 h463 O489 f476) (wk G 130) (wk G 82)) f475 (wk G 126) (wk G 127) (wk G 129) (wk G 129) (wk G 128) pd22 (by rw [hml]; rfl) all0 sf00 (D at_251) (k_v 254 rfl ?_)
          rintro _ h492 ⟨rfl, rfl⟩ K493
          refine go_cast 257 (wk G 12) (Ins.self f477.exa) (D at_254) rfl ?_
          refine go_aload 259 (D at_257) rfl rfl rfl ?_
          have K494 : Keep h455 h463 [] := ((Keep.refl h455 []).trans K464 all0)
          have S495 := (f459.keep K494)
          refine callV0 (cells' := 8) (slots' := 22) (Wd := 0) (argsL := [(.ref r457)]) (rest := []) (pay_eq G O489 f477 S495 (by decide) (by decide)) f477.exa (wk G 131) (wk G 132) (wk G 134) (wk G 134) (wk G 133) pd23 (by rw [hml]; rfl) all0 sf00 (D at_259) (k_v 262 rfl ?_)
          rintro _ _ (⟨rfl, q496, rfl⟩ | ⟨rfl, q496, rfl⟩) -
          rotate_left 1
          · exact absurd rfl q496
          refine go_ifF 265 (D at_262) rfl (by decide) ?_
          refine go_iconst 266 (v := 1) (D at_265) rfl rfl ?_
          refine go_goto 270 (D at_266) (by decide) rfl ?_
          have K497 : Keep h0 h369 [] := (K378.ext X372)
          have K498 : Keep h0 h375 [] := (K497.wr W376 (Or.inr (Nat.le_trans K378.1 (Nat.le_of_eq g371))))
          have K499 : Keep h0 h379 [] := (K498.wr W380 (Or.inr (Nat.le_trans K378.1 (Nat.le_of_eq g371))))
          have K500 : Keep h0 h382 [] := (K499.wr W383 (Or.inr (Nat.le_trans K378.1 (Nat.le_of_eq g371))))
          have K501 : Keep h0 h395 [] := (K500.trans K396 (allS (Or.inr (Nat.le_of_eq g364)) all0))
          have K502 : Keep h0 h455 [] := (K501.trans K456 all0)
          have K503 : Keep h0 h463 [] := (K502.trans K464 all0)
          refine go_ireturn hret hlk rfl (by simp) (D at_270) (by decide) (by decide) ⟨_, rfl, rfl⟩ K503
        · exact absurd cz453 f481
        · exact absurd cz453 f487
      · refine go_icT 149 (D at_140) (by decide) rfl (XT.ii_ne_t cz453) ?_
        refine go_iload 151 (D at_149) rfl rfl ?_
        refine go_iconst 152 (v := 2) (D at_151) rfl rfl ?_
        refine go_icF 155 (D at_152) rfl (by decide) ?_
        refine go_iload 157 (D at_155) rfl rfl ?_
        refine go_bipush 159 (v := 46) (D at_157) rfl rfl ?_
        by_cases cz504 : r11 = (46 : Int32)
        · refine go_icF 162 (D at_159) rfl (XT.ii_ne_f cz504) ?_
          refine go_iconst 163 (v := 2) (D at_162) rfl rfl ?_
          refine go_istore 165 (ls' := #[vi x0, vi x1, vi x2, vi x3, vi 3, vi r3, vi r7, vi r11, vr a363, vi 2, un, un]) (D at_163) rfl rfl ?_
          refine go_iload 167 (D at_165) rfl rfl ?_
          refine go_ifT 177 (D at_167) (by decide) rfl (by decide) ?_
          refine go_iload 179 (D at_177) rfl rfl ?_
          refine go_iconst 180 (v := 1) (D at_179) rfl rfl ?_
          refine go_icT 193 (D at_180) (by decide) rfl (by decide) ?_
          refine go_newO 196 (cells' := 4) (slots' := 14) (wk G 12) (wk G 6) (wk G 5) (D at_193) rfl rfl rfl (by decide) (by decide) (fun h505 a506 g507 X508 E509 D510 U511 => ?_)
          refine go_dup 197 (D at_196) rfl rfl ?_
          refine go_iconst 198 (v := 2) (D at_197) rfl rfl ?_
          refine go_newP 200 (cells' := 5) (slots' := 16) (cap := 2) (vs := [(.int 0), (.int 0)]) (ty := .char) (dv := .int 0) (wk G 13) rfl rfl (D at_198) rfl (by decide) rfl (by decide) rfl rfl rfl (by decide) (by decide) (fun h512 a513 k517 g514 X515 A516 => ?_)
          refine go_dup 201 (D at_200) rfl rfl ?_
          refine go_iconst 202 (v := 0) (D at_201) rfl rfl ?_
          refine go_iload 204 (D at_202) rfl rfl ?_
          have K521 : Keep h0 h369 [] := (K378.ext X372)
          have K522 : Keep h0 h375 [] := (K521.wr W376 (Or.inr (Nat.le_trans K378.1 (Nat.le_of_eq g371))))
          have K523 : Keep h0 h379 [] := (K522.wr W380 (Or.inr (Nat.le_trans K378.1 (Nat.le_of_eq g371))))
          have K524 : Keep h0 h382 [] := (K523.wr W383 (Or.inr (Nat.le_trans K378.1 (Nat.le_of_eq g371))))
          have K525 : Keep h0 h395 [] := (K524.trans K396 (allS (Or.inr (Nat.le_of_eq g364)) all0))
          have K526 : Keep h0 h505 [] := (K525.ext X508)
          refine go_stC 205 (i := 0) (x' := r3) (vs' := [(.int r3), (.int 0)]) A516 (Nat.le_trans O0.2.1 (Nat.le_trans K526.1 (Nat.le_of_eq g514))) (by decide) (by decide) rfl (nb rfl) (i2c_c8 f4) rfl (D at_204) rfl (fun h518 W519 A520 => ?_)
          refine go_dup 206 (D at_205) rfl rfl ?_
          refine go_iconst 207 (v := 1) (D at_206) rfl rfl ?_
          refine go_iload 209 (D at_207) rfl rfl ?_
          refine go_stC 210 (i := 1) (x' := r7) (vs' := [(.int r3), (.int r7)]) A520 (Nat.le_trans O0.2.1 (Nat.le_trans K526.1 (Nat.le_of_eq g514))) (by decide) (by decide) rfl (nb rfl) (i2c_c8 f8) rfl (D at_209) rfl (fun h527 W528 A529 => ?_)
          have K530 : Keep h505 h512 [] := ((Keep.refl h505 []).ext X515)
          have K531 : Keep h505 h518 [] := (K530.wr W519 (Or.inr (Nat.le_of_eq g514)))
          have K532 : Keep h505 h527 [] := (K531.wr W528 (Or.inr (Nat.le_of_eq g514)))
          have E533 := (E509.keep K532)
          have F534 := D510 (Or.inr (wk G 8)) (ty := (.array .byte)) (by decide)
          have F535 := (F534.keep K532 nin0)
          have F536 := D510 (Or.inr (wk G 9)) (ty := .byte) (by decide)
          have F537 := (F536.keep K532 nin0)
          refine go_old (fun O538 => ?_)
          refine callI0 (cells' := 6) (slots' := 18) (Wd := 1) (argsL := [(.ref a513)]) (rest := [(.ref a506)]) (pay_new G O538 (cs := [r3, r7]) (n := 2) (Nat.le_trans O0.2.1 (Nat.le_trans K525.1 (Nat.le_of_eq g507))) E533 F535 F537 A529 rfl rfl (by decide) (by decide) (c8c f4 (c8c f8 c8n)) (by decide) (by decide)) rfl (wk G 14) (wk G 15) (wk G 16) pd8 (by rw [hml]; rfl) (allS (Nat.le_trans O0.2.1 (Nat.le_trans K525.1 (Nat.le_of_eq g507))) all0) (fun _ hal => (sfS (safe_null hal E533 F535) sf0)) (D at_210) (k_n 213 rfl ?_)
          rintro h539 S541 K540
          refine go_astore 215 (ls' := #[vi x0, vi x1, vi x2, vi x3, vi 3, vi r3, vi r7, vi r11, vr a363, vi 2, vr a506, un]) (D at_213) rfl rfl rfl ?_
          refine go_aload 217 (D at_215) rfl rfl rfl ?_
          have K542 : Keep h395 h505 [] := ((Keep.refl h395 []).ext X508)
          have K543 : Keep h395 h512 [] := (K542.ext X515)
          have K544 : Keep h395 h518 [] := (K543.wr W519 (Or.inr (Nat.le_trans K542.1 (Nat.le_of_eq g514))))
          have K545 : Keep h395 h527 [] := (K544.wr W528 (Or.inr (Nat.le_trans K542.1 (Nat.le_of_eq g514))))
          have K546 : Keep h395 h539 [] := (K545.trans K540 (allS (Or.inr (Nat.le_of_eq g507)) all0))
          have S547 := (S397.keep K546)
          refine go_old (fun O548 => ?_)
          refine callSW0 rfl (cells' := 9) (slots' := 25) (Wd := 0) (argsL := [(.ref a363)]) (rest := []) (payW_of (a0 := a0) (c_sch3 l G a363 r3 r7 r11 h539 O548 S547) (wk G 40) (wk G 39) (ew1 G)) (wk G 37) (wk G 38) (wk G 39) (wk G 40) pd16 (by rw [hml]; rfl) all0 (D at_217) (k_v 220 rfl ?_)
          rintro _ h549 (⟨r551, r552, rfl, f553, f554, f555, f556⟩ | ⟨r557, r558, rfl, f559, f560, f561, f562, f563⟩ | ⟨r564, r565, rfl, f566, f567, f568, f569, f570, f571⟩ | ⟨rfl, f572, f573, f574⟩) K550
          · exact absurd f553 cz398
          · exact absurd f560 cz453
          · refine go_astore 222 (ls' := #[vi x0, vi x1, vi x2, vi x3, vi 3, vi r3, vi r7, vi r11, vr a363, vi 2, vr a506, vr r564]) (D at_220) rfl rfl rfl ?_
            refine go_iload 224 (D at_222) rfl rfl ?_
            refine go_ifT 241 (D at_224) (by decide) rfl (by decide) ?_
            refine go_aload 243 (D at_241) rfl rfl rfl ?_
            refine go_old (fun O575 => ?_)
            refine callV0 (cells' := 9) (slots' := 25) (Wd := 0) (argsL := []) (rest := []) (pay_of (a0 := a0) (c_ispresR l G r564 r565 h549 O575 f570) (wk G 89) (wk G 82)) f569 (wk G 85) (wk G 86) (wk G 88) (wk G 88) (wk G 87) pd9 (by rw [hml]; rfl) all0 sf00 (D at_243) (k_v 246 rfl ?_)
            rintro _ h576 ⟨rfl, rfl⟩ K577
            refine go_ifF 249 (D at_246) rfl (by decide) ?_
            refine go_aload 251 (D at_249) rfl rfl rfl ?_
            refine callV0 (cells' := 9) (slots' := 25) (Wd := 0) (argsL := []) (rest := []) (pay_of (a0 := a0) (c_opget l G r564 r565 h549 O575 f570) (wk G 130) (wk G 82)) f569 (wk G 126) (wk G 127) (wk G 129) (wk G 129) (wk G 128) pd22 (by rw [hml]; rfl) all0 sf00 (D at_251) (k_v 254 rfl ?_)
            rintro _ h578 ⟨rfl, rfl⟩ K579
            refine go_cast 257 (wk G 12) (Ins.self f571.exa) (D at_254) rfl ?_
            refine go_aload 259 (D at_257) rfl rfl rfl ?_
            have K580 : Keep h539 h549 [] := ((Keep.refl h539 []).trans K550 all0)
            have S581 := (S541.keep K580)
            refine callV0 (cells' := 9) (slots' := 25) (Wd := 0) (argsL := [(.ref a506)]) (rest := []) (pay_eq G O575 f571 S581 (by decide) (by decide)) f571.exa (wk G 131) (wk G 132) (wk G 134) (wk G 134) (wk G 133) pd23 (by rw [hml]; rfl) all0 sf00 (D at_259) (k_v 262 rfl ?_)
            rintro _ _ (⟨rfl, q582, rfl⟩ | ⟨rfl, q582, rfl⟩) -
            rotate_left 1
            · exact absurd rfl q582
            refine go_ifF 265 (D at_262) rfl (by decide) ?_
            refine go_iconst 266 (v := 1) (D at_265) rfl rfl ?_
            refine go_goto 270 (D at_266) (by decide) rfl ?_
            have K583 : Keep h0 h512 [] := (K526.ext X515)
            have K584 : Keep h0 h518 [] := (K583.wr W519 (Or.inr (Nat.le_trans K526.1 (Nat.le_of_eq g514))))
            have K585 : Keep h0 h527 [] := (K584.wr W528 (Or.inr (Nat.le_trans K526.1 (Nat.le_of_eq g514))))
            have K586 : Keep h0 h539 [] := (K585.trans K540 (allS (Or.inr (Nat.le_trans K525.1 (Nat.le_of_eq g507))) all0))
            have K587 : Keep h0 h549 [] := (K586.trans K550 all0)
            refine go_ireturn hret hlk rfl (by simp) (D at_270) (by decide) (by decide) ⟨_, rfl, rfl⟩ K587
          · exact absurd cz504 f574
        · refine go_icT 165 (D at_159) (by decide) rfl (XT.ii_ne_t cz504) ?_
          refine go_iload 167 (D at_165) rfl rfl ?_
          refine go_ifT 177 (D at_167) (by decide) rfl (by decide) ?_
          refine go_iload 179 (D at_177) rfl rfl ?_
          refine go_iconst 180 (v := 1) (D at_179) rfl rfl ?_
          refine go_icT 193 (D at_180) (by decide) rfl (by decide) ?_
          refine go_newO 196 (cells' := 4) (slots' := 14) (wk G 12) (wk G 6) (wk G 5) (D at_193) rfl rfl rfl (by decide) (by decide) (fun h588 a589 g590 X591 E592 D593 U594 => ?_)
          refine go_dup 197 (D at_196) rfl rfl ?_
          refine go_iconst 198 (v := 2) (D at_197) rfl rfl ?_
          refine go_newP 200 (cells' := 5) (slots' := 16) (cap := 2) (vs := [(.int 0), (.int 0)]) (ty := .char) (dv := .int 0) (wk G 13) rfl rfl (D at_198) rfl (by decide) rfl (by decide) rfl rfl rfl (by decide) (by decide) (fun h595 a596 k600 g597 X598 A599 => ?_)
          refine go_dup 201 (D at_200) rfl rfl ?_
          refine go_iconst 202 (v := 0) (D at_201) rfl rfl ?_
          refine go_iload 204 (D at_202) rfl rfl ?_
          have K604 : Keep h0 h369 [] := (K378.ext X372)
          have K605 : Keep h0 h375 [] := (K604.wr W376 (Or.inr (Nat.le_trans K378.1 (Nat.le_of_eq g371))))
          have K606 : Keep h0 h379 [] := (K605.wr W380 (Or.inr (Nat.le_trans K378.1 (Nat.le_of_eq g371))))
          have K607 : Keep h0 h382 [] := (K606.wr W383 (Or.inr (Nat.le_trans K378.1 (Nat.le_of_eq g371))))
          have K608 : Keep h0 h395 [] := (K607.trans K396 (allS (Or.inr (Nat.le_of_eq g364)) all0))
          have K609 : Keep h0 h588 [] := (K608.ext X591)
          refine go_stC 205 (i := 0) (x' := r3) (vs' := [(.int r3), (.int 0)]) A599 (Nat.le_trans O0.2.1 (Nat.le_trans K609.1 (Nat.le_of_eq g597))) (by decide) (by decide) rfl (nb rfl) (i2c_c8 f4) rfl (D at_204) rfl (fun h601 W602 A603 => ?_)
          refine go_dup 206 (D at_205) rfl rfl ?_
          refine go_iconst 207 (v := 1) (D at_206) rfl rfl ?_
          refine go_iload 209 (D at_207) rfl rfl ?_
          refine go_stC 210 (i := 1) (x' := r7) (vs' := [(.int r3), (.int r7)]) A603 (Nat.le_trans O0.2.1 (Nat.le_trans K609.1 (Nat.le_of_eq g597))) (by decide) (by decide) rfl (nb rfl) (i2c_c8 f8) rfl (D at_209) rfl (fun h610 W611 A612 => ?_)
          have K613 : Keep h588 h595 [] := ((Keep.refl h588 []).ext X598)
          have K614 : Keep h588 h601 [] := (K613.wr W602 (Or.inr (Nat.le_of_eq g597)))
          have K615 : Keep h588 h610 [] := (K614.wr W611 (Or.inr (Nat.le_of_eq g597)))
          have E616 := (E592.keep K615)
          have F617 := D593 (Or.inr (wk G 8)) (ty := (.array .byte)) (by decide)
          have F618 := (F617.keep K615 nin0)
          have F619 := D593 (Or.inr (wk G 9)) (ty := .byte) (by decide)
          have F620 := (F619.keep K615 nin0)
          refine go_old (fun O621 => ?_)
          refine callI0 (cells' := 6) (slots' := 18) (Wd := 1) (argsL := [(.ref a596)]) (rest := [(.ref a589)]) (pay_new G O621 (cs := [r3, r7]) (n := 2) (Nat.le_trans O0.2.1 (Nat.le_trans K608.1 (Nat.le_of_eq g590))) E616 F618 F620 A612 rfl rfl (by decide) (by decide) (c8c f4 (c8c f8 c8n)) (by decide) (by decide)) rfl (wk G 14) (wk G 15) (wk G 16) pd8 (by rw [hml]; rfl) (allS (Nat.le_trans O0.2.1 (Nat.le_trans K608.1 (Nat.le_of_eq g590))) all0) (fun _ hal => (sfS (safe_null hal E616 F618) sf0)) (D at_210) (k_n 213 rfl ?_)
          rintro h622 S624 K623
          refine go_astore 215 (ls' := #[vi x0, vi x1, vi x2, vi x3, vi 3, vi r3, vi r7, vi r11, vr a363, vi (-1 : Int32), vr a589, un]) (D at_213) rfl rfl rfl ?_
          refine go_aload 217 (D at_215) rfl rfl rfl ?_
          have K625 : Keep h395 h588 [] := ((Keep.refl h395 []).ext X591)
          have K626 : Keep h395 h595 [] := (K625.ext X598)
          have K627 : Keep h395 h601 [] := (K626.wr W602 (Or.inr (Nat.le_trans K625.1 (Nat.le_of_eq g597))))
          have K628 : Keep h395 h610 [] := (K627.wr W611 (Or.inr (Nat.le_trans K625.1 (Nat.le_of_eq g597))))
          have K629 : Keep h395 h622 [] := (K628.trans K623 (allS (Or.inr (Nat.le_of_eq g590)) all0))
          have S630 := (S397.keep K629)
          refine go_old (fun O631 => ?_)
          refine callSW0 rfl (cells' := 9) (slots' := 25) (Wd := 0) (argsL := [(.ref a363)]) (rest := []) (payW_of (a0 := a0) (c_sch3 l G a363 r3 r7 r11 h622 O631 S630) (wk G 40) (wk G 39) (ew1 G)) (wk G 37) (wk G 38) (wk G 39) (wk G 40) pd16 (by rw [hml]; rfl) all0 (D at_217) (k_v 220 rfl ?_)
          rintro _ h632 (⟨r634, r635, rfl, f636, f637, f638, f639⟩ | ⟨r640, r641, rfl, f642, f643, f644, f645, f646⟩ | ⟨r647, r648, rfl, f649, f650, f651, f652, f653, f654⟩ | ⟨rfl, f655, f656, f657⟩) K633
          · exact absurd f636 cz398
          · exact absurd f643 cz453
          · exact absurd f651 cz504
          · refine go_astore 222 (ls' := #[vi x0, vi x1, vi x2, vi x3, vi 3, vi r3, vi r7, vi r11, vr a363, vi (-1 : Int32), vr a589, vr (s_OE Z)]) (D at_220) rfl rfl rfl ?_
            refine go_iload 224 (D at_222) rfl rfl ?_
            refine go_ifF 227 (D at_224) rfl (by decide) ?_
            refine go_aload 229 (D at_227) rfl rfl rfl ?_
            refine go_old (fun O659 => ?_)
            have Z658 := (oe_all G).2.2.ext O659.2
            have Z660 := (oe_all G).2.1.ext O659.2
            refine callV0 (cells' := 9) (slots' := 25) (Wd := 0) (argsL := []) (rest := []) (pay_of (a0 := a0) (c_ispresN l G (s_OE Z) h632 O659 Z658) (wk G 89) (wk G 82)) Z660 (wk G 85) (wk G 86) (wk G 88) (wk G 88) (wk G 87) pd9 (by rw [hml]; rfl) all0 sf00 (D at_229) (k_v 232 rfl ?_)
            rintro _ h661 ⟨rfl, rfl⟩ K662
            refine go_ifF 235 (D at_232) rfl (by decide) ?_
            refine go_iconst 236 (v := 1) (D at_235) rfl rfl ?_
            refine go_goto 240 (D at_236) (by decide) rfl ?_
            have K663 : Keep h0 h595 [] := (K609.ext X598)
            have K664 : Keep h0 h601 [] := (K663.wr W602 (Or.inr (Nat.le_trans K609.1 (Nat.le_of_eq g597))))
            have K665 : Keep h0 h610 [] := (K664.wr W611 (Or.inr (Nat.le_trans K609.1 (Nat.le_of_eq g597))))
            have K666 : Keep h0 h622 [] := (K665.trans K623 (allS (Or.inr (Nat.le_trans K608.1 (Nat.le_of_eq g590))) all0))
            have K667 : Keep h0 h632 [] := (K666.trans K633 all0)
            refine go_ireturn hret hlk rfl (by simp) (D at_240) (by decide) (by decide) ⟨_, rfl, rfl⟩ K667
end CT
set_option maxRecDepth 65536 in
set_option maxHeartbeats 40000000 in
theorem comes_1 {Post : Tables → Env → Array Value → State → Outcome → State → Prop} (hpost : ∀ tb e args s v u, (limb_1_1.after args s (.returned v) u = true ∧ limb_1_2.after args s (.returned v) u = true ∧ True) → ReturnedEndW s (.returned v) u (Jvm.fieldLocs frame_1_writes args s ++ Jvm.arrayLocs frame_1_arrays args s ++ Jvm.staticLocs frame_1_statics s) 32 2176 → Post tb e args s (.returned v) u) :
    ArmFor flags0 classFile x code maxLocals ret World_1 tables_1 room_1 Calls_1 rest_1 Pre_1 Post := by
  intro l hfl _ _ p e ha hc hk s m args below hf hA hF happ hP
  obtain ⟨hcalls, hrest, hpre⟩ := hP
  obtain ⟨-, -, -, hnamed, -, -, -, hat⟩ := (Spec.applies_iff hf).mp happ
  obtain ⟨hg, hn⟩ := and_e (Cond.before_iff.mp (show (Jvm.Cond.and given_1 narrow_1).before args s = true from hpre))
  obtain ⟨h1, h2⟩ := and_e hg
  obtain ⟨w0, w1, w2, w3, rfl⟩ : ∃ w0 w1 w2 w3 : Value, args = #[w0, w1, w2, w3] := by
    have hs : args.size = 4 := by simpa [Cond.value, given_1] using h1
    obtain ⟨L⟩ := args
    match L, hs with
    | [w0, w1, w2, w3], _ => exact ⟨w0, w1, w2, w3, rfl⟩
  have hw := fun d (hd : d ∈ tables_1) => atoms_spec (ws := Jvm.Cond.code x code maxLocals ret :: tables_1) hat d (List.mem_cons_of_mem _ hd)
  obtain ⟨hsets, hown0⟩ := atoms_of _ (rest_1_c_eq ▸ (show rest_1_c.before _ s = true from hrest))
  have hfit : Fit s := fun {y c} hc i hi => by
    obtain ⟨ha, rfl⟩ := Array.getElem?_eq_some_iff.mp hc
    have q := List.all_eq_true.mp ((Array.all_eq_true_iff_forall_mem.mp hF) _ (Array.getElem_mem ha)) i (List.mem_range.mpr hi)
    simpa [Array.getElem?_eq_getElem hi] using q
  obtain ⟨q0, h2⟩ := and_e h2
  obtain ⟨i0, e0⟩ := is_v q0
  obtain rfl : w0 = (.int i0) := Option.some.inj e0
  obtain ⟨q1, h2⟩ := and_e h2
  obtain ⟨i1, e1⟩ := is_v q1
  obtain rfl : w1 = (.int i1) := Option.some.inj e1
  obtain ⟨q2, h2⟩ := and_e h2
  obtain ⟨i2, e2⟩ := is_v q2
  obtain rfl : w2 = (.int i2) := Option.some.inj e2
  have q3 := h2
  obtain ⟨i3, e3⟩ := is_v q3
  obtain rfl : w3 = (.int i3) := Option.some.inj e3
  have hew : EW s #[(.int i0), (.int i1), (.int i2), (.int i3)] EL1 := (EW.cons (hw _ (List.mem_of_getElem? (i := 4) rfl)) (by decide) (EW.cons (hw _ (List.mem_of_getElem? (i := 111) rfl)) (by decide) EW.nil))
  have G : GH s #[(.int i0), (.int i1), (.int i2), (.int i3)] := ⟨hw, hsets, hew, hn, hfit⟩
  obtain ⟨n, o, h1, h2, h3, v, L, rfl, ⟨⟨_, rfl, hv⟩, N, -⟩, hC, -⟩ := c_law l G i0 i1 i2 i3 s.heap (Old.start s) p e ha hc hk s m _ below hf ((Spec.applies_iff_loose hf).mp happ).1 ⟨rfl, State.Warmed39.refl s, rfl, (fun _ => CHv.start (a0 := _) hew (fun q hq => held_of (hcalls.1 q hq)) (hsets _ (List.mem_of_getElem? (i := 2) rfl)) (hw _ (List.mem_of_getElem? (i := 7) rfl)) (hw _ (List.mem_of_getElem? (i := 6) rfl)))⟩ trivial
  subst hv
  have hq := (hC rfl).2
  refine ⟨n, _, h1, h2, h3, hpost _ _ _ _ _ _ ⟨Cond.after_iff.mpr rfl, Cond.after_iff.mpr (eq_i res_at (Term.int_eval (1)) rfl), trivial⟩ ⟨hq.1, hq.2.1, hq.2.2.1, (hq.2.2.2.sift fun y hy => Or.inr (N y hy)).mono (by decide) (by decide)⟩⟩
theorem main_1_1 : Claimed_1_1 := comes_1 fun _ _ _ _ _ _ h hF => ⟨h.1, hF⟩
theorem main_1_2 : Claimed_1_2 := comes_1 fun _ _ _ _ _ _ h hF => ⟨h.2.1, hF⟩
end Jvm.Pilot.@@N@@
namespace Jvm.Pilot.@@N@@
open Jvm Jvm.ClassFile Sem Op Lib Jvm.Free Jvm.Stand Jvm.Pilot.@@N@@.Jvm.D
/-! MADE BY PROGRAM (witnessworld.py) out of the Statement's table words and the real class files: 25 classes; the members and pool entries that the words name. The judged class is class 1, her method 2. -/
namespace start1
open Jvm.ClassFile
def u (s : String) : CpInfo := .utf8 (stringToUtf16 s)
/-- a pool by its gaps: so many unusable entries, then the entry; so many at the end -/
def gap : Nat → List CpInfo → List CpInfo
  | 0, r => r
  | n + 1, r => .unusable :: gap n r
def poolList (es : List (Nat × CpInfo)) (last : Nat) : List CpInfo := es.foldr (fun e r => gap e.1 (e.2 :: r)) (gap last [])
def pool (es : List (Nat × CpInfo)) (last : Nat) : Array CpInfo := ⟨poolList es last⟩
def fileOf (pool : Array CpInfo) (this : Nat) (attrs : Array Attribute := #[]) (ms : Array MethodInfo := #[]) (fl : Nat := 33) (sup : Nat := 0) (ifs : Array Nat := #[]) (fds : Array FieldInfo := #[]) : ClassFile where
  minorVersion := 0
  majorVersion := 65
  constantPool := pool
  accessFlags := fl
  thisClass := this
  superClass := sup
  interfaces := ifs
  fields := fds
  methods := ms
  attributes := attrs
def plain (name : String) (sup : Option ClassId) : Class where
  name := name
  kind := .ordinary
  loader := none
  accessFlags := 33
  super := sup
  interfaces := #[]
  cf := none
  fields := #[]
  methods := #[]
  instanceTypes := #[]
  staticTypes := #[]
  resolved := #[]
  callSites := []
  init := .initialized
  statics := none
  mirror := none

def pool0 : Array CpInfo := pool [(5, u "<init>"), (0, u "()V"), (1, .class_ 10), (1, u "java/lang/Object")] 113

def k0c0 : Code := { maxStack := 0, maxLocals := 1, code := object_method_1_code, exceptionTable := #[], attributes := #[] }
def k0m0 : Method := { name := "<init>", desc := "()V", sig := { parameters := [], returnType := none }, accessFlags := 1, code := some k0c0 }
/-- java/lang/Object -/
def k0 : Class := { plain "java/lang/Object" none with
  accessFlags := 33
  interfaces := #[]
  cf := some (fileOf pool0 8 #[] #[{ accessFlags := 1, nameIndex := 5, descriptorIndex := 6, attributes := #[] }] 33 0 #[] #[])
  fields := #[]
  methods := #[k0m0]
  instanceTypes := #[]
  staticTypes := #[]
  resolved := Array.replicate 124 none
  statics := none }

def pool1 : Array CpInfo := pool [(2, .class_ 4), (1, u "java/lang/Object"), (0, u "<init>"), (0, u "()V"), (0, .methodref 8 9), (0, .class_ 10), (0, .nameAndType 11 12), (0, u "com/example/commit_feed/commitfeed/config/SqlNamesSchemaPinLaw"), (0, u "draw"), (0, u "(I)C"), (0, .string 14), (0, u ""), (0, .methodref 16 17), (0, .class_ 18), (0, .nameAndType 19 20), (0, u "java/lang/String"), (0, u "valueOf"), (0, u "(C)Ljava/lang/String;"), (0, .methodref 16 22), (0, .nameAndType 5 23), (0, u "([C)V"), (0, .methodref 25 26), (0, .class_ 27), (0, .nameAndType 28 29), (0, u "com/example/commit_feed/commitfeed/config/SqlNames"), (0, u "schema"), (0, u "(Ljava/lang/String;)Ljava/util/Optional;"), (0, .methodref 31 32), (0, .class_ 33), (0, .nameAndType 34 35), (0, u "java/util/Optional"), (0, u "isPresent"), (0, u "()Z"), (0, .methodref 31 37), (0, .nameAndType 38 39), (0, u "get"), (0, u "()Ljava/lang/Object;"), (0, .methodref 16 41), (0, .nameAndType 42 43), (0, u "equals"), (0, u "(Ljava/lang/Object;)Z"), (3, u "law"), (0, u "(IIII)Z")] 2

def k1m0 : Method := { name := "<init>", desc := "()V", sig := { parameters := [], returnType := none }, accessFlags := 2, code := none }
def k1c1 : Code := { maxStack := 2, maxLocals := 1, code := method_2_code, exceptionTable := #[], attributes := #[] }
def k1m1 : Method := { name := "draw", desc := "(I)C", sig := { parameters := [.int], returnType := some .char }, accessFlags := 10, code := some k1c1 }
def k1c2 : Code := { maxStack := 6, maxLocals := 12, code := code, exceptionTable := #[], attributes := #[] }
def k1m2 : Method := { name := "law", desc := "(IIII)Z", sig := { parameters := [.int, .int, .int, .int], returnType := some .boolean }, accessFlags := 9, code := some k1c2 }
/-- com/example/commit_feed/commitfeed/config/SqlNamesSchemaPinLaw -/
def k1 : Class := { plain "com/example/commit_feed/commitfeed/config/SqlNamesSchemaPinLaw" (some 0) with
  accessFlags := 49
  interfaces := #[]
  cf := some (fileOf pool1 8 #[] #[{ accessFlags := 2, nameIndex := 5, descriptorIndex := 6, attributes := #[] }, { accessFlags := 10, nameIndex := 11, descriptorIndex := 12, attributes := #[] }, { accessFlags := 9, nameIndex := 47, descriptorIndex := 48, attributes := #[] }] 49 2 #[] #[])
  fields := #[]
  methods := #[k1m0, k1m1, k1m2]
  instanceTypes := #[]
  staticTypes := #[]
  resolved := Array.replicate 51 none
  statics := none }

def pool2 : Array CpInfo := pool [(1, .class_ 2), (0, u "java/io/Serializable"), (0, .class_ 4), (0, u "java/lang/Object")] 2

/-- java/io/Serializable -/
def k2 : Class := { plain "java/io/Serializable" (some 0) with
  accessFlags := 1537
  interfaces := #[]
  cf := some (fileOf pool2 1 #[] #[] 1537 3 #[] #[])
  fields := #[]
  methods := #[]
  instanceTypes := #[]
  staticTypes := #[]
  resolved := Array.replicate 7 none
  statics := none }

def pool3 : Array CpInfo := pool [(1, .class_ 2), (0, u "java/lang/Comparable"), (0, .class_ 4), (0, u "java/lang/Object")] 7

/-- java/lang/Comparable -/
def k3 : Class := { plain "java/lang/Comparable" (some 0) with
  accessFlags := 1537
  interfaces := #[]
  cf := some (fileOf pool3 1 #[] #[] 1537 3 #[] #[])
  fields := #[]
  methods := #[]
  instanceTypes := #[]
  staticTypes := #[]
  resolved := Array.replicate 12 none
  statics := none }

def pool4 : Array CpInfo := pool [(2, .class_ 4), (1, u "java/lang/CharSequence"), (42, .class_ 48), (0, u "java/lang/CharSequence$1CodePointIterator"), (10, .class_ 60), (0, u "java/lang/CharSequence$1CharIterator"), (5, .class_ 67), (0, u "java/lang/Object")] 63

/-- java/lang/CharSequence -/
def k4 : Class := { plain "java/lang/CharSequence" (some 0) with
  accessFlags := 1537
  interfaces := #[]
  cf := some (fileOf pool4 2 #[.nestMembers #[47, 59]] #[] 1537 66 #[] #[])
  fields := #[]
  methods := #[]
  instanceTypes := #[]
  staticTypes := #[]
  resolved := Array.replicate 131 none
  statics := none }

def pool5 : Array CpInfo := pool [(1, .class_ 2), (0, u "java/lang/constant/Constable"), (0, .class_ 4), (0, u "java/lang/Object")] 6

/-- java/lang/constant/Constable -/
def k5 : Class := { plain "java/lang/constant/Constable" (some 0) with
  accessFlags := 1537
  interfaces := #[]
  cf := some (fileOf pool5 1 #[] #[] 1537 3 #[] #[])
  fields := #[]
  methods := #[]
  instanceTypes := #[]
  staticTypes := #[]
  resolved := Array.replicate 11 none
  statics := none }

def pool6 : Array CpInfo := pool [(1, .class_ 2), (0, u "java/lang/constant/ConstantDesc"), (0, .class_ 4), (0, u "java/lang/Object")] 32

/-- java/lang/constant/ConstantDesc -/
def k6 : Class := { plain "java/lang/constant/ConstantDesc" (some 0) with
  accessFlags := 1537
  interfaces := #[]
  cf := some (fileOf pool6 1 #[] #[] 1537 3 #[] #[])
  fields := #[]
  methods := #[]
  instanceTypes := #[]
  staticTypes := #[]
  resolved := Array.replicate 37 none
  statics := none }

def pool7 : Array CpInfo := pool [(1, .methodref 2 3), (0, .class_ 4), (0, .nameAndType 5 6), (0, u "java/lang/Object"), (0, u "<init>"), (0, u "()V"), (2, .fieldref 10 11), (0, .class_ 12), (0, .nameAndType 13 14), (0, u "java/lang/String"), (0, u "value"), (0, u "[B"), (0, .fieldref 10 16), (0, .nameAndType 17 18), (0, u "coder"), (0, u "B"), (2, u "hash"), (0, u "I"), (2, u "hashIsZero"), (0, u "Z"), (0, .methodref 10 28), (0, .nameAndType 5 29), (0, u "([CIILjava/lang/Void;)V"), (8, .fieldref 10 39), (0, .nameAndType 40 26), (0, u "COMPACT_STRINGS"), (1, .class_ 44), (1, u "java/lang/StringUTF16"), (0, u "compress"), (1, .methodref 42 48), (0, .nameAndType 49 50), (0, u "coderFromArrayLen"), (0, u "([BI)B"), (2, u "toBytes"), (53, .class_ 109), (1, u "java/lang/StringLatin1"), (32, u "()Z"), (34, .methodref 42 178), (0, .nameAndType 45 179), (0, u "([CII)[B"), (29, .methodref 10 210), (0, .nameAndType 5 211), (0, u "([BB)V"), (122, u "()I"), (0, .methodref 10 336), (0, .nameAndType 17 337), (0, u "()B"), (31, u "(C)Z"), (122, .methodref 10 493), (0, .nameAndType 494 142), (0, u "isLatin1"), (10, .methodref 10 506), (0, .nameAndType 507 334), (0, u "length"), (5, u "checkFromToIndex"), (7, .methodref 10 522), (0, .nameAndType 523 524), (0, u "checkBoundsBeginEnd"), (0, u "(III)V"), (16, .methodref 107 542), (0, .nameAndType 543 544), (0, u "equals"), (0, u "([B[B)Z"), (28, u "(Ljava/lang/Object;)Z"), (1, .class_ 576), (0, u "java/lang/CharSequence"), (22, u "CASE_INSENSITIVE_ORDER"), (0, u "Ljava/util/Comparator;"), (32, .methodref 10 634), (0, .nameAndType 635 636), (0, u "indexOf"), (0, u "(II)I"), (0, .methodref 107 638), (0, .nameAndType 635 639), (0, u "([BIII)I"), (43, u "substring"), (0, u "(II)Ljava/lang/String;"), (0, .methodref 107 686), (0, .nameAndType 687 688), (0, u "newString"), (0, u "([BII)Ljava/lang/String;"), (76, u "(I)I"), (16, u "valueOf"), (0, u "(C)Ljava/lang/String;"), (226, u "([C)V"), (4, .methodref 107 1016), (0, .nameAndType 1017 369), (0, u "canEncode"), (0, .methodref 107 1019), (0, .nameAndType 53 1020), (0, u "(C)[B"), (32, .fieldref 1054 1055), (0, .class_ 1056), (0, .nameAndType 1057 1058), (0, u "jdk/internal/util/Preconditions"), (0, u "SIOOBE_FORMATTER"), (0, u "Ljava/util/function/BiFunction;"), (3, .methodref 1054 1063), (0, .nameAndType 513 1064), (0, u "(IIILjava/util/function/BiFunction;)I"), (36, u "serialPersistentFields"), (0, u "[Ljava/io/ObjectStreamField;"), (0, .class_ 1104), (0, u "java/lang/String$CaseInsensitiveComparator"), (1, .class_ 1107), (0, u "java/io/Serializable"), (0, .class_ 1109), (0, u "java/lang/Comparable"), (0, .class_ 1111), (0, u "java/lang/constant/Constable"), (0, .class_ 1113), (0, u "java/lang/constant/ConstantDesc"), (2, u "serialVersionUID"), (0, u "J"), (3, u "REPL"), (0, u "C"), (2, u "LATIN1"), (1, u "UTF16")] 323

def k7m0 : Method := { name := "<init>", desc := "()V", sig := { parameters := [], returnType := none }, accessFlags := 1, code := none }
def k7c1 : Code := { maxStack := 5, maxLocals := 2, code := jdk_42_method_3_code, exceptionTable := #[], attributes := #[] }
def k7m1 : Method := { name := "<init>", desc := "([C)V", sig := { parameters := [(.array .char)], returnType := none }, accessFlags := 1, code := some k7c1 }
def k7c2 : Code := { maxStack := 2, maxLocals := 1, code := jdk_42_method_54_code, exceptionTable := #[], attributes := #[] }
def k7m2 : Method := { name := "length", desc := "()I", sig := { parameters := [], returnType := some .int }, accessFlags := 1, code := some k7c2 }
def k7c3 : Code := { maxStack := 2, maxLocals := 3, code := jdk_42_method_66_code, exceptionTable := #[], attributes := #[] }
def k7m3 : Method := { name := "equals", desc := "(Ljava/lang/Object;)Z", sig := { parameters := [(.object "java/lang/Object")], returnType := some .boolean }, accessFlags := 1, code := some k7c3 }
def k7c4 : Code := { maxStack := 3, maxLocals := 2, code := jdk_42_method_79_code, exceptionTable := #[], attributes := #[] }
def k7m4 : Method := { name := "indexOf", desc := "(I)I", sig := { parameters := [.int], returnType := some .int }, accessFlags := 1, code := some k7c4 }
def k7c5 : Code := { maxStack := 4, maxLocals := 3, code := jdk_42_method_80_code, exceptionTable := #[], attributes := #[] }
def k7m5 : Method := { name := "indexOf", desc := "(II)I", sig := { parameters := [.int, .int], returnType := some .int }, accessFlags := 1, code := some k7c5 }
def k7c6 : Code := { maxStack := 3, maxLocals := 5, code := jdk_42_method_92_code, exceptionTable := #[], attributes := #[] }
def k7m6 : Method := { name := "substring", desc := "(II)Ljava/lang/String;", sig := { parameters := [.int, .int], returnType := some (.object "java/lang/String") }, accessFlags := 1, code := some k7c6 }
def k7c7 : Code := { maxStack := 4, maxLocals := 1, code := jdk_42_method_139_code, exceptionTable := #[], attributes := #[] }
def k7m7 : Method := { name := "valueOf", desc := "(C)Ljava/lang/String;", sig := { parameters := [.char], returnType := some (.object "java/lang/String") }, accessFlags := 9, code := some k7c7 }
def k7c8 : Code := { maxStack := 4, maxLocals := 6, code := jdk_42_method_149_code, exceptionTable := #[], attributes := #[] }
def k7m8 : Method := { name := "<init>", desc := "([CIILjava/lang/Void;)V", sig := { parameters := [(.array .char), .int, .int, (.object "java/lang/Void")], returnType := none }, accessFlags := 2, code := some k7c8 }
def k7c9 : Code := { maxStack := 2, maxLocals := 3, code := jdk_42_method_151_code, exceptionTable := #[], attributes := #[] }
def k7m9 : Method := { name := "<init>", desc := "([BB)V", sig := { parameters := [(.array .byte), .byte], returnType := none }, accessFlags := 0, code := some k7c9 }
def k7c10 : Code := { maxStack := 1, maxLocals := 1, code := jdk_42_method_152_code, exceptionTable := #[], attributes := #[] }
def k7m10 : Method := { name := "coder", desc := "()B", sig := { parameters := [], returnType := some .byte }, accessFlags := 0, code := some k7c10 }
def k7c11 : Code := { maxStack := 1, maxLocals := 1, code := jdk_42_method_154_code, exceptionTable := #[], attributes := #[] }
def k7m11 : Method := { name := "isLatin1", desc := "()Z", sig := { parameters := [], returnType := some .boolean }, accessFlags := 0, code := some k7c11 }
def k7c12 : Code := { maxStack := 4, maxLocals := 3, code := jdk_42_method_158_code, exceptionTable := #[], attributes := #[] }
def k7m12 : Method := { name := "checkBoundsBeginEnd", desc := "(III)V", sig := { parameters := [.int, .int, .int], returnType := none }, accessFlags := 8, code := some k7c12 }
/-- java/lang/String -/
def k7 : Class := { plain "java/lang/String" (some 0) with
  accessFlags := 49
  interfaces := #[2, 3, 4, 5, 6]
  cf := some (fileOf pool7 10 #[.nestMembers #[1103]] #[{ accessFlags := 1, nameIndex := 5, descriptorIndex := 6, attributes := #[] }, { accessFlags := 1, nameIndex := 5, descriptorIndex := 1010, attributes := #[] }, { accessFlags := 1, nameIndex := 507, descriptorIndex := 334, attributes := #[] }, { accessFlags := 1, nameIndex := 543, descriptorIndex := 573, attributes := #[] }, { accessFlags := 1, nameIndex := 635, descriptorIndex := 765, attributes := #[] }, { accessFlags := 1, nameIndex := 635, descriptorIndex := 636, attributes := #[] }, { accessFlags := 1, nameIndex := 683, descriptorIndex := 684, attributes := #[] }, { accessFlags := 9, nameIndex := 782, descriptorIndex := 783, attributes := #[] }, { accessFlags := 2, nameIndex := 5, descriptorIndex := 29, attributes := #[] }, { accessFlags := 0, nameIndex := 5, descriptorIndex := 211, attributes := #[] }, { accessFlags := 0, nameIndex := 17, descriptorIndex := 337, attributes := #[] }, { accessFlags := 0, nameIndex := 494, descriptorIndex := 142, attributes := #[] }, { accessFlags := 8, nameIndex := 523, descriptorIndex := 524, attributes := #[] }] 49 2 #[1106, 1108, 575, 1110, 1112] #[{ accessFlags := 18, nameIndex := 13, descriptorIndex := 14, attributes := #[] }, { accessFlags := 18, nameIndex := 17, descriptorIndex := 18, attributes := #[] }, { accessFlags := 2, nameIndex := 21, descriptorIndex := 22, attributes := #[] }, { accessFlags := 2, nameIndex := 25, descriptorIndex := 26, attributes := #[] }, { accessFlags := 26, nameIndex := 1116, descriptorIndex := 1117, attributes := #[] }, { accessFlags := 24, nameIndex := 40, descriptorIndex := 26, attributes := #[] }, { accessFlags := 26, nameIndex := 1101, descriptorIndex := 1102, attributes := #[] }, { accessFlags := 26, nameIndex := 1121, descriptorIndex := 1122, attributes := #[] }, { accessFlags := 25, nameIndex := 599, descriptorIndex := 600, attributes := #[] }, { accessFlags := 24, nameIndex := 1125, descriptorIndex := 18, attributes := #[] }, { accessFlags := 24, nameIndex := 1127, descriptorIndex := 18, attributes := #[] }])
  fields := #[{ name := "value", type := (.array .byte), accessFlags := 18, slot := 0, constantValue := 0 }, { name := "coder", type := .byte, accessFlags := 18, slot := 1, constantValue := 0 }, { name := "hash", type := .int, accessFlags := 2, slot := 2, constantValue := 0 }, { name := "hashIsZero", type := .boolean, accessFlags := 2, slot := 3, constantValue := 0 }, { name := "serialVersionUID", type := .long, accessFlags := 26, slot := 0, constantValue := 0 }, { name := "COMPACT_STRINGS", type := .boolean, accessFlags := 24, slot := 1, constantValue := 0 }, { name := "serialPersistentFields", type := (.array (.object "java/io/ObjectStreamField")), accessFlags := 26, slot := 2, constantValue := 0 }, { name := "REPL", type := .char, accessFlags := 26, slot := 3, constantValue := 0 }, { name := "CASE_INSENSITIVE_ORDER", type := (.object "java/util/Comparator"), accessFlags := 25, slot := 4, constantValue := 0 }, { name := "LATIN1", type := .byte, accessFlags := 24, slot := 5, constantValue := 0 }, { name := "UTF16", type := .byte, accessFlags := 24, slot := 6, constantValue := 0 }]
  methods := #[k7m0, k7m1, k7m2, k7m3, k7m4, k7m5, k7m6, k7m7, k7m8, k7m9, k7m10, k7m11, k7m12]
  instanceTypes := #[(.array .byte), .byte, .int, .boolean]
  staticTypes := #[.long, .boolean, (.array (.object "java/io/ObjectStreamField")), .char, (.object "java/util/Comparator"), .byte, .byte]
  resolved := Array.replicate 1451 none
  statics := some 0 }

def pool8 : Array CpInfo := pool [(6, .class_ 8), (1, u "java/lang/Object"), (0, u "<init>"), (0, u "()V"), (1, .class_ 14), (1, u "java/lang/StringUTF16"), (31, u "$assertionsDisabled"), (0, u "Z"), (13, u "HI_BYTE_SHIFT"), (0, u "I"), (2, u "LO_BYTE_SHIFT"), (49, .methodref 12 116), (0, .nameAndType 117 118), (0, u "compress"), (0, u "([CI[BII)I"), (3, u "([CII)[B"), (138, u "coderFromArrayLen"), (0, u "([BI)B"), (106, .class_ 371), (1, u "java/lang/StringUTF16$LinesSpliterator"), (58, u "MAX_LENGTH"), (196, .class_ 628), (0, u "java/lang/StringUTF16$CodePointsSpliterator"), (0, .class_ 630), (0, u "java/lang/StringUTF16$CharsSpliterator")] 4

def k8m0 : Method := { name := "<init>", desc := "()V", sig := { parameters := [], returnType := none }, accessFlags := 0, code := none }
def k8c1 : Code := { maxStack := 2, maxLocals := 2, code := jdk_52_method_15_code, exceptionTable := #[], attributes := #[] }
def k8m1 : Method := { name := "coderFromArrayLen", desc := "([BI)B", sig := { parameters := [(.array .byte), .int], returnType := some .byte }, accessFlags := 8, code := some k8c1 }
def k8c2 : Code := { maxStack := 5, maxLocals := 6, code := jdk_52_method_16_code, exceptionTable := #[], attributes := #[] }
def k8m2 : Method := { name := "compress", desc := "([CII)[B", sig := { parameters := [(.array .char), .int, .int], returnType := some (.array .byte) }, accessFlags := 9, code := some k8c2 }
def k8c3 : Code := { maxStack := 3, maxLocals := 7, code := jdk_52_method_21_code, exceptionTable := #[], attributes := #[] }
def k8m3 : Method := { name := "compress", desc := "([CI[BII)I", sig := { parameters := [(.array .char), .int, (.array .byte), .int, .int], returnType := some .int }, accessFlags := 9, code := some k8c3 }
/-- java/lang/StringUTF16 -/
def k8 : Class := { plain "java/lang/StringUTF16" (some 0) with
  accessFlags := 48
  interfaces := #[]
  cf := some (fileOf pool8 12 #[.nestMembers #[627, 629, 369]] #[{ accessFlags := 0, nameIndex := 9, descriptorIndex := 10, attributes := #[] }, { accessFlags := 8, nameIndex := 261, descriptorIndex := 262, attributes := #[] }, { accessFlags := 9, nameIndex := 117, descriptorIndex := 122, attributes := #[] }, { accessFlags := 9, nameIndex := 117, descriptorIndex := 118, attributes := #[] }] 48 6 #[] #[{ accessFlags := 26, nameIndex := 61, descriptorIndex := 62, attributes := #[] }, { accessFlags := 26, nameIndex := 65, descriptorIndex := 62, attributes := #[] }, { accessFlags := 24, nameIndex := 430, descriptorIndex := 62, attributes := #[] }, { accessFlags := 4120, nameIndex := 46, descriptorIndex := 47, attributes := #[] }])
  fields := #[{ name := "HI_BYTE_SHIFT", type := .int, accessFlags := 26, slot := 0, constantValue := 0 }, { name := "LO_BYTE_SHIFT", type := .int, accessFlags := 26, slot := 1, constantValue := 0 }, { name := "MAX_LENGTH", type := .int, accessFlags := 24, slot := 2, constantValue := 0 }, { name := "$assertionsDisabled", type := .boolean, accessFlags := 4120, slot := 3, constantValue := 0 }]
  methods := #[k8m0, k8m1, k8m2, k8m3]
  instanceTypes := #[]
  staticTypes := #[.int, .int, .int, .boolean]
  resolved := Array.replicate 635 none
  statics := none }

def pool9 : Array CpInfo := pool [(2, .class_ 4), (1, u "java/lang/Object"), (0, u "<init>"), (0, u "()V"), (1, .class_ 10), (1, u "java/lang/String"), (14, .class_ 27), (1, u "com/example/commit_feed/commitfeed/config/SqlNames"), (0, u "TABLE"), (0, u "Ljava/util/regex/Pattern;"), (15, .methodref 8 46), (0, .nameAndType 47 48), (0, u "indexOf"), (0, u "(I)I"), (0, .methodref 50 51), (0, .class_ 52), (0, .nameAndType 53 54), (0, u "java/util/Optional"), (0, u "empty"), (0, u "()Ljava/util/Optional;"), (0, .methodref 8 56), (0, .nameAndType 57 58), (0, u "substring"), (0, u "(II)Ljava/lang/String;"), (0, .methodref 50 60), (0, .nameAndType 61 62), (0, u "of"), (0, u "(Ljava/lang/Object;)Ljava/util/Optional;"), (13, u "schema"), (0, u "(Ljava/lang/String;)Ljava/util/Optional;"), (23, u "COLUMN"), (86, u "SQL_NAME"), (0, u "Ljava/lang/String;"), (1, u "RULE")] 56

def k9m0 : Method := { name := "<init>", desc := "()V", sig := { parameters := [], returnType := none }, accessFlags := 2, code := none }
def k9c1 : Code := { maxStack := 3, maxLocals := 2, code := prog_9_method_3_code, exceptionTable := #[], attributes := #[] }
def k9m1 : Method := { name := "schema", desc := "(Ljava/lang/String;)Ljava/util/Optional;", sig := { parameters := [(.object "java/lang/String")], returnType := some (.object "java/util/Optional") }, accessFlags := 9, code := some k9c1 }
/-- com/example/commit_feed/commitfeed/config/SqlNames -/
def k9 : Class := { plain "com/example/commit_feed/commitfeed/config/SqlNames" (some 0) with
  accessFlags := 49
  interfaces := #[]
  cf := some (fileOf pool9 25 #[] #[{ accessFlags := 2, nameIndex := 5, descriptorIndex := 6, attributes := #[] }, { accessFlags := 9, nameIndex := 76, descriptorIndex := 77, attributes := #[] }] 49 2 #[] #[{ accessFlags := 26, nameIndex := 188, descriptorIndex := 189, attributes := #[] }, { accessFlags := 26, nameIndex := 101, descriptorIndex := 29, attributes := #[] }, { accessFlags := 26, nameIndex := 28, descriptorIndex := 29, attributes := #[] }, { accessFlags := 26, nameIndex := 191, descriptorIndex := 189, attributes := #[] }])
  fields := #[{ name := "SQL_NAME", type := (.object "java/lang/String"), accessFlags := 26, slot := 0, constantValue := 0 }, { name := "COLUMN", type := (.object "java/util/regex/Pattern"), accessFlags := 26, slot := 1, constantValue := 0 }, { name := "TABLE", type := (.object "java/util/regex/Pattern"), accessFlags := 26, slot := 2, constantValue := 0 }, { name := "RULE", type := (.object "java/lang/String"), accessFlags := 26, slot := 3, constantValue := 0 }]
  methods := #[k9m0, k9m1]
  instanceTypes := #[]
  staticTypes := #[(.object "java/lang/String"), (.object "java/util/regex/Pattern"), (.object "java/util/regex/Pattern"), (.object "java/lang/String")]
  resolved := Array.replicate 248 none
  statics := none }

def pool10 : Array CpInfo := pool [(1, .class_ 2), (0, u "java/lang/String"), (1, .class_ 6), (1, u "java/lang/Object"), (0, u "<init>"), (0, u "()V"), (5, .class_ 16), (1, u "java/lang/StringLatin1"), (21, .methodref 39 40), (0, .class_ 41), (0, .nameAndType 42 43), (0, u "java/lang/Math"), (0, u "min"), (0, u "(II)I"), (44, .methodref 14 89), (0, .nameAndType 90 91), (0, u "canEncode"), (0, u "(I)Z"), (0, .methodref 39 93), (0, .nameAndType 94 43), (0, u "max"), (0, .methodref 14 96), (0, .nameAndType 97 98), (0, u "indexOfChar"), (0, u "([BIII)I"), (2, u "indexOf"), (3, u "(C)Z"), (6, .methodref 1 113), (0, .nameAndType 7 114), (0, u "([BB)V"), (6, u "$assertionsDisabled"), (0, u "Z"), (8, .class_ 133), (1, u "java/util/Arrays"), (17, .string 152), (0, u ""), (43, u "newString"), (0, u "([BII)Ljava/lang/String;"), (23, .class_ 223), (1, u "java/lang/StringLatin1$LinesSpliterator"), (8, .methodref 131 233), (0, .nameAndType 234 235), (0, u "copyOfRange"), (0, u "([BII)[B"), (45, u "equals"), (0, u "([B[B)Z"), (97, u "toBytes"), (1, u "(C)[B"), (7, .class_ 391), (0, u "java/lang/StringLatin1$CharsSpliterator")] 3

def k10m0 : Method := { name := "<init>", desc := "()V", sig := { parameters := [], returnType := none }, accessFlags := 0, code := none }
def k10c1 : Code := { maxStack := 2, maxLocals := 1, code := jdk_43_method_3_code, exceptionTable := #[], attributes := #[] }
def k10m1 : Method := { name := "canEncode", desc := "(C)Z", sig := { parameters := [.char], returnType := some .boolean }, accessFlags := 9, code := some k10c1 }
def k10c2 : Code := { maxStack := 2, maxLocals := 1, code := jdk_43_method_4_code, exceptionTable := #[], attributes := #[] }
def k10m2 : Method := { name := "canEncode", desc := "(I)Z", sig := { parameters := [.int], returnType := some .boolean }, accessFlags := 9, code := some k10c2 }
def k10c3 : Code := { maxStack := 3, maxLocals := 3, code := jdk_43_method_13_code, exceptionTable := #[], attributes := #[] }
def k10m3 : Method := { name := "equals", desc := "([B[B)Z", sig := { parameters := [(.array .byte), (.array .byte)], returnType := some .boolean }, accessFlags := 9, code := some k10c3 }
def k10c4 : Code := { maxStack := 4, maxLocals := 4, code := jdk_43_method_22_code, exceptionTable := #[], attributes := #[] }
def k10m4 : Method := { name := "indexOf", desc := "([BIII)I", sig := { parameters := [(.array .byte), .int, .int, .int], returnType := some .int }, accessFlags := 9, code := some k10c4 }
def k10c5 : Code := { maxStack := 2, maxLocals := 6, code := jdk_43_method_23_code, exceptionTable := #[], attributes := #[] }
def k10m5 : Method := { name := "indexOfChar", desc := "([BIII)I", sig := { parameters := [(.array .byte), .int, .int, .int], returnType := some .int }, accessFlags := 10, code := some k10c5 }
def k10c6 : Code := { maxStack := 4, maxLocals := 1, code := jdk_43_method_46_code, exceptionTable := #[], attributes := #[] }
def k10m6 : Method := { name := "toBytes", desc := "(C)[B", sig := { parameters := [.char], returnType := some (.array .byte) }, accessFlags := 9, code := some k10c6 }
def k10c7 : Code := { maxStack := 6, maxLocals := 3, code := jdk_43_method_47_code, exceptionTable := #[], attributes := #[] }
def k10m7 : Method := { name := "newString", desc := "([BII)Ljava/lang/String;", sig := { parameters := [(.array .byte), .int, .int], returnType := some (.object "java/lang/String") }, accessFlags := 9, code := some k10c7 }
/-- java/lang/StringLatin1 -/
def k10 : Class := { plain "java/lang/StringLatin1" (some 0) with
  accessFlags := 48
  interfaces := #[]
  cf := some (fileOf pool10 14 #[.nestMembers #[390, 221]] #[{ accessFlags := 0, nameIndex := 7, descriptorIndex := 8, attributes := #[] }, { accessFlags := 9, nameIndex := 90, descriptorIndex := 105, attributes := #[] }, { accessFlags := 9, nameIndex := 90, descriptorIndex := 91, attributes := #[] }, { accessFlags := 9, nameIndex := 281, descriptorIndex := 282, attributes := #[] }, { accessFlags := 9, nameIndex := 101, descriptorIndex := 98, attributes := #[] }, { accessFlags := 10, nameIndex := 97, descriptorIndex := 98, attributes := #[] }, { accessFlags := 9, nameIndex := 380, descriptorIndex := 382, attributes := #[] }, { accessFlags := 9, nameIndex := 196, descriptorIndex := 197, attributes := #[] }] 48 4 #[] #[{ accessFlags := 4120, nameIndex := 121, descriptorIndex := 122, attributes := #[] }])
  fields := #[{ name := "$assertionsDisabled", type := .boolean, accessFlags := 4120, slot := 0, constantValue := 0 }]
  methods := #[k10m0, k10m1, k10m2, k10m3, k10m4, k10m5, k10m6, k10m7]
  instanceTypes := #[]
  staticTypes := #[.boolean]
  resolved := Array.replicate 395 none
  statics := none }

def pool11 : Array CpInfo := pool [(1, .class_ 2), (0, u "java/lang/Math"), (1, .class_ 6), (1, u "java/lang/Object"), (0, u "<init>"), (0, u "()V"), (89, .class_ 100), (1, u "java/lang/Math$RandomNumberGeneratorHolder"), (71, u "negativeZeroFloatBits"), (0, u "J"), (2, u "negativeZeroDoubleBits"), (21, u "max"), (2, u "min"), (43, u "$assertionsDisabled"), (0, u "Z"), (88, u "(II)I"), (2, u "twoToTheDoubleScaleDown"), (0, u "D"), (4, u "twoToTheDoubleScaleUp"), (9, u "E"), (3, u "PI"), (2, u "TAU"), (2, u "DEGREES_TO_RADIANS"), (0, u "RADIANS_TO_DEGREES")] 94

def k11m0 : Method := { name := "<init>", desc := "()V", sig := { parameters := [], returnType := none }, accessFlags := 2, code := none }
def k11c1 : Code := { maxStack := 2, maxLocals := 2, code := jdk_29_method_65_code, exceptionTable := #[], attributes := #[] }
def k11m1 : Method := { name := "max", desc := "(II)I", sig := { parameters := [.int, .int], returnType := some .int }, accessFlags := 9, code := some k11c1 }
def k11c2 : Code := { maxStack := 2, maxLocals := 2, code := jdk_29_method_69_code, exceptionTable := #[], attributes := #[] }
def k11m2 : Method := { name := "min", desc := "(II)I", sig := { parameters := [.int, .int], returnType := some .int }, accessFlags := 9, code := some k11c2 }
/-- java/lang/Math -/
def k11 : Class := { plain "java/lang/Math" (some 0) with
  accessFlags := 49
  interfaces := #[]
  cf := some (fileOf pool11 1 #[.nestMembers #[98]] #[{ accessFlags := 2, nameIndex := 7, descriptorIndex := 8, attributes := #[] }, { accessFlags := 9, nameIndex := 198, descriptorIndex := 335, attributes := #[] }, { accessFlags := 9, nameIndex := 201, descriptorIndex := 335, attributes := #[] }] 49 4 #[] #[{ accessFlags := 25, nameIndex := 354, descriptorIndex := 339, attributes := #[] }, { accessFlags := 25, nameIndex := 358, descriptorIndex := 339, attributes := #[] }, { accessFlags := 25, nameIndex := 361, descriptorIndex := 339, attributes := #[] }, { accessFlags := 26, nameIndex := 364, descriptorIndex := 339, attributes := #[] }, { accessFlags := 26, nameIndex := 365, descriptorIndex := 339, attributes := #[] }, { accessFlags := 26, nameIndex := 172, descriptorIndex := 173, attributes := #[] }, { accessFlags := 26, nameIndex := 176, descriptorIndex := 173, attributes := #[] }, { accessFlags := 8, nameIndex := 344, descriptorIndex := 339, attributes := #[] }, { accessFlags := 8, nameIndex := 338, descriptorIndex := 339, attributes := #[] }, { accessFlags := 4120, nameIndex := 245, descriptorIndex := 246, attributes := #[] }])
  fields := #[{ name := "E", type := .double, accessFlags := 25, slot := 0, constantValue := 0 }, { name := "PI", type := .double, accessFlags := 25, slot := 1, constantValue := 0 }, { name := "TAU", type := .double, accessFlags := 25, slot := 2, constantValue := 0 }, { name := "DEGREES_TO_RADIANS", type := .double, accessFlags := 26, slot := 3, constantValue := 0 }, { name := "RADIANS_TO_DEGREES", type := .double, accessFlags := 26, slot := 4, constantValue := 0 }, { name := "negativeZeroFloatBits", type := .long, accessFlags := 26, slot := 5, constantValue := 0 }, { name := "negativeZeroDoubleBits", type := .long, accessFlags := 26, slot := 6, constantValue := 0 }, { name := "twoToTheDoubleScaleUp", type := .double, accessFlags := 8, slot := 7, constantValue := 0 }, { name := "twoToTheDoubleScaleDown", type := .double, accessFlags := 8, slot := 8, constantValue := 0 }, { name := "$assertionsDisabled", type := .boolean, accessFlags := 4120, slot := 9, constantValue := 0 }]
  methods := #[k11m0, k11m1, k11m2]
  instanceTypes := #[]
  staticTypes := #[.double, .double, .double, .double, .double, .long, .long, .double, .double, .boolean]
  resolved := Array.replicate 460 none
  statics := none }

def pool12 : Array CpInfo := pool [(1, .fieldref 2 3), (0, .class_ 4), (0, .nameAndType 5 6), (0, u "java/util/Optional"), (0, u "EMPTY"), (0, u "Ljava/util/Optional;"), (0, .methodref 8 9), (0, .class_ 10), (0, .nameAndType 11 12), (0, u "java/lang/Object"), (0, u "<init>"), (0, u "()V"), (0, .fieldref 2 14), (0, .nameAndType 15 16), (0, u "value"), (0, u "Ljava/lang/Object;"), (0, .methodref 18 19), (0, .class_ 20), (0, .nameAndType 21 22), (0, u "java/util/Objects"), (0, u "requireNonNull"), (0, u "(Ljava/lang/Object;)Ljava/lang/Object;"), (0, .methodref 2 24), (0, .nameAndType 11 25), (0, u "(Ljava/lang/Object;)V"), (20, u "()Z"), (8, u "empty"), (0, u "()Ljava/util/Optional;"), (8, u "(Ljava/lang/Object;)Ljava/util/Optional;"), (2, u "isPresent"), (4, u "get"), (0, u "()Ljava/lang/Object;"), (7, u "of")] 104

def k12c0 : Code := { maxStack := 1, maxLocals := 1, code := jdk_32_method_1_code, exceptionTable := #[], attributes := #[] }
def k12m0 : Method := { name := "empty", desc := "()Ljava/util/Optional;", sig := { parameters := [], returnType := some (.object "java/util/Optional") }, accessFlags := 9, code := some k12c0 }
def k12c1 : Code := { maxStack := 2, maxLocals := 2, code := jdk_32_method_2_code, exceptionTable := #[], attributes := #[] }
def k12m1 : Method := { name := "<init>", desc := "(Ljava/lang/Object;)V", sig := { parameters := [(.object "java/lang/Object")], returnType := none }, accessFlags := 2, code := some k12c1 }
def k12c2 : Code := { maxStack := 3, maxLocals := 1, code := jdk_32_method_3_code, exceptionTable := #[], attributes := #[] }
def k12m2 : Method := { name := "of", desc := "(Ljava/lang/Object;)Ljava/util/Optional;", sig := { parameters := [(.object "java/lang/Object")], returnType := some (.object "java/util/Optional") }, accessFlags := 9, code := some k12c2 }
def k12c3 : Code := { maxStack := 3, maxLocals := 1, code := jdk_32_method_5_code, exceptionTable := #[], attributes := #[] }
def k12m3 : Method := { name := "get", desc := "()Ljava/lang/Object;", sig := { parameters := [], returnType := some (.object "java/lang/Object") }, accessFlags := 1, code := some k12c3 }
def k12c4 : Code := { maxStack := 1, maxLocals := 1, code := jdk_32_method_6_code, exceptionTable := #[], attributes := #[] }
def k12m4 : Method := { name := "isPresent", desc := "()Z", sig := { parameters := [], returnType := some .boolean }, accessFlags := 1, code := some k12c4 }
/-- java/util/Optional -/
def k12 : Class := { plain "java/util/Optional" (some 0) with
  accessFlags := 49
  interfaces := #[]
  cf := some (fileOf pool12 2 #[] #[{ accessFlags := 9, nameIndex := 55, descriptorIndex := 56, attributes := #[] }, { accessFlags := 2, nameIndex := 11, descriptorIndex := 25, attributes := #[] }, { accessFlags := 9, nameIndex := 82, descriptorIndex := 65, attributes := #[] }, { accessFlags := 1, nameIndex := 73, descriptorIndex := 74, attributes := #[] }, { accessFlags := 1, nameIndex := 68, descriptorIndex := 46, attributes := #[] }] 49 8 #[] #[{ accessFlags := 26, nameIndex := 5, descriptorIndex := 6, attributes := #[] }, { accessFlags := 18, nameIndex := 15, descriptorIndex := 16, attributes := #[] }])
  fields := #[{ name := "EMPTY", type := (.object "java/util/Optional"), accessFlags := 26, slot := 0, constantValue := 0 }, { name := "value", type := (.object "java/lang/Object"), accessFlags := 18, slot := 0, constantValue := 0 }]
  methods := #[k12m0, k12m1, k12m2, k12m3, k12m4]
  instanceTypes := #[(.object "java/lang/Object")]
  staticTypes := #[(.object "java/util/Optional")]
  resolved := Array.replicate 187 none
  statics := some 1 }

def pool13 : Array CpInfo := pool [(2, .class_ 4), (1, u "java/lang/Object"), (0, u "<init>"), (0, u "()V"), (17, .class_ 26), (1, u "jdk/internal/util/Preconditions"), (20, u "checkFromToIndex"), (7, .class_ 56), (0, u "jdk/internal/util/Preconditions$4"), (57, .class_ 115), (0, u "jdk/internal/util/Preconditions$1"), (7, u "SIOOBE_FORMATTER"), (0, u "Ljava/util/function/BiFunction;"), (0, .class_ 126), (0, u "jdk/internal/util/Preconditions$2"), (3, u "AIOOBE_FORMATTER"), (0, .class_ 132), (0, u "jdk/internal/util/Preconditions$3"), (3, u "IOOBE_FORMATTER"), (46, u "(IIILjava/util/function/BiFunction;)I")] 10

def k13m0 : Method := { name := "<init>", desc := "()V", sig := { parameters := [], returnType := none }, accessFlags := 1, code := none }
def k13c1 : Code := { maxStack := 4, maxLocals := 4, code := jdk_41_method_12_code, exceptionTable := #[], attributes := #[] }
def k13m1 : Method := { name := "checkFromToIndex", desc := "(IIILjava/util/function/BiFunction;)I", sig := { parameters := [.int, .int, .int, (.object "java/util/function/BiFunction")], returnType := some .int }, accessFlags := 9, code := some k13c1 }
/-- jdk/internal/util/Preconditions -/
def k13 : Class := { plain "jdk/internal/util/Preconditions" (some 0) with
  accessFlags := 33
  interfaces := #[]
  cf := some (fileOf pool13 24 #[.nestMembers #[55, 131, 125, 114]] #[{ accessFlags := 1, nameIndex := 5, descriptorIndex := 6, attributes := #[] }, { accessFlags := 9, nameIndex := 47, descriptorIndex := 183, attributes := #[] }] 33 2 #[] #[{ accessFlags := 25, nameIndex := 123, descriptorIndex := 124, attributes := #[] }, { accessFlags := 25, nameIndex := 130, descriptorIndex := 124, attributes := #[] }, { accessFlags := 25, nameIndex := 136, descriptorIndex := 124, attributes := #[] }])
  fields := #[{ name := "SIOOBE_FORMATTER", type := (.object "java/util/function/BiFunction"), accessFlags := 25, slot := 0, constantValue := 0 }, { name := "AIOOBE_FORMATTER", type := (.object "java/util/function/BiFunction"), accessFlags := 25, slot := 1, constantValue := 0 }, { name := "IOOBE_FORMATTER", type := (.object "java/util/function/BiFunction"), accessFlags := 25, slot := 2, constantValue := 0 }]
  methods := #[k13m0, k13m1]
  instanceTypes := #[]
  staticTypes := #[(.object "java/util/function/BiFunction"), (.object "java/util/function/BiFunction"), (.object "java/util/function/BiFunction")]
  resolved := Array.replicate 194 none
  statics := some 2 }

def pool14 : Array CpInfo := pool [(2, .class_ 4), (1, u "java/lang/Object"), (0, u "<init>"), (0, u "()V"), (35, .class_ 44), (1, u "java/util/Objects"), (0, u "requireNonNull"), (0, u "(Ljava/lang/Object;)Ljava/lang/Object;")] 137

def k14m0 : Method := { name := "<init>", desc := "()V", sig := { parameters := [], returnType := none }, accessFlags := 2, code := none }
def k14c1 : Code := { maxStack := 2, maxLocals := 1, code := jdk_31_method_10_code, exceptionTable := #[], attributes := #[] }
def k14m1 : Method := { name := "requireNonNull", desc := "(Ljava/lang/Object;)Ljava/lang/Object;", sig := { parameters := [(.object "java/lang/Object")], returnType := some (.object "java/lang/Object") }, accessFlags := 9, code := some k14c1 }
/-- java/util/Objects -/
def k14 : Class := { plain "java/util/Objects" (some 0) with
  accessFlags := 49
  interfaces := #[]
  cf := some (fileOf pool14 42 #[] #[{ accessFlags := 2, nameIndex := 5, descriptorIndex := 6, attributes := #[] }, { accessFlags := 9, nameIndex := 45, descriptorIndex := 46, attributes := #[] }] 49 2 #[] #[])
  fields := #[]
  methods := #[k14m0, k14m1]
  instanceTypes := #[]
  staticTypes := #[]
  resolved := Array.replicate 184 none
  statics := none }

def pool15 : Array CpInfo := pool [(2, .class_ 4), (1, u "java/lang/Object"), (0, u "<init>"), (0, u "()V"), (7, .class_ 16), (1, u "java/util/Arrays"), (57, .class_ 76), (1, u "java/util/Arrays$NaturalOrder"), (36, .class_ 115), (1, u "java/util/Arrays$LegacyMergeSort"), (1, u "Z"), (21, u "copyOfRange"), (10, .methodref 151 152), (0, .class_ 153), (0, .nameAndType 154 155), (0, u "java/lang/System"), (0, u "arraycopy"), (0, u "(Ljava/lang/Object;ILjava/lang/Object;II)V"), (148, .methodref 305 306), (0, .class_ 307), (0, .nameAndType 308 309), (0, u "java/lang/Math"), (0, u "min"), (0, u "(II)I"), (29, .methodref 14 340), (0, .nameAndType 341 342), (0, u "copyOfRangeByte"), (0, u "([BII)[B"), (0, .methodref 14 344), (0, .nameAndType 345 346), (0, u "checkLength"), (0, u "(II)V"), (28, .class_ 376), (0, u "java/util/Arrays$ArrayList"), (68, u "$assertionsDisabled"), (269, u "MIN_ARRAY_SORT_GRAN"), (0, u "I"), (2, u "INSERTIONSORT_THRESHOLD"), (255, .class_ 976), (0, u "java/util/Arrays$ArrayItr")] 52

def k15m0 : Method := { name := "<init>", desc := "()V", sig := { parameters := [], returnType := none }, accessFlags := 2, code := none }
def k15c1 : Code := { maxStack := 4, maxLocals := 2, code := jdk_65_method_131_code, exceptionTable := #[], attributes := #[] }
def k15m1 : Method := { name := "checkLength", desc := "(II)V", sig := { parameters := [.int, .int], returnType := none }, accessFlags := 10, code := some k15c1 }
def k15c2 : Code := { maxStack := 3, maxLocals := 3, code := jdk_65_method_132_code, exceptionTable := #[], attributes := #[] }
def k15m2 : Method := { name := "copyOfRange", desc := "([BII)[B", sig := { parameters := [(.array .byte), .int, .int], returnType := some (.array .byte) }, accessFlags := 9, code := some k15c2 }
def k15c3 : Code := { maxStack := 6, maxLocals := 5, code := jdk_65_method_133_code, exceptionTable := #[], attributes := #[] }
def k15m3 : Method := { name := "copyOfRangeByte", desc := "([BII)[B", sig := { parameters := [(.array .byte), .int, .int], returnType := some (.array .byte) }, accessFlags := 10, code := some k15c3 }
/-- java/util/Arrays -/
def k15 : Class := { plain "java/util/Arrays" (some 0) with
  accessFlags := 49
  interfaces := #[]
  cf := some (fileOf pool15 14 #[.nestMembers #[975, 375, 113, 74]] #[{ accessFlags := 2, nameIndex := 5, descriptorIndex := 6, attributes := #[] }, { accessFlags := 10, nameIndex := 345, descriptorIndex := 346, attributes := #[] }, { accessFlags := 9, nameIndex := 139, descriptorIndex := 342, attributes := #[] }, { accessFlags := 10, nameIndex := 341, descriptorIndex := 342, attributes := #[] }] 49 2 #[] #[{ accessFlags := 26, nameIndex := 715, descriptorIndex := 716, attributes := #[] }, { accessFlags := 26, nameIndex := 719, descriptorIndex := 716, attributes := #[] }, { accessFlags := 4120, nameIndex := 445, descriptorIndex := 117, attributes := #[] }])
  fields := #[{ name := "MIN_ARRAY_SORT_GRAN", type := .int, accessFlags := 26, slot := 0, constantValue := 0 }, { name := "INSERTIONSORT_THRESHOLD", type := .int, accessFlags := 26, slot := 1, constantValue := 0 }, { name := "$assertionsDisabled", type := .boolean, accessFlags := 4120, slot := 2, constantValue := 0 }]
  methods := #[k15m0, k15m1, k15m2, k15m3]
  instanceTypes := #[]
  staticTypes := #[.int, .int, .boolean]
  resolved := Array.replicate 1029 none
  statics := none }

def pool16 : Array CpInfo := pool [(2, .class_ 4), (1, u "java/lang/Object"), (0, u "<init>"), (0, u "()V"), (1, .class_ 10), (1, u "java/lang/System"), (0, u "allowSecurityManager"), (0, u "I"), (16, u "cons"), (0, u "Ljava/io/Console;"), (77, .class_ 110), (1, u "java/lang/System$CallersHolder"), (43, u "initialErrStream"), (0, u "Ljava/io/PrintStream;"), (19, u "security"), (0, u "Ljava/lang/SecurityManager;"), (31, .class_ 209), (0, u "java/lang/System$1"), (7, u "props"), (0, u "Ljava/util/Properties;"), (2, u "lineSeparator"), (0, u "Ljava/lang/String;"), (96, .class_ 321), (1, u "java/lang/System$LoggerFinder"), (5, .class_ 328), (0, u "java/lang/System$Logger"), (67, u "err"), (2, u "out"), (91, u "notSupportedJnuEncoding"), (15, u "in"), (17, u "initialIn"), (0, u "Ljava/io/InputStream;"), (35, u "bootLayer"), (0, u "Ljava/lang/ModuleLayer;"), (99, .class_ 664), (0, u "java/lang/System$2"), (9, u "NEVER"), (2, u "MAYBE"), (49, u "arraycopy"), (0, u "(Ljava/lang/Object;ILjava/lang/Object;II)V"), (72, .class_ 802), (0, u "java/lang/System$Logger$Level")] 31

def k16m0 : Method := { name := "<init>", desc := "()V", sig := { parameters := [], returnType := none }, accessFlags := 2, code := none }
def k16m1 : Method := { name := "arraycopy", desc := "(Ljava/lang/Object;ILjava/lang/Object;II)V", sig := { parameters := [(.object "java/lang/Object"), .int, (.object "java/lang/Object"), .int, .int], returnType := none }, accessFlags := 265, code := none }
/-- java/lang/System -/
def k16 : Class := { plain "java/lang/System" (some 0) with
  accessFlags := 49
  interfaces := #[]
  cf := some (fileOf pool16 8 #[.nestMembers #[319, 327, 801, 108, 663, 208]] #[{ accessFlags := 2, nameIndex := 5, descriptorIndex := 6, attributes := #[] }, { accessFlags := 265, nameIndex := 727, descriptorIndex := 728, attributes := #[] }] 49 2 #[] #[{ accessFlags := 25, nameIndex := 507, descriptorIndex := 526, attributes := #[] }, { accessFlags := 25, nameIndex := 399, descriptorIndex := 155, attributes := #[] }, { accessFlags := 25, nameIndex := 396, descriptorIndex := 155, attributes := #[] }, { accessFlags := 10, nameIndex := 525, descriptorIndex := 526, attributes := #[] }, { accessFlags := 26, nameIndex := 674, descriptorIndex := 12, attributes := #[] }, { accessFlags := 26, nameIndex := 677, descriptorIndex := 12, attributes := #[] }, { accessFlags := 10, nameIndex := 11, descriptorIndex := 12, attributes := #[] }, { accessFlags := 74, nameIndex := 175, descriptorIndex := 176, attributes := #[] }, { accessFlags := 10, nameIndex := 491, descriptorIndex := 222, attributes := #[] }, { accessFlags := 74, nameIndex := 29, descriptorIndex := 30, attributes := #[] }, { accessFlags := 74, nameIndex := 154, descriptorIndex := 155, attributes := #[] }, { accessFlags := 10, nameIndex := 217, descriptorIndex := 218, attributes := #[] }, { accessFlags := 10, nameIndex := 221, descriptorIndex := 222, attributes := #[] }, { accessFlags := 8, nameIndex := 562, descriptorIndex := 563, attributes := #[] }])
  fields := #[{ name := "in", type := (.object "java/io/InputStream"), accessFlags := 25, slot := 0, constantValue := 0 }, { name := "out", type := (.object "java/io/PrintStream"), accessFlags := 25, slot := 1, constantValue := 0 }, { name := "err", type := (.object "java/io/PrintStream"), accessFlags := 25, slot := 2, constantValue := 0 }, { name := "initialIn", type := (.object "java/io/InputStream"), accessFlags := 10, slot := 3, constantValue := 0 }, { name := "NEVER", type := .int, accessFlags := 26, slot := 4, constantValue := 0 }, { name := "MAYBE", type := .int, accessFlags := 26, slot := 5, constantValue := 0 }, { name := "allowSecurityManager", type := .int, accessFlags := 10, slot := 6, constantValue := 0 }, { name := "security", type := (.object "java/lang/SecurityManager"), accessFlags := 74, slot := 7, constantValue := 0 }, { name := "notSupportedJnuEncoding", type := (.object "java/lang/String"), accessFlags := 10, slot := 8, constantValue := 0 }, { name := "cons", type := (.object "java/io/Console"), accessFlags := 74, slot := 9, constantValue := 0 }, { name := "initialErrStream", type := (.object "java/io/PrintStream"), accessFlags := 74, slot := 10, constantValue := 0 }, { name := "props", type := (.object "java/util/Properties"), accessFlags := 10, slot := 11, constantValue := 0 }, { name := "lineSeparator", type := (.object "java/lang/String"), accessFlags := 10, slot := 12, constantValue := 0 }, { name := "bootLayer", type := (.object "java/lang/ModuleLayer"), accessFlags := 8, slot := 13, constantValue := 0 }]
  methods := #[k16m0, k16m1]
  instanceTypes := #[]
  staticTypes := #[(.object "java/io/InputStream"), (.object "java/io/PrintStream"), (.object "java/io/PrintStream"), (.object "java/io/InputStream"), .int, .int, .int, (.object "java/lang/SecurityManager"), (.object "java/lang/String"), (.object "java/io/Console"), (.object "java/io/PrintStream"), (.object "java/util/Properties"), (.object "java/lang/String"), (.object "java/lang/ModuleLayer")]
  resolved := Array.replicate 834 none
  statics := none }

def pool17 : Array CpInfo := pool [(9, u "<init>"), (6, .class_ 18), (1, u "java/lang/Object"), (0, u "()V"), (1, .class_ 23), (1, u "jdk/internal/util/ArraysSupport"), (0, u "LOG2_ARRAY_LONG_INDEX_SCALE"), (0, u "I"), (2, u "U"), (0, u "Ljdk/internal/misc/Unsafe;"), (8, u "BIG_ENDIAN"), (0, u "Z"), (8, u "LOG2_BYTE_BIT_SIZE"), (4, u "LOG2_ARRAY_INT_INDEX_SCALE"), (54, u "JLA"), (0, u "Ljdk/internal/access/JavaLangAccess;"), (11, u "LOG2_ARRAY_BOOLEAN_INDEX_SCALE"), (9, u "LOG2_ARRAY_BYTE_INDEX_SCALE"), (5, u "LOG2_ARRAY_CHAR_INDEX_SCALE"), (5, u "LOG2_ARRAY_SHORT_INDEX_SCALE"), (18, u "LOG2_ARRAY_FLOAT_INDEX_SCALE"), (24, u "LOG2_ARRAY_DOUBLE_INDEX_SCALE"), (89, u "T_BOOLEAN"), (2, u "T_CHAR"), (1, u "T_FLOAT"), (1, u "T_DOUBLE"), (1, u "T_BYTE"), (1, u "T_SHORT"), (1, u "T_INT"), (1, u "T_LONG"), (1, u "SOFT_MAX_ARRAY_LENGTH")] 83

def k17m0 : Method := { name := "<init>", desc := "()V", sig := { parameters := [], returnType := none }, accessFlags := 2, code := none }
/-- jdk/internal/util/ArraysSupport -/
def k17 : Class := { plain "jdk/internal/util/ArraysSupport" (some 0) with
  accessFlags := 33
  interfaces := #[]
  cf := some (fileOf pool17 21 #[] #[{ accessFlags := 2, nameIndex := 9, descriptorIndex := 19, attributes := #[] }] 33 16 #[] #[{ accessFlags := 24, nameIndex := 28, descriptorIndex := 29, attributes := #[] }, { accessFlags := 26, nameIndex := 38, descriptorIndex := 39, attributes := #[] }, { accessFlags := 25, nameIndex := 121, descriptorIndex := 25, attributes := #[] }, { accessFlags := 25, nameIndex := 131, descriptorIndex := 25, attributes := #[] }, { accessFlags := 25, nameIndex := 137, descriptorIndex := 25, attributes := #[] }, { accessFlags := 25, nameIndex := 143, descriptorIndex := 25, attributes := #[] }, { accessFlags := 25, nameIndex := 53, descriptorIndex := 25, attributes := #[] }, { accessFlags := 25, nameIndex := 24, descriptorIndex := 25, attributes := #[] }, { accessFlags := 25, nameIndex := 162, descriptorIndex := 25, attributes := #[] }, { accessFlags := 25, nameIndex := 187, descriptorIndex := 25, attributes := #[] }, { accessFlags := 26, nameIndex := 48, descriptorIndex := 25, attributes := #[] }, { accessFlags := 25, nameIndex := 277, descriptorIndex := 25, attributes := #[] }, { accessFlags := 25, nameIndex := 280, descriptorIndex := 25, attributes := #[] }, { accessFlags := 25, nameIndex := 282, descriptorIndex := 25, attributes := #[] }, { accessFlags := 25, nameIndex := 284, descriptorIndex := 25, attributes := #[] }, { accessFlags := 25, nameIndex := 286, descriptorIndex := 25, attributes := #[] }, { accessFlags := 25, nameIndex := 288, descriptorIndex := 25, attributes := #[] }, { accessFlags := 25, nameIndex := 290, descriptorIndex := 25, attributes := #[] }, { accessFlags := 25, nameIndex := 292, descriptorIndex := 25, attributes := #[] }, { accessFlags := 26, nameIndex := 108, descriptorIndex := 109, attributes := #[] }, { accessFlags := 25, nameIndex := 294, descriptorIndex := 25, attributes := #[] }])
  fields := #[{ name := "U", type := (.object "jdk/internal/misc/Unsafe"), accessFlags := 24, slot := 0, constantValue := 0 }, { name := "BIG_ENDIAN", type := .boolean, accessFlags := 26, slot := 1, constantValue := 0 }, { name := "LOG2_ARRAY_BOOLEAN_INDEX_SCALE", type := .int, accessFlags := 25, slot := 2, constantValue := 0 }, { name := "LOG2_ARRAY_BYTE_INDEX_SCALE", type := .int, accessFlags := 25, slot := 3, constantValue := 0 }, { name := "LOG2_ARRAY_CHAR_INDEX_SCALE", type := .int, accessFlags := 25, slot := 4, constantValue := 0 }, { name := "LOG2_ARRAY_SHORT_INDEX_SCALE", type := .int, accessFlags := 25, slot := 5, constantValue := 0 }, { name := "LOG2_ARRAY_INT_INDEX_SCALE", type := .int, accessFlags := 25, slot := 6, constantValue := 0 }, { name := "LOG2_ARRAY_LONG_INDEX_SCALE", type := .int, accessFlags := 25, slot := 7, constantValue := 0 }, { name := "LOG2_ARRAY_FLOAT_INDEX_SCALE", type := .int, accessFlags := 25, slot := 8, constantValue := 0 }, { name := "LOG2_ARRAY_DOUBLE_INDEX_SCALE", type := .int, accessFlags := 25, slot := 9, constantValue := 0 }, { name := "LOG2_BYTE_BIT_SIZE", type := .int, accessFlags := 26, slot := 10, constantValue := 0 }, { name := "T_BOOLEAN", type := .int, accessFlags := 25, slot := 11, constantValue := 0 }, { name := "T_CHAR", type := .int, accessFlags := 25, slot := 12, constantValue := 0 }, { name := "T_FLOAT", type := .int, accessFlags := 25, slot := 13, constantValue := 0 }, { name := "T_DOUBLE", type := .int, accessFlags := 25, slot := 14, constantValue := 0 }, { name := "T_BYTE", type := .int, accessFlags := 25, slot := 15, constantValue := 0 }, { name := "T_SHORT", type := .int, accessFlags := 25, slot := 16, constantValue := 0 }, { name := "T_INT", type := .int, accessFlags := 25, slot := 17, constantValue := 0 }, { name := "T_LONG", type := .int, accessFlags := 25, slot := 18, constantValue := 0 }, { name := "JLA", type := (.object "jdk/internal/access/JavaLangAccess"), accessFlags := 26, slot := 19, constantValue := 0 }, { name := "SOFT_MAX_ARRAY_LENGTH", type := .int, accessFlags := 25, slot := 20, constantValue := 0 }]
  methods := #[k17m0]
  instanceTypes := #[]
  staticTypes := #[(.object "jdk/internal/misc/Unsafe"), .boolean, .int, .int, .int, .int, .int, .int, .int, .int, .int, .int, .int, .int, .int, .int, .int, .int, .int, (.object "jdk/internal/access/JavaLangAccess"), .int]
  resolved := Array.replicate 378 none
  statics := none }

def pool18 : Array CpInfo := pool [(1, u "java/lang/Cloneable"), (0, .class_ 1), (0, u "java/lang/Object"), (0, .class_ 3)] 3

/-- java/lang/Cloneable -/
def k18 : Class := { plain "java/lang/Cloneable" (some 0) with
  accessFlags := 1537
  interfaces := #[]
  cf := some (fileOf pool18 2 #[] #[] 1537 4 #[] #[])
  fields := #[]
  methods := #[]
  instanceTypes := #[]
  staticTypes := #[]
  resolved := Array.replicate 8 none
  statics := none }

/-- the primitive byte -/
def k19 : Class := { plain "byte" none with kind := .primitive 'B', accessFlags := 0x411 }
/-- [B -/
def k20 : Class := { plain "[B" (some 0) with kind := .array 19 .byte, interfaces := #[18, 2], accessFlags := 1041 }

/-- the primitive char -/
def k21 : Class := { plain "char" none with kind := .primitive 'C', accessFlags := 0x411 }
/-- [C -/
def k22 : Class := { plain "[C" (some 0) with kind := .array 21 .char, interfaces := #[18, 2], accessFlags := 1041 }

/-- the primitive int -/
def k23 : Class := { plain "int" none with kind := .primitive 'I', accessFlags := 0x411 }
/-- [I -/
def k24 : Class := { plain "[I" (some 0) with kind := .array 23 .int, interfaces := #[18, 2], accessFlags := 1041 }

def heap : Heap := #[{ cls := 7, slots := #[.long 0, .int 1, .null, .int 0, .null, .int 0, .int 0], vm := .statics 7 },
  { cls := 12, slots := #[.ref 3], vm := .statics 12 },
  { cls := 13, slots := #[.null, .null, .null], vm := .statics 13 },
  { cls := 12, slots := #[.null], vm := .none }]
def classes : Array Class := #[k0, k1, k2, k3, k4, k5, k6, k7, k8, k9, k10, k11, k12, k13, k14, k15, k16, k17, k18, k19, k20, k21, k22, k23, k24]
def interned : List (Array UInt16 × Addr) := []
def slotsUsed : Nat := 12
def theMethod : MethodId := ⟨1, 2⟩
def args0 : Array Value := #[.int 0, .int 0, .int 0, .int 0]
def aboutOver (below : List Frame) : State where
  vm := { classes := classes, interned := interned.toArray }
  heap := heap
  slotsUsed := slotsUsed
  threads := #[{ frames := .invoking theMethod args0 :: below }]
def below0 : List Frame := [.native { method := ⟨0, 0⟩, args := #[] }]
def about1 : State := aboutOver below0
def p0 : Program := .bare "" "" ""
def e0 : Env := launch0.env 0 0 0
theorem w_frames : about1.frames = Frame.invoking theMethod args0 :: below0 := rfl
set_option maxRecDepth 65536 in
theorem w_args : argsFit about1.vm theMethod args0 = true := by decide +kernel
set_option maxRecDepth 65536 in
theorem w_heap : heapFits about1 = true := by decide +kernel
set_option maxRecDepth 65536 in
theorem w_runnable : about1.curStatus? = some .runnable := by decide +kernel
set_option maxRecDepth 65536 in
theorem w_alone : about1.alone = true := by decide +kernel
set_option maxRecDepth 65536 in
theorem w_named : about1.methodNamed? x = some theMethod := by decide +kernel
set_option maxRecDepth 65536 in
theorem w_hears : about1.hears theMethod below0 = true := by decide +kernel
set_option maxRecDepth 65536 in
theorem w_ripe : about1.ripe theMethod args0 below0 = true := by decide +kernel
theorem w_running : about1.status = .running := rfl
set_option maxRecDepth 65536 in
theorem w_room : about1.hasRoom e0.platform room_1 = true :=
  launch0.hasRoom_least _ room_1 (by decide +kernel) (by decide +kernel) (by decide +kernel) (by decide +kernel) (by decide +kernel) (by decide +kernel)
theorem allAtoms_all (ts : List Jvm.Cond) (a : Array Jvm.Value) (st : Jvm.State) : (allAtoms ts).before a st = ts.all (fun c => c.before a st) := by
  induction ts with
  | nil => rfl
  | cons c t ih =>
    show (Jvm.Cond.and c (allAtoms t)).before a st = _
    rw [Jvm.Cond.before_and, ih, List.all_cons]
def words1 : List Jvm.Cond := Jvm.Cond.code x code maxLocals ret :: tables_1
/-- a 'code' word, met by the world's own term for the bytes: nothing is compared byte by byte -/
theorem code_word {y : MethodName} {bytes : ByteArray} {mx : Nat} {rt : Option FieldType} {a : Array Value} {s : State} {m : MethodId} {meth : Method} {c : Code} (h1 : s.methodNamed? y = some m) (h2 : s.vm.method? m = some meth) (h3 : meth.code = some c) (h4 : c.code = bytes)
    (h5 : (c.maxLocals == mx && c.exceptionTable.isEmpty && decide (c.maxStack ≤ mostOperands) && decide (meth.sig.returnType = rt) && !meth.locks && decide (parseMethodDescriptor y.desc = some meth.sig)) = true) : (Jvm.Cond.code y bytes mx rt).before a s = true := by
  simp only [Bool.and_eq_true, beq_iff_eq, Bool.not_eq_true', decide_eq_true_eq] at h5
  obtain ⟨⟨⟨⟨⟨g1, g2⟩, g3⟩, g4⟩, g5⟩, g6⟩ := h5
  simp [Cond.before, Cond.holds, Cond.value, h1, h2, h3, h4, g1, g2, g3, g4, g5, g6]
def isCode : Jvm.Cond → Bool
  | .code _ _ _ _ => true
  | _ => false
theorem all_split {L : List Jvm.Cond} {P : Jvm.Cond → Bool} (h1 : L.all (fun c => isCode c || P c) = true) (h2 : ∀ c ∈ L.filter isCode, P c = true) : L.all P = true := by
  refine List.all_eq_true.mpr fun c hc => ?_
  have h := List.all_eq_true.mp h1 c hc
  rcases Bool.eq_false_or_eq_true (isCode c) with hi | hi
  · exact h2 c (List.mem_filter.mpr ⟨hc, hi⟩)
  · simpa [hi] using h
set_option maxRecDepth 65536 in
theorem w_c0 : (Jvm.Cond.code x code maxLocals ret).before args0 about1 = true := code_word (m := ⟨1, 2⟩) (meth := k1m2) (c := k1c2) (by decide +kernel) rfl rfl rfl (by decide +kernel)
set_option maxRecDepth 65536 in
theorem w_c1 : (Jvm.Cond.code ({ cls := "com/example/commit_feed/commitfeed/config/SqlNamesSchemaPinLaw", name := "draw", desc := "(I)C" } : Jvm.MethodName) method_2_code (1 : Nat) (Option.some Jvm.ClassFile.FieldType.char)).before args0 about1 = true := code_word (m := ⟨1, 1⟩) (meth := k1m1) (c := k1c1) (by decide +kernel) rfl rfl rfl (by decide +kernel)
set_option maxRecDepth 65536 in
theorem w_c2 : (Jvm.Cond.code ({ cls := "java/lang/String", name := "<init>", desc := "([C)V" } : Jvm.MethodName) jdk_42_method_3_code (2 : Nat) (Option.none : Option Jvm.ClassFile.FieldType)).before args0 about1 = true := code_word (m := ⟨7, 1⟩) (meth := k7m1) (c := k7c1) (by decide +kernel) rfl rfl rfl (by decide +kernel)
set_option maxRecDepth 65536 in
theorem w_c3 : (Jvm.Cond.code ({ cls := "java/lang/String", name := "<init>", desc := "([CIILjava/lang/Void;)V" } : Jvm.MethodName) jdk_42_method_149_code (6 : Nat) (Option.none : Option Jvm.ClassFile.FieldType)).before args0 about1 = true := code_word (m := ⟨7, 8⟩) (meth := k7m8) (c := k7c8) (by decide +kernel) rfl rfl rfl (by decide +kernel)
set_option maxRecDepth 65536 in
theorem w_c4 : (Jvm.Cond.code ({ cls := "java/lang/Object", name := "<init>", desc := "()V" } : Jvm.MethodName) object_method_1_code (1 : Nat) (Option.none : Option Jvm.ClassFile.FieldType)).before args0 about1 = true := code_word (m := ⟨0, 0⟩) (meth := k0m0) (c := k0c0) (by decide +kernel) rfl rfl rfl (by decide +kernel)
set_option maxRecDepth 65536 in
theorem w_c5 : (Jvm.Cond.code ({ cls := "java/lang/StringUTF16", name := "compress", desc := "([CII)[B" } : Jvm.MethodName) jdk_52_method_16_code (6 : Nat) (Option.some (Jvm.ClassFile.FieldType.array Jvm.ClassFile.FieldType.byte))).before args0 about1 = true := code_word (m := ⟨8, 2⟩) (meth := k8m2) (c := k8c2) (by decide +kernel) rfl rfl rfl (by decide +kernel)
set_option maxRecDepth 65536 in
theorem w_c6 : (Jvm.Cond.code ({ cls := "java/lang/StringUTF16", name := "compress", desc := "([CI[BII)I" } : Jvm.MethodName) jdk_52_method_21_code (7 : Nat) (Option.some Jvm.ClassFile.FieldType.int)).before args0 about1 = true := code_word (m := ⟨8, 3⟩) (meth := k8m3) (c := k8c3) (by decide +kernel) rfl rfl rfl (by decide +kernel)
set_option maxRecDepth 65536 in
theorem w_c7 : (Jvm.Cond.code ({ cls := "java/lang/StringUTF16", name := "coderFromArrayLen", desc := "([BI)B" } : Jvm.MethodName) jdk_52_method_15_code (2 : Nat) (Option.some Jvm.ClassFile.FieldType.byte)).before args0 about1 = true := code_word (m := ⟨8, 1⟩) (meth := k8m1) (c := k8c1) (by decide +kernel) rfl rfl rfl (by decide +kernel)
set_option maxRecDepth 65536 in
theorem w_c8 : (Jvm.Cond.code ({ cls := "com/example/commit_feed/commitfeed/config/SqlNames", name := "schema", desc := "(Ljava/lang/String;)Ljava/util/Optional;" } : Jvm.MethodName) prog_9_method_3_code (2 : Nat) (Option.some (Jvm.ClassFile.FieldType.object "java/util/Optional"))).before args0 about1 = true := code_word (m := ⟨9, 1⟩) (meth := k9m1) (c := k9c1) (by decide +kernel) rfl rfl rfl (by decide +kernel)
set_option maxRecDepth 65536 in
theorem w_c9 : (Jvm.Cond.code ({ cls := "java/lang/String", name := "indexOf", desc := "(I)I" } : Jvm.MethodName) jdk_42_method_79_code (2 : Nat) (Option.some Jvm.ClassFile.FieldType.int)).before args0 about1 = true := code_word (m := ⟨7, 4⟩) (meth := k7m4) (c := k7c4) (by decide +kernel) rfl rfl rfl (by decide +kernel)
set_option maxRecDepth 65536 in
theorem w_c10 : (Jvm.Cond.code ({ cls := "java/lang/String", name := "indexOf", desc := "(II)I" } : Jvm.MethodName) jdk_42_method_80_code (3 : Nat) (Option.some Jvm.ClassFile.FieldType.int)).before args0 about1 = true := code_word (m := ⟨7, 5⟩) (meth := k7m5) (c := k7c5) (by decide +kernel) rfl rfl rfl (by decide +kernel)
set_option maxRecDepth 65536 in
theorem w_c11 : (Jvm.Cond.code ({ cls := "java/lang/String", name := "isLatin1", desc := "()Z" } : Jvm.MethodName) jdk_42_method_154_code (1 : Nat) (Option.some Jvm.ClassFile.FieldType.boolean)).before args0 about1 = true := code_word (m := ⟨7, 11⟩) (meth := k7m11) (c := k7c11) (by decide +kernel) rfl rfl rfl (by decide +kernel)
set_option maxRecDepth 65536 in
theorem w_c12 : (Jvm.Cond.code ({ cls := "java/lang/String", name := "length", desc := "()I" } : Jvm.MethodName) jdk_42_method_54_code (1 : Nat) (Option.some Jvm.ClassFile.FieldType.int)).before args0 about1 = true := code_word (m := ⟨7, 2⟩) (meth := k7m2) (c := k7c2) (by decide +kernel) rfl rfl rfl (by decide +kernel)
set_option maxRecDepth 65536 in
theorem w_c13 : (Jvm.Cond.code ({ cls := "java/lang/String", name := "coder", desc := "()B" } : Jvm.MethodName) jdk_42_method_152_code (1 : Nat) (Option.some Jvm.ClassFile.FieldType.byte)).before args0 about1 = true := code_word (m := ⟨7, 10⟩) (meth := k7m10) (c := k7c10) (by decide +kernel) rfl rfl rfl (by decide +kernel)
set_option maxRecDepth 65536 in
theorem w_c14 : (Jvm.Cond.code ({ cls := "java/lang/StringLatin1", name := "indexOf", desc := "([BIII)I" } : Jvm.MethodName) jdk_43_method_22_code (4 : Nat) (Option.some Jvm.ClassFile.FieldType.int)).before args0 about1 = true := code_word (m := ⟨10, 4⟩) (meth := k10m4) (c := k10c4) (by decide +kernel) rfl rfl rfl (by decide +kernel)
set_option maxRecDepth 65536 in
theorem w_c15 : (Jvm.Cond.code ({ cls := "java/lang/StringLatin1", name := "canEncode", desc := "(I)Z" } : Jvm.MethodName) jdk_43_method_4_code (1 : Nat) (Option.some Jvm.ClassFile.FieldType.boolean)).before args0 about1 = true := code_word (m := ⟨10, 2⟩) (meth := k10m2) (c := k10c2) (by decide +kernel) rfl rfl rfl (by decide +kernel)
set_option maxRecDepth 65536 in
theorem w_c16 : (Jvm.Cond.code ({ cls := "java/lang/Math", name := "max", desc := "(II)I" } : Jvm.MethodName) jdk_29_method_65_code (2 : Nat) (Option.some Jvm.ClassFile.FieldType.int)).before args0 about1 = true := code_word (m := ⟨11, 1⟩) (meth := k11m1) (c := k11c1) (by decide +kernel) rfl rfl rfl (by decide +kernel)
set_option maxRecDepth 65536 in
theorem w_c17 : (Jvm.Cond.code ({ cls := "java/lang/Math", name := "min", desc := "(II)I" } : Jvm.MethodName) jdk_29_method_69_code (2 : Nat) (Option.some Jvm.ClassFile.FieldType.int)).before args0 about1 = true := code_word (m := ⟨11, 2⟩) (meth := k11m2) (c := k11c2) (by decide +kernel) rfl rfl rfl (by decide +kernel)
set_option maxRecDepth 65536 in
theorem w_c18 : (Jvm.Cond.code ({ cls := "java/util/Optional", name := "empty", desc := "()Ljava/util/Optional;" } : Jvm.MethodName) jdk_32_method_1_code (1 : Nat) (Option.some (Jvm.ClassFile.FieldType.object "java/util/Optional"))).before args0 about1 = true := code_word (m := ⟨12, 0⟩) (meth := k12m0) (c := k12c0) (by decide +kernel) rfl rfl rfl (by decide +kernel)
set_option maxRecDepth 65536 in
theorem w_c19 : (Jvm.Cond.code ({ cls := "java/util/Optional", name := "isPresent", desc := "()Z" } : Jvm.MethodName) jdk_32_method_6_code (1 : Nat) (Option.some Jvm.ClassFile.FieldType.boolean)).before args0 about1 = true := code_word (m := ⟨12, 4⟩) (meth := k12m4) (c := k12c4) (by decide +kernel) rfl rfl rfl (by decide +kernel)
set_option maxRecDepth 65536 in
theorem w_c20 : (Jvm.Cond.code ({ cls := "java/lang/StringLatin1", name := "indexOfChar", desc := "([BIII)I" } : Jvm.MethodName) jdk_43_method_23_code (6 : Nat) (Option.some Jvm.ClassFile.FieldType.int)).before args0 about1 = true := code_word (m := ⟨10, 5⟩) (meth := k10m5) (c := k10c5) (by decide +kernel) rfl rfl rfl (by decide +kernel)
set_option maxRecDepth 65536 in
theorem w_c21 : (Jvm.Cond.code ({ cls := "java/lang/String", name := "substring", desc := "(II)Ljava/lang/String;" } : Jvm.MethodName) jdk_42_method_92_code (5 : Nat) (Option.some (Jvm.ClassFile.FieldType.object "java/lang/String"))).before args0 about1 = true := code_word (m := ⟨7, 6⟩) (meth := k7m6) (c := k7c6) (by decide +kernel) rfl rfl rfl (by decide +kernel)
set_option maxRecDepth 65536 in
theorem w_c22 : (Jvm.Cond.code ({ cls := "java/lang/String", name := "checkBoundsBeginEnd", desc := "(III)V" } : Jvm.MethodName) jdk_42_method_158_code (3 : Nat) (Option.none : Option Jvm.ClassFile.FieldType)).before args0 about1 = true := code_word (m := ⟨7, 12⟩) (meth := k7m12) (c := k7c12) (by decide +kernel) rfl rfl rfl (by decide +kernel)
set_option maxRecDepth 65536 in
theorem w_c23 : (Jvm.Cond.code ({ cls := "jdk/internal/util/Preconditions", name := "checkFromToIndex", desc := "(IIILjava/util/function/BiFunction;)I" } : Jvm.MethodName) jdk_41_method_12_code (4 : Nat) (Option.some Jvm.ClassFile.FieldType.int)).before args0 about1 = true := code_word (m := ⟨13, 1⟩) (meth := k13m1) (c := k13c1) (by decide +kernel) rfl rfl rfl (by decide +kernel)
set_option maxRecDepth 65536 in
theorem w_c24 : (Jvm.Cond.code ({ cls := "java/lang/StringLatin1", name := "newString", desc := "([BII)Ljava/lang/String;" } : Jvm.MethodName) jdk_43_method_47_code (3 : Nat) (Option.some (Jvm.ClassFile.FieldType.object "java/lang/String"))).before args0 about1 = true := code_word (m := ⟨10, 7⟩) (meth := k10m7) (c := k10c7) (by decide +kernel) rfl rfl rfl (by decide +kernel)
set_option maxRecDepth 65536 in
theorem w_c25 : (Jvm.Cond.code ({ cls := "java/util/Optional", name := "of", desc := "(Ljava/lang/Object;)Ljava/util/Optional;" } : Jvm.MethodName) jdk_32_method_3_code (1 : Nat) (Option.some (Jvm.ClassFile.FieldType.object "java/util/Optional"))).before args0 about1 = true := code_word (m := ⟨12, 2⟩) (meth := k12m2) (c := k12c2) (by decide +kernel) rfl rfl rfl (by decide +kernel)
set_option maxRecDepth 65536 in
theorem w_c26 : (Jvm.Cond.code ({ cls := "java/util/Objects", name := "requireNonNull", desc := "(Ljava/lang/Object;)Ljava/lang/Object;" } : Jvm.MethodName) jdk_31_method_10_code (1 : Nat) (Option.some (Jvm.ClassFile.FieldType.object "java/lang/Object"))).before args0 about1 = true := code_word (m := ⟨14, 1⟩) (meth := k14m1) (c := k14c1) (by decide +kernel) rfl rfl rfl (by decide +kernel)
set_option maxRecDepth 65536 in
theorem w_c27 : (Jvm.Cond.code ({ cls := "java/util/Optional", name := "<init>", desc := "(Ljava/lang/Object;)V" } : Jvm.MethodName) jdk_32_method_2_code (2 : Nat) (Option.none : Option Jvm.ClassFile.FieldType)).before args0 about1 = true := code_word (m := ⟨12, 1⟩) (meth := k12m1) (c := k12c1) (by decide +kernel) rfl rfl rfl (by decide +kernel)
set_option maxRecDepth 65536 in
theorem w_c28 : (Jvm.Cond.code ({ cls := "java/util/Optional", name := "get", desc := "()Ljava/lang/Object;" } : Jvm.MethodName) jdk_32_method_5_code (1 : Nat) (Option.some (Jvm.ClassFile.FieldType.object "java/lang/Object"))).before args0 about1 = true := code_word (m := ⟨12, 3⟩) (meth := k12m3) (c := k12c3) (by decide +kernel) rfl rfl rfl (by decide +kernel)
set_option maxRecDepth 65536 in
theorem w_c29 : (Jvm.Cond.code ({ cls := "java/lang/String", name := "equals", desc := "(Ljava/lang/Object;)Z" } : Jvm.MethodName) jdk_42_method_66_code (3 : Nat) (Option.some Jvm.ClassFile.FieldType.boolean)).before args0 about1 = true := code_word (m := ⟨7, 3⟩) (meth := k7m3) (c := k7c3) (by decide +kernel) rfl rfl rfl (by decide +kernel)
set_option maxRecDepth 65536 in
theorem w_c30 : (Jvm.Cond.code ({ cls := "java/lang/String", name := "valueOf", desc := "(C)Ljava/lang/String;" } : Jvm.MethodName) jdk_42_method_139_code (1 : Nat) (Option.some (Jvm.ClassFile.FieldType.object "java/lang/String"))).before args0 about1 = true := code_word (m := ⟨7, 7⟩) (meth := k7m7) (c := k7c7) (by decide +kernel) rfl rfl rfl (by decide +kernel)
set_option maxRecDepth 65536 in
theorem w_c31 : (Jvm.Cond.code ({ cls := "java/lang/StringLatin1", name := "canEncode", desc := "(C)Z" } : Jvm.MethodName) jdk_43_method_3_code (1 : Nat) (Option.some Jvm.ClassFile.FieldType.boolean)).before args0 about1 = true := code_word (m := ⟨10, 1⟩) (meth := k10m1) (c := k10c1) (by decide +kernel) rfl rfl rfl (by decide +kernel)
set_option maxRecDepth 65536 in
theorem w_c32 : (Jvm.Cond.code ({ cls := "java/lang/StringLatin1", name := "toBytes", desc := "(C)[B" } : Jvm.MethodName) jdk_43_method_46_code (1 : Nat) (Option.some (Jvm.ClassFile.FieldType.array Jvm.ClassFile.FieldType.byte))).before args0 about1 = true := code_word (m := ⟨10, 6⟩) (meth := k10m6) (c := k10c6) (by decide +kernel) rfl rfl rfl (by decide +kernel)
set_option maxRecDepth 65536 in
theorem w_c33 : (Jvm.Cond.code ({ cls := "java/lang/String", name := "<init>", desc := "([BB)V" } : Jvm.MethodName) jdk_42_method_151_code (3 : Nat) (Option.none : Option Jvm.ClassFile.FieldType)).before args0 about1 = true := code_word (m := ⟨7, 9⟩) (meth := k7m9) (c := k7c9) (by decide +kernel) rfl rfl rfl (by decide +kernel)
set_option maxRecDepth 65536 in
theorem w_c34 : (Jvm.Cond.code ({ cls := "java/util/Arrays", name := "copyOfRange", desc := "([BII)[B" } : Jvm.MethodName) jdk_65_method_132_code (3 : Nat) (Option.some (Jvm.ClassFile.FieldType.array Jvm.ClassFile.FieldType.byte))).before args0 about1 = true := code_word (m := ⟨15, 2⟩) (meth := k15m2) (c := k15c2) (by decide +kernel) rfl rfl rfl (by decide +kernel)
set_option maxRecDepth 65536 in
theorem w_c35 : (Jvm.Cond.code ({ cls := "java/util/Arrays", name := "copyOfRangeByte", desc := "([BII)[B" } : Jvm.MethodName) jdk_65_method_133_code (5 : Nat) (Option.some (Jvm.ClassFile.FieldType.array Jvm.ClassFile.FieldType.byte))).before args0 about1 = true := code_word (m := ⟨15, 3⟩) (meth := k15m3) (c := k15c3) (by decide +kernel) rfl rfl rfl (by decide +kernel)
set_option maxRecDepth 65536 in
theorem w_c36 : (Jvm.Cond.code ({ cls := "java/util/Arrays", name := "checkLength", desc := "(II)V" } : Jvm.MethodName) jdk_65_method_131_code (2 : Nat) (Option.none : Option Jvm.ClassFile.FieldType)).before args0 about1 = true := code_word (m := ⟨15, 1⟩) (meth := k15m1) (c := k15c1) (by decide +kernel) rfl rfl rfl (by decide +kernel)
set_option maxRecDepth 65536 in
theorem w_c37 : (Jvm.Cond.code ({ cls := "java/lang/StringLatin1", name := "equals", desc := "([B[B)Z" } : Jvm.MethodName) jdk_43_method_13_code (3 : Nat) (Option.some Jvm.ClassFile.FieldType.boolean)).before args0 about1 = true := code_word (m := ⟨10, 3⟩) (meth := k10m3) (c := k10c3) (by decide +kernel) rfl rfl rfl (by decide +kernel)
def codes1 : List Jvm.Cond := [Jvm.Cond.code x code maxLocals ret, Jvm.Cond.code ({ cls := "com/example/commit_feed/commitfeed/config/SqlNamesSchemaPinLaw", name := "draw", desc := "(I)C" } : Jvm.MethodName) method_2_code (1 : Nat) (Option.some Jvm.ClassFile.FieldType.char), Jvm.Cond.code ({ cls := "java/lang/String", name := "<init>", desc := "([C)V" } : Jvm.MethodName) jdk_42_method_3_code (2 : Nat) (Option.none : Option Jvm.ClassFile.FieldType), Jvm.Cond.code ({ cls := "java/lang/String", name := "<init>", desc := "([CIILjava/lang/Void;)V" } : Jvm.MethodName) jdk_42_method_149_code (6 : Nat) (Option.none : Option Jvm.ClassFile.FieldType), Jvm.Cond.code ({ cls := "java/lang/Object", name := "<init>", desc := "()V" } : Jvm.MethodName) object_method_1_code (1 : Nat) (Option.none : Option Jvm.ClassFile.FieldType), Jvm.Cond.code ({ cls := "java/lang/StringUTF16", name := "compress", desc := "([CII)[B" } : Jvm.MethodName) jdk_52_method_16_code (6 : Nat) (Option.some (Jvm.ClassFile.FieldType.array Jvm.ClassFile.FieldType.byte)), Jvm.Cond.code ({ cls := "java/lang/StringUTF16", name := "compress", desc := "([CI[BII)I" } : Jvm.MethodName) jdk_52_method_21_code (7 : Nat) (Option.some Jvm.ClassFile.FieldType.int), Jvm.Cond.code ({ cls := "java/lang/StringUTF16", name := "coderFromArrayLen", desc := "([BI)B" } : Jvm.MethodName) jdk_52_method_15_code (2 : Nat) (Option.some Jvm.ClassFile.FieldType.byte), Jvm.Cond.code ({ cls := "com/example/commit_feed/commitfeed/config/SqlNames", name := "schema", desc := "(Ljava/lang/String;)Ljava/util/Optional;" } : Jvm.MethodName) prog_9_method_3_code (2 : Nat) (Option.some (Jvm.ClassFile.FieldType.object "java/util/Optional")), Jvm.Cond.code ({ cls := "java/lang/String", name := "indexOf", desc := "(I)I" } : Jvm.MethodName) jdk_42_method_79_code (2 : Nat) (Option.some Jvm.ClassFile.FieldType.int), Jvm.Cond.code ({ cls := "java/lang/String", name := "indexOf", desc := "(II)I" } : Jvm.MethodName) jdk_42_method_80_code (3 : Nat) (Option.some Jvm.ClassFile.FieldType.int), Jvm.Cond.code ({ cls := "java/lang/String", name := "isLatin1", desc := "()Z" } : Jvm.MethodName) jdk_42_method_154_code (1 : Nat) (Option.some Jvm.ClassFile.FieldType.boolean), Jvm.Cond.code ({ cls := "java/lang/String", name := "length", desc := "()I" } : Jvm.MethodName) jdk_42_method_54_code (1 : Nat) (Option.some Jvm.ClassFile.FieldType.int), Jvm.Cond.code ({ cls := "java/lang/String", name := "coder", desc := "()B" } : Jvm.MethodName) jdk_42_method_152_code (1 : Nat) (Option.some Jvm.ClassFile.FieldType.byte), Jvm.Cond.code ({ cls := "java/lang/StringLatin1", name := "indexOf", desc := "([BIII)I" } : Jvm.MethodName) jdk_43_method_22_code (4 : Nat) (Option.some Jvm.ClassFile.FieldType.int), Jvm.Cond.code ({ cls := "java/lang/StringLatin1", name := "canEncode", desc := "(I)Z" } : Jvm.MethodName) jdk_43_method_4_code (1 : Nat) (Option.some Jvm.ClassFile.FieldType.boolean), Jvm.Cond.code ({ cls := "java/lang/Math", name := "max", desc := "(II)I" } : Jvm.MethodName) jdk_29_method_65_code (2 : Nat) (Option.some Jvm.ClassFile.FieldType.int), Jvm.Cond.code ({ cls := "java/lang/Math", name := "min", desc := "(II)I" } : Jvm.MethodName) jdk_29_method_69_code (2 : Nat) (Option.some Jvm.ClassFile.FieldType.int), Jvm.Cond.code ({ cls := "java/util/Optional", name := "empty", desc := "()Ljava/util/Optional;" } : Jvm.MethodName) jdk_32_method_1_code (1 : Nat) (Option.some (Jvm.ClassFile.FieldType.object "java/util/Optional")), Jvm.Cond.code ({ cls := "java/util/Optional", name := "isPresent", desc := "()Z" } : Jvm.MethodName) jdk_32_method_6_code (1 : Nat) (Option.some Jvm.ClassFile.FieldType.boolean), Jvm.Cond.code ({ cls := "java/lang/StringLatin1", name := "indexOfChar", desc := "([BIII)I" } : Jvm.MethodName) jdk_43_method_23_code (6 : Nat) (Option.some Jvm.ClassFile.FieldType.int), Jvm.Cond.code ({ cls := "java/lang/String", name := "substring", desc := "(II)Ljava/lang/String;" } : Jvm.MethodName) jdk_42_method_92_code (5 : Nat) (Option.some (Jvm.ClassFile.FieldType.object "java/lang/String")), Jvm.Cond.code ({ cls := "java/lang/String", name := "checkBoundsBeginEnd", desc := "(III)V" } : Jvm.MethodName) jdk_42_method_158_code (3 : Nat) (Option.none : Option Jvm.ClassFile.FieldType), Jvm.Cond.code ({ cls := "jdk/internal/util/Preconditions", name := "checkFromToIndex", desc := "(IIILjava/util/function/BiFunction;)I" } : Jvm.MethodName) jdk_41_method_12_code (4 : Nat) (Option.some Jvm.ClassFile.FieldType.int), Jvm.Cond.code ({ cls := "java/lang/StringLatin1", name := "newString", desc := "([BII)Ljava/lang/String;" } : Jvm.MethodName) jdk_43_method_47_code (3 : Nat) (Option.some (Jvm.ClassFile.FieldType.object "java/lang/String")), Jvm.Cond.code ({ cls := "java/util/Optional", name := "of", desc := "(Ljava/lang/Object;)Ljava/util/Optional;" } : Jvm.MethodName) jdk_32_method_3_code (1 : Nat) (Option.some (Jvm.ClassFile.FieldType.object "java/util/Optional")), Jvm.Cond.code ({ cls := "java/util/Objects", name := "requireNonNull", desc := "(Ljava/lang/Object;)Ljava/lang/Object;" } : Jvm.MethodName) jdk_31_method_10_code (1 : Nat) (Option.some (Jvm.ClassFile.FieldType.object "java/lang/Object")), Jvm.Cond.code ({ cls := "java/util/Optional", name := "<init>", desc := "(Ljava/lang/Object;)V" } : Jvm.MethodName) jdk_32_method_2_code (2 : Nat) (Option.none : Option Jvm.ClassFile.FieldType), Jvm.Cond.code ({ cls := "java/util/Optional", name := "get", desc := "()Ljava/lang/Object;" } : Jvm.MethodName) jdk_32_method_5_code (1 : Nat) (Option.some (Jvm.ClassFile.FieldType.object "java/lang/Object")), Jvm.Cond.code ({ cls := "java/lang/String", name := "equals", desc := "(Ljava/lang/Object;)Z" } : Jvm.MethodName) jdk_42_method_66_code (3 : Nat) (Option.some Jvm.ClassFile.FieldType.boolean), Jvm.Cond.code ({ cls := "java/lang/String", name := "valueOf", desc := "(C)Ljava/lang/String;" } : Jvm.MethodName) jdk_42_method_139_code (1 : Nat) (Option.some (Jvm.ClassFile.FieldType.object "java/lang/String")), Jvm.Cond.code ({ cls := "java/lang/StringLatin1", name := "canEncode", desc := "(C)Z" } : Jvm.MethodName) jdk_43_method_3_code (1 : Nat) (Option.some Jvm.ClassFile.FieldType.boolean), Jvm.Cond.code ({ cls := "java/lang/StringLatin1", name := "toBytes", desc := "(C)[B" } : Jvm.MethodName) jdk_43_method_46_code (1 : Nat) (Option.some (Jvm.ClassFile.FieldType.array Jvm.ClassFile.FieldType.byte)), Jvm.Cond.code ({ cls := "java/lang/String", name := "<init>", desc := "([BB)V" } : Jvm.MethodName) jdk_42_method_151_code (3 : Nat) (Option.none : Option Jvm.ClassFile.FieldType), Jvm.Cond.code ({ cls := "java/util/Arrays", name := "copyOfRange", desc := "([BII)[B" } : Jvm.MethodName) jdk_65_method_132_code (3 : Nat) (Option.some (Jvm.ClassFile.FieldType.array Jvm.ClassFile.FieldType.byte)), Jvm.Cond.code ({ cls := "java/util/Arrays", name := "copyOfRangeByte", desc := "([BII)[B" } : Jvm.MethodName) jdk_65_method_133_code (5 : Nat) (Option.some (Jvm.ClassFile.FieldType.array Jvm.ClassFile.FieldType.byte)), Jvm.Cond.code ({ cls := "java/util/Arrays", name := "checkLength", desc := "(II)V" } : Jvm.MethodName) jdk_65_method_131_code (2 : Nat) (Option.none : Option Jvm.ClassFile.FieldType), Jvm.Cond.code ({ cls := "java/lang/StringLatin1", name := "equals", desc := "([B[B)Z" } : Jvm.MethodName) jdk_43_method_13_code (3 : Nat) (Option.some Jvm.ClassFile.FieldType.boolean)]
set_option maxRecDepth 65536 in
theorem codes_eq : words1.filter isCode = codes1 := rfl
theorem w_codes : ∀ c ∈ words1.filter isCode, c.before args0 about1 = true := by
  rw [codes_eq]
  intro c hc
  simp only [codes1, List.mem_cons, List.not_mem_nil, or_false] at hc
  rcases hc with rfl | rfl | rfl | rfl | rfl | rfl | rfl | rfl | rfl | rfl | rfl | rfl | rfl | rfl | rfl | rfl | rfl | rfl | rfl | rfl | rfl | rfl | rfl | rfl | rfl | rfl | rfl | rfl | rfl | rfl | rfl | rfl | rfl | rfl | rfl | rfl | rfl | rfl
  · exact w_c0
  · exact w_c1
  · exact w_c2
  · exact w_c3
  · exact w_c4
  · exact w_c5
  · exact w_c6
  · exact w_c7
  · exact w_c8
  · exact w_c9
  · exact w_c10
  · exact w_c11
  · exact w_c12
  · exact w_c13
  · exact w_c14
  · exact w_c15
  · exact w_c16
  · exact w_c17
  · exact w_c18
  · exact w_c19
  · exact w_c20
  · exact w_c21
  · exact w_c22
  · exact w_c23
  · exact w_c24
  · exact w_c25
  · exact w_c26
  · exact w_c27
  · exact w_c28
  · exact w_c29
  · exact w_c30
  · exact w_c31
  · exact w_c32
  · exact w_c33
  · exact w_c34
  · exact w_c35
  · exact w_c36
  · exact w_c37
set_option maxRecDepth 65536 in
theorem w_t1 : (words1.take 24).all (fun c => isCode c || c.before args0 about1) = true := by decide +kernel
set_option maxRecDepth 65536 in
theorem w_t2 : ((words1.drop 24).take 24).all (fun c => isCode c || c.before args0 about1) = true := by decide +kernel
set_option maxRecDepth 65536 in
theorem w_t3 : (((words1.drop 24).drop 24).take 24).all (fun c => isCode c || c.before args0 about1) = true := by decide +kernel
set_option maxRecDepth 65536 in
theorem w_t4 : ((((words1.drop 24).drop 24).drop 24).take 24).all (fun c => isCode c || c.before args0 about1) = true := by decide +kernel
set_option maxRecDepth 65536 in
theorem w_t5 : (((((words1.drop 24).drop 24).drop 24).drop 24).take 24).all (fun c => isCode c || c.before args0 about1) = true := by decide +kernel
set_option maxRecDepth 65536 in
theorem w_t6 : ((((((words1.drop 24).drop 24).drop 24).drop 24).drop 24).take 24).all (fun c => isCode c || c.before args0 about1) = true := by decide +kernel
set_option maxRecDepth 65536 in
theorem w_t7 : (((((((words1.drop 24).drop 24).drop 24).drop 24).drop 24).drop 24).take 24).all (fun c => isCode c || c.before args0 about1) = true := by decide +kernel
set_option maxRecDepth 65536 in
theorem w_t8 : (((((((words1.drop 24).drop 24).drop 24).drop 24).drop 24).drop 24).drop 24).all (fun c => isCode c || c.before args0 about1) = true := by decide +kernel
theorem w_tables : (allAtoms (Jvm.Cond.code x code maxLocals ret :: tables_1)).before args0 about1 = true := by
  rw [allAtoms_all]
  show words1.all (fun c => c.before args0 about1) = true
  refine all_split ?_ w_codes
  rw [← List.take_append_drop 24 words1, List.all_append, w_t1, ← List.take_append_drop 24 (words1.drop 24), List.all_append, w_t2, ← List.take_append_drop 24 ((words1.drop 24).drop 24), List.all_append, w_t3, ← List.take_append_drop 24 (((words1.drop 24).drop 24).drop 24), List.all_append, w_t4, ← List.take_append_drop 24 ((((words1.drop 24).drop 24).drop 24).drop 24), List.all_append, w_t5, ← List.take_append_drop 24 (((((words1.drop 24).drop 24).drop 24).drop 24).drop 24), List.all_append, w_t6, ← List.take_append_drop 24 ((((((words1.drop 24).drop 24).drop 24).drop 24).drop 24).drop 24), List.all_append, w_t7, w_t8]
  rfl
set_option maxRecDepth 65536 in
theorem w_rest : rest_1_c.before args0 about1 = true := by decide +kernel
set_option maxRecDepth 65536 in
theorem w_case : (Jvm.Cond.and given_1 narrow_1).before args0 about1 = true := by decide +kernel
set_option maxRecDepth 65536 in
theorem w_consts : constsHeld consts_1 about1 := Jvm.Lit.constsHeldB_iff.mp (by decide +kernel)
theorem w_applies : (headSpec (Jvm.Cond.code x code maxLocals ret :: tables_1) room_1).applies x e0.platform about1 = true :=
  (Spec.applies_iff w_frames).mpr ⟨w_running, w_runnable, w_alone, w_named, w_hears, w_ripe, w_room, w_tables⟩
theorem atStart : AtStart classFile x code maxLocals ret World_1 tables_1 room_1 Calls_1 rest_1 Pre_1 launch0 p0 e0 about1 theMethod args0 below0 :=
  ⟨lists_1, trivial, launch0.admits_env _ _ _, launch0.least_env, fairChoices_fair.cas, fairChoices_fair.clock, w_frames, w_args, w_heap, w_applies, ⟨w_consts, trivial⟩, w_rest, w_case⟩
end start1
theorem witness_1 : WitnessClaimed_1 := ⟨start1.p0, start1.e0, start1.about1, start1.theMethod, start1.args0, start1.below0, start1.atStart⟩
end Jvm.Pilot.@@N@@
