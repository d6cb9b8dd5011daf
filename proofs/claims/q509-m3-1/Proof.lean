import JvmDerived
import JvmDerived.Pilot.@@N@@Statement
import JvmDerived.Pilot.@@N@@Code
set_option linter.unusedVariables false
set_option linter.unusedSimpArgs false
/- laws to paste: Road.backV, Road.lenW, Road.chN, Road.eqW, Road.codOf (cut by pick.py; bodies as the Statement names them) -/
namespace Jvm.Pilot.@@N@@
namespace StrChars
open Jvm Sem ClassFile Op Lib Jvm.Stand Jvm.Free.XT Jvm.Free.ALB Jvm.Free.JM Jvm.Free
open Jvm.Lib.Cold (StaticIs)
/-- a char array whose places are chars -/
def Ch (a : Addr) (A : Cell) (U : State) : Prop := Arr .char a A U ∧ Typed .char A
theorem Ch.mv {a : Addr} {A : Cell} {U U' : State} (h : Ch a A U) (hal : U.vm.Alike U'.vm) (hh : U'.heap = U.heap) : Ch a A U' := ⟨h.1.mv hal hh, h.2⟩
theorem Ch.keep {a : Addr} {A : Cell} {U U' : State} (h : Ch a A U) (hal : U.vm.Alike U'.vm) (hk : U'.heap[a]? = some A) : Ch a A U' := ⟨h.1.keep hal hk, h.2⟩
/-- what place i of a char[]'s cell holds -/
def cv (A : Cell) (i : Nat) : Int32 := match A.slots[i]? with | some (.int x) => x | _ => 0
theorem Ch.get {a : Addr} {A : Cell} {U : State} (h : Ch a A U) {i : Nat} (hi : i < A.slots.size) : A.slots[i]? = some (.int (cv A i)) := by
  have e := Array.getElem?_eq_getElem hi
  have f := h.2 i _ e
  unfold cv; rw [e]
  generalize A.slots[i] = v at f
  cases v <;> simp [fits] at f ⊢
/-- the byte that i2b leaves of a char -/
def lo8 (x : Int32) : Int32 := x.toInt8.toInt32
theorem fits_lo8 (y : Int32) : fits .byte (.int (lo8 y)) = true := by
  have h1 := y.toInt8.le_toInt
  have h2 := y.toInt8.toInt_lt
  simp only [lo8, fits, Bool.and_eq_true, decide_eq_true_eq, Int32.le_iff_toInt_le, Int8.toInt_toInt32, show (-128 : Int32).toInt = -128 from by decide, show (127 : Int32).toInt = 127 from by decide]
  omega
/-- A' is A but that each place j of lo .. hi - 1 holds f j -/
def Laid (A A' : Cell) (lo hi : Nat) (f : Nat → Value) : Prop := A'.cls = A.cls ∧ A'.vm = A.vm ∧ A'.slots.size = A.slots.size ∧ ∀ i, A'.slots[i]? = if lo ≤ i ∧ i < hi then some (f i) else A.slots[i]?
theorem Laid.zero (A : Cell) (lo : Nat) (f : Nat → Value) : Laid A A lo (lo + 0) f := ⟨rfl, rfl, rfl, fun i => by rw [if_neg (by omega)]⟩
theorem Laid.step {A Ak : Cell} {lo k : Nat} {f : Nat → Value} {v : Value} (h : Laid A Ak lo k f) (hlo : lo ≤ k) (hk : k < Ak.slots.size) (hv : v = f k) : Laid A (Ak.setSlot k v) lo (k + 1) f := by
  refine ⟨h.1, h.2.1, by simpa [Cell.setSlot] using h.2.2.1, fun i => ?_⟩
  by_cases e : k = i
  · subst e; rw [Cell.slots_setSlot_self v hk, if_pos (by omega), hv]
  · rw [Cell.slots_setSlot_ne v e, h.2.2.2 i]
    by_cases q : lo ≤ i ∧ i < k
    · rw [if_pos q, if_pos (by omega)]
    · rw [if_neg q, if_neg (by omega)]
def U16 : String := "java/lang/StringUTF16"
namespace Cmp5
def yN : MethodName := ⟨"java/lang/StringUTF16", "compress", "([CI[BII)I"⟩
abbrev yB : ByteArray := jdk_52_method_21_code
theorem d0 : decode yB 0 = .ok (.iconst 0, 1) := by decide +kernel
theorem d1 : decode yB 1 = .ok (.istore 5, 2) := by decide +kernel
theorem d3 : decode yB 3 = .ok (.iload 5, 2) := by decide +kernel
theorem d5 : decode yB 5 = .ok (.iload 4, 2) := by decide +kernel
theorem d7 : decode yB 7 = .ok (.if_icmp (.ge) 37, 3) := by decide +kernel
theorem d10 : decode yB 10 = .ok (.aload_n 0, 1) := by decide +kernel
theorem d11 : decode yB 11 = .ok (.iload_n 1, 1) := by decide +kernel
theorem d12 : decode yB 12 = .ok (.caload, 1) := by decide +kernel
theorem d13 : decode yB 13 = .ok (.istore 6, 2) := by decide +kernel
theorem d15 : decode yB 15 = .ok (.iload 6, 2) := by decide +kernel
theorem d17 : decode yB 17 = .ok (.sipush 255, 3) := by decide +kernel
theorem d20 : decode yB 20 = .ok (.if_icmp (.le) 6, 3) := by decide +kernel
theorem d26 : decode yB 26 = .ok (.aload_n 2, 1) := by decide +kernel
theorem d27 : decode yB 27 = .ok (.iload_n 3, 1) := by decide +kernel
theorem d28 : decode yB 28 = .ok (.iload 6, 2) := by decide +kernel
theorem d30 : decode yB 30 = .ok (.i2b, 1) := by decide +kernel
theorem d31 : decode yB 31 = .ok (.bastore, 1) := by decide +kernel
theorem d32 : decode yB 32 = .ok (.iinc 1 1, 3) := by decide +kernel
theorem d35 : decode yB 35 = .ok (.iinc 3 1, 3) := by decide +kernel
theorem d38 : decode yB 38 = .ok (.iinc 5 1, 3) := by decide +kernel
theorem d41 : decode yB 41 = .ok (.goto (-38), 3) := by decide +kernel
theorem d44 : decode yB 44 = .ok (.iload 4, 2) := by decide +kernel
theorem d46 : decode yB 46 = .ok (.ireturn, 1) := by decide +kernel
def site : List Cond := []
def tab : Cond := tabOf yN yB 7 (some .int) site
def P (b : Addr) (A : Cell) (d : Addr) (B : Cell) (o q len : Nat) (args : Array Value) (s : State) : Prop := args = #[.ref b, .int (Int32.ofNat o), .ref d, .int (Int32.ofNat q), .int (Int32.ofNat len)] ∧ Ch b A s ∧ Arr .byte d B s ∧ b ≠ d ∧ o + len ≤ A.slots.size ∧ q + len ≤ B.slots.size ∧ ∀ i, i < len → ¬ 255 < cv A (o + i)
def E (b : Addr) (A : Cell) (d : Addr) (B : Cell) (o q len : Nat) (r : Option Value) (s u : State) : Prop := r = some (.int (Int32.ofNat len)) ∧ ∃ B', Put d B' s u ∧ Laid B B' q (q + len) (fun j => Value.int (lo8 (cv A (o + (j - q)))))
/-- no char of the range above 255: len; the places written hold each char's low byte -/
theorem law (l : Launch) (b : Addr) (A : Cell) (d : Addr) (B : Cell) (o q len : Nat) : Law l yN 5 5 0 0 yB 7 (some .int) site (P b A d B o q len) (E b A d B o q len) (copyLocs d q len) 0 0 := by
  refine Law.of_walk (plainFor_of_name (by decide +kernel)) (by decide +kernel) (by decide +kernel) (by decide) (fun _ _ h => by rw [h.1]; rfl) (fun _ U U' hal hh h => ⟨h.1, h.2.1.mv hal hh, h.2.2.1.mv hal hh, h.2.2.2⟩) (fun r U U' V V' h1 hal h2 h => ⟨h.1, h.2.elim fun B' q => ⟨B', q.1.mv h1 h2, q.2⟩⟩) ?_
  intro p e s m args below meth c s₁ X0 hexec hbytes hml hret hlk hnm hown hh0 W hP
  obtain ⟨rfl, hA, hB, hne, l1, l2, hp⟩ := hP
  have c1 : Steps p.tables e below (s₁.setTop (entryFrame m #[.ref b, .int (Int32.ofNat o), .ref d, .int (Int32.ofNat q), .int (Int32.ofNat len)] 7)) (s₁.setTop (mkF m 0 #[.val (.ref b), .val (.int (Int32.ofNat o)), .val (.ref d), .val (.int (Int32.ofNat q)), .val (.int (Int32.ofNat len)), .unset, .unset] [])) := entry rfl
  have hA0 := hA.1.mv X0.warmed.alike hh0
  have hB0 := hB.mv X0.warmed.alike hh0
  have a31 := hA.1.2.2.2
  have c2 : Steps p.tables e below (s₁.setTop (entryFrame m #[.ref b, .int (Int32.ofNat o), .ref d, .int (Int32.ofNat q), .int (Int32.ofNat len)] 7)) (s₁.setTop (mkF m 3 #[.val (.ref b), .val (.int (Int32.ofNat o)), .val (.ref d), .val (.int (Int32.ofNat q)), .val (.int (Int32.ofNat len)), .val (.int 0), .unset] [])) := c1.trans (by
    refine iconstV X0.here hexec rfl 0 (hb hbytes d0) (by decide) ?_
    refine XS.istore X0.here hexec rfl (hb hbytes d1) rfl rfl ?_
    exact Steps.refl _)
  have loop : ∀ (r i : Nat), i + r = len → ∀ (z : Slot), (z = .unset ∨ ∃ w, z = .val w ∧ w.category = 1) → ∀ (Tl : State) (Bk : Cell), Stand p l e { frames := 0, locals := 0, cells := 0, slots := 0 } s m #[.ref b, .int (Int32.ofNat o), .ref d, .int (Int32.ofNat q), .int (Int32.ofNat len)] below meth c Tl ([] ++ copyLocs d q i) 0 0 → Put d Bk s₁ Tl → Laid B Bk q (q + i) (fun j => Value.int (lo8 (cv A (o + (j - q))))) →
      Steps p.tables e below (s₁.setTop (entryFrame m #[.ref b, .int (Int32.ofNat o), .ref d, .int (Int32.ofNat q), .int (Int32.ofNat len)] 7)) (Tl.setTop (mkF m 3 #[.val (.ref b), .val (.int (Int32.ofNat (o + i))), .val (.ref d), .val (.int (Int32.ofNat (q + i))), .val (.int (Int32.ofNat len)), .val (.int (Int32.ofNat i)), z] [])) → ∃ (T' : State) (B' : Cell) (z' : Slot), Stand p l e { frames := 0, locals := 0, cells := 0, slots := 0 } s m #[.ref b, .int (Int32.ofNat o), .ref d, .int (Int32.ofNat q), .int (Int32.ofNat len)] below meth c T' ([] ++ copyLocs d q len) 0 0 ∧ Put d B' s₁ T' ∧ Laid B B' q (q + len) (fun j => Value.int (lo8 (cv A (o + (j - q))))) ∧
      Steps p.tables e below (s₁.setTop (entryFrame m #[.ref b, .int (Int32.ofNat o), .ref d, .int (Int32.ofNat q), .int (Int32.ofNat len)] 7)) (T'.setTop (mkF m 3 #[.val (.ref b), .val (.int (Int32.ofNat (o + len))), .val (.ref d), .val (.int (Int32.ofNat (q + len))), .val (.int (Int32.ofNat len)), .val (.int (Int32.ofNat len)), z'] [])) := by
    intro r
    induction r with
    | zero =>
      intro i hi z hz Tl Bk Xl pl fl cl
      have hil : i = len := by omega
      rw [hil] at Xl fl cl
      exact ⟨Tl, Bk, z, Xl, pl, fl, cl⟩
    | succ r ih =>
      intro i hi z hz Tl Bk Xl pl fl cl
      have all := X0.warmed.alike.symm.trans Xl.warmed.alike
      have hAl := hA0.keep all (pl.other hne hA0.1)
      have hBk := hB0.like all pl.1 fl.1 fl.2.1 fl.2.2.1
      have hlt : q + i < Bk.slots.size := by rw [fl.2.2.1]; omega
      have c3 : Steps p.tables e below (s₁.setTop (entryFrame m #[.ref b, .int (Int32.ofNat o), .ref d, .int (Int32.ofNat q), .int (Int32.ofNat len)] 7)) (Tl.setTop (mkF m 12 #[.val (.ref b), .val (.int (Int32.ofNat (o + i))), .val (.ref d), .val (.int (Int32.ofNat (q + i))), .val (.int (Int32.ofNat len)), .val (.int (Int32.ofNat i)), z] [.int (Int32.ofNat (o + i)), .ref b])) := cl.trans (by
        refine XS.iload Xl.here hexec rfl (hb hbytes d3) rfl ?_
        refine XS.iload Xl.here hexec rfl (hb hbytes d5) rfl ?_
        refine XS.icmpNo Xl.here hexec rfl (hb hbytes d7) rfl (ii_ge_f (lt32 (by omega) (by omega))) ?_
        refine XS.aloadN Xl.here hexec rfl (hb hbytes d10) rfl rfl ?_
        refine XS.iloadN Xl.here hexec rfl (hb hbytes d11) rfl ?_
        exact Steps.refl _)
      have c4 : Steps p.tables e below (s₁.setTop (entryFrame m #[.ref b, .int (Int32.ofNat o), .ref d, .int (Int32.ofNat q), .int (Int32.ofNat len)] 7)) (Tl.setTop (mkF m 13 #[.val (.ref b), .val (.int (Int32.ofNat (o + i))), .val (.ref d), .val (.int (Int32.ofNat (q + i))), .val (.int (Int32.ofNat len)), .val (.int (Int32.ofNat i)), z] [.int (cv A (o + i))])) := c3.trans (by
        refine Xl.aget hexec hAl rfl (hA.get (i := o + i) (by omega)) rfl rfl (hb hbytes d12) ?_
        exact Steps.refl _)
      have c5 : Steps p.tables e below (s₁.setTop (entryFrame m #[.ref b, .int (Int32.ofNat o), .ref d, .int (Int32.ofNat q), .int (Int32.ofNat len)] 7)) (Tl.setTop (mkF m 15 #[.val (.ref b), .val (.int (Int32.ofNat (o + i))), .val (.ref d), .val (.int (Int32.ofNat (q + i))), .val (.int (Int32.ofNat len)), .val (.int (Int32.ofNat i)), .val (.int (cv A (o + i)))] [])) := c4.trans (by
        refine XS.istoreS Xl.here hexec rfl (hb hbytes d13) rfl rfl hz ?_
        exact Steps.refl _)
      have c6 : Steps p.tables e below (s₁.setTop (entryFrame m #[.ref b, .int (Int32.ofNat o), .ref d, .int (Int32.ofNat q), .int (Int32.ofNat len)] 7)) (Tl.setTop (mkF m 31 #[.val (.ref b), .val (.int (Int32.ofNat (o + i))), .val (.ref d), .val (.int (Int32.ofNat (q + i))), .val (.int (Int32.ofNat len)), .val (.int (Int32.ofNat i)), .val (.int (cv A (o + i)))] [.int (lo8 (cv A (o + i))), .int (Int32.ofNat (q + i)), .ref d])) := c5.trans (by
        refine XS.iload Xl.here hexec rfl (hb hbytes d15) rfl ?_
        refine sipushV Xl.here hexec rfl 255 (hb hbytes d17) (by decide) ?_
        refine XS.icmpYes Xl.here hexec rfl (pc0 := 20) rfl (hb hbytes d20) rfl (ii_le_t (hp i (by omega))) (by decide) rfl ?_
        refine XS.aloadN Xl.here hexec rfl (hb hbytes d26) rfl rfl ?_
        refine XS.iloadN Xl.here hexec rfl (hb hbytes d27) rfl ?_
        refine XS.iload Xl.here hexec rfl (hb hbytes d28) rfl ?_
        refine i2b Xl.here hexec rfl (hb hbytes d30) rfl ?_
        exact Steps.refl _)
      obtain ⟨T7, X7, p7, st7⟩ := Xl.aput hexec hBk rfl hlt rfl (fits_lo8 (cv A (o + i))) (g := (mkF m 31 #[.val (.ref b), .val (.int (Int32.ofNat (o + i))), .val (.ref d), .val (.int (Int32.ofNat (q + i))), .val (.int (Int32.ofNat len)), .val (.int (Int32.ofNat i)), .val (.int (cv A (o + i)))] [.int (lo8 (cv A (o + i))), .int (Int32.ofNat (q + i)), .ref d])) rfl (rest := []) rfl (hb hbytes d31)
      have c8 : Steps p.tables e below (s₁.setTop (entryFrame m #[.ref b, .int (Int32.ofNat o), .ref d, .int (Int32.ofNat q), .int (Int32.ofNat len)] 7)) (T7.setTop (mkF m 32 #[.val (.ref b), .val (.int (Int32.ofNat (o + i))), .val (.ref d), .val (.int (Int32.ofNat (q + i))), .val (.int (Int32.ofNat len)), .val (.int (Int32.ofNat i)), .val (.int (cv A (o + i)))] [])) := c6.trans (st7 _ (Steps.refl _))
      have c9 : Steps p.tables e below (s₁.setTop (entryFrame m #[.ref b, .int (Int32.ofNat o), .ref d, .int (Int32.ofNat q), .int (Int32.ofNat len)] 7)) (T7.setTop (mkF m 3 #[.val (.ref b), .val (.int (Int32.ofNat (o + i) + 1)), .val (.ref d), .val (.int (Int32.ofNat (q + i) + 1)), .val (.int (Int32.ofNat len)), .val (.int (Int32.ofNat i + 1)), .val (.int (cv A (o + i)))] [])) := c8.trans (by
        refine iincV X7.here hexec rfl 1 (hb hbytes d32) (by decide) rfl rfl ?_
        refine iincV X7.here hexec rfl 1 (hb hbytes d35) (by decide) rfl rfl ?_
        refine iincV X7.here hexec rfl 1 (hb hbytes d38) (by decide) rfl rfl ?_
        refine XS.goto X7.here hexec rfl (pc0 := 41) rfl (hb hbytes d41) (by decide) rfl ?_
        exact Steps.refl _)
      have c10 : Steps p.tables e below (s₁.setTop (entryFrame m #[.ref b, .int (Int32.ofNat o), .ref d, .int (Int32.ofNat q), .int (Int32.ofNat len)] 7)) (T7.setTop (mkF m 3 #[.val (.ref b), .val (.int (Int32.ofNat (o + (i + 1)))), .val (.ref d), .val (.int (Int32.ofNat (q + (i + 1)))), .val (.int (Int32.ofNat len)), .val (.int (Int32.ofNat (i + 1))), .val (.int (cv A (o + i)))] [])) := by
        have := c9
        rw [succ32, succ32, succ32] at this
        exact this
      exact ih (i + 1) (by omega) _ (Or.inr ⟨_, rfl, rfl⟩) T7 _ (by rw [copyLocs_step, ← List.append_assoc]; exact X7) (pl.trans p7) (fl.step (by omega) hlt (by simp)) c10
  obtain ⟨T9, B9, z9, X9, p9, f9, g9⟩ := loop len 0 (by omega) .unset (Or.inl rfl) s₁ B (by simpa [copyLocs] using X0) ⟨hB0.1, fun _ _ => rfl, rfl⟩ (Laid.zero _ _ _) c2
  have c11 : Steps p.tables e below (s₁.setTop (entryFrame m #[.ref b, .int (Int32.ofNat o), .ref d, .int (Int32.ofNat q), .int (Int32.ofNat len)] 7)) (T9.setTop (mkF m 46 #[.val (.ref b), .val (.int (Int32.ofNat (o + len))), .val (.ref d), .val (.int (Int32.ofNat (q + len))), .val (.int (Int32.ofNat len)), .val (.int (Int32.ofNat len)), z9] [.int (Int32.ofNat len)])) := g9.trans (by
    refine XS.iload X9.here hexec rfl (hb hbytes d3) rfl ?_
    refine XS.iload X9.here hexec rfl (hb hbytes d5) rfl ?_
    refine XS.icmpYes X9.here hexec rfl (pc0 := 7) rfl (hb hbytes d7) rfl (ii_ge_t (nlt32 (by omega) (Nat.le_refl _))) (by decide) rfl ?_
    refine XS.iload X9.here hexec rfl (hb hbytes d44) rfl ?_
    exact Steps.refl _)
  exact ⟨T9, some (.int (Int32.ofNat len)), _, _, _, X9, by simp, rfl, rfl, (fun h => by cases h), ⟨rfl, B9, p9.from hh0, f9⟩, fun fs hl => c11.trans (X9.ireturnOut hexec hret rfl (Or.inl rfl) (hb hbytes d46) hl)⟩
end Cmp5
namespace Cmp3
def yN : MethodName := ⟨"java/lang/StringUTF16", "compress", "([CII)[B"⟩
abbrev yB : ByteArray := jdk_52_method_16_code
theorem d0 : decode yB 0 = .ok (.iload_n 2, 1) := by decide +kernel
theorem d1 : decode yB 1 = .ok (.newarray .byte, 2) := by decide +kernel
theorem d3 : decode yB 3 = .ok (.astore_n 3, 1) := by decide +kernel
theorem d4 : decode yB 4 = .ok (.aload_n 0, 1) := by decide +kernel
theorem d5 : decode yB 5 = .ok (.iload_n 1, 1) := by decide +kernel
theorem d6 : decode yB 6 = .ok (.aload_n 3, 1) := by decide +kernel
theorem d7 : decode yB 7 = .ok (.iconst 0, 1) := by decide +kernel
theorem d8 : decode yB 8 = .ok (.iload_n 2, 1) := by decide +kernel
theorem d9 : decode yB 9 = .ok (.invokestatic 115, 3) := by decide +kernel
theorem d12 : decode yB 12 = .ok (.istore 4, 2) := by decide +kernel
theorem d14 : decode yB 14 = .ok (.iload 4, 2) := by decide +kernel
theorem d16 : decode yB 16 = .ok (.iload_n 2, 1) := by decide +kernel
theorem d17 : decode yB 17 = .ok (.if_icmp (.eq) 40, 3) := by decide +kernel
theorem d57 : decode yB 57 = .ok (.aload_n 3, 1) := by decide +kernel
theorem d58 : decode yB 58 = .ok (.areturn, 1) := by decide +kernel
def site : List Cond := [.arrayClass .byte, Cmp5.tab] ++ staticW U16 115 Cmp5.yN
def tab : Cond := tabOf yN yB 6 (some (.array .byte)) site
def P (b : Addr) (A : Cell) (o len : Nat) (args : Array Value) (s : State) : Prop := args = #[.ref b, .int (Int32.ofNat o), .int (Int32.ofNat len)] ∧ Ch b A s ∧ o + len ≤ A.slots.size ∧ len ≤ 536870912 ∧ ∀ i, i < len → ¬ 255 < cv A (o + i)
def E (b : Addr) (A : Cell) (o len : Nat) (r : Option Value) (s u : State) : Prop := NewArr .byte "[B" len (fun j => .int (lo8 (cv A (o + j)))) r s u ∧ u.heap.size = s.heap.size + 1
/-- no char of the range above 255: a new byte[] of their low bytes -/
theorem law (l : Launch) (b : Addr) (A : Cell) (o len : Nat) : Law l yN 3 3 1 18 yB 6 (some (.array .byte)) site (P b A o len) (E b A o len) [] 1 len := by
  refine Law.of_walk (plainFor_of_name (by decide +kernel)) (by decide +kernel) (by decide +kernel) (by decide) (fun _ _ h => by rw [h.1]; rfl) (fun _ U U' hal hh h => ⟨h.1, h.2.1.mv hal hh, h.2.2⟩) (fun r U U' V V' h1 hal h2 h => ⟨NewArr.mv r U U' V V' h1 hal h2 h.1, by rw [h1, h2]; exact h.2⟩) ?_
  intro p e s m args below meth c s₁ X0 hexec hbytes hml hret hlk hnm hown hh0 W hP
  obtain ⟨rfl, hA, l1, l2, hp⟩ := hP
  have a31 := hA.1.2.2.2
  have c1 : Steps p.tables e below (s₁.setTop (entryFrame m #[.ref b, .int (Int32.ofNat o), .int (Int32.ofNat len)] 6)) (s₁.setTop (mkF m 0 #[.val (.ref b), .val (.int (Int32.ofNat o)), .val (.int (Int32.ofNat len)), .unset, .unset, .unset] [])) := entry rfl
  have c2 : Steps p.tables e below (s₁.setTop (entryFrame m #[.ref b, .int (Int32.ofNat o), .int (Int32.ofNat len)] 6)) (s₁.setTop (mkF m 1 #[.val (.ref b), .val (.int (Int32.ofNat o)), .val (.int (Int32.ofNat len)), .unset, .unset, .unset] [.int (Int32.ofNat len)])) := c1.trans (by
    refine XS.iloadN X0.here hexec rfl (hb hbytes d0) rfl ?_
    exact Steps.refl _)
  obtain ⟨T3, B3, X3, ba3, bs3, bv3, bh3, bf3, st3⟩ := X0.anew hexec (atype := .byte) (wk W (.arrayClass .byte)) rfl (by show len * 1 ≤ _; omega) (by omega) (g := (mkF m 1 #[.val (.ref b), .val (.int (Int32.ofNat o)), .val (.int (Int32.ofNat len)), .unset, .unset, .unset] [.int (Int32.ofNat len)])) rfl (hb hbytes d1) (rest := []) rfl (Nat.le_refl _) (by show 0 + len ≤ len; omega)
  rw [hh0] at ba3 st3
  have kp3 : XT.Kept s T3 := (XT.Kept.of_eq hh0).push bh3
  have hA3 := hA.keep X3.warmed.alike (kp3 _ _ hA.1.1)
  have hne : b ≠ s.heap.size := hA.1.ne
  have c4 : Steps p.tables e below (s₁.setTop (entryFrame m #[.ref b, .int (Int32.ofNat o), .int (Int32.ofNat len)] 6)) (T3.setTop (mkF m 3 #[.val (.ref b), .val (.int (Int32.ofNat o)), .val (.int (Int32.ofNat len)), .unset, .unset, .unset] [.ref s.heap.size])) := c2.trans (st3 _ (Steps.refl _))
  have c5 : Steps p.tables e below (s₁.setTop (entryFrame m #[.ref b, .int (Int32.ofNat o), .int (Int32.ofNat len)] 6)) (T3.setTop (mkF m 9 #[.val (.ref b), .val (.int (Int32.ofNat o)), .val (.int (Int32.ofNat len)), .val (.ref s.heap.size), .unset, .unset] [.int (Int32.ofNat len), .int 0, .ref s.heap.size, .int (Int32.ofNat o), .ref b])) := c4.trans (by
    refine XS.astoreN X3.here hexec rfl (hb hbytes d3) rfl rfl rfl ?_
    refine XS.aloadN X3.here hexec rfl (hb hbytes d4) rfl rfl ?_
    refine XS.iloadN X3.here hexec rfl (hb hbytes d5) rfl ?_
    refine XS.aloadN X3.here hexec rfl (hb hbytes d6) rfl rfl ?_
    refine iconstV X3.here hexec rfl 0 (hb hbytes d7) (by decide) ?_
    refine XS.iloadN X3.here hexec rfl (hb hbytes d8) rfl ?_
    exact Steps.refl _)
  obtain ⟨v6, T6, X6, E6, g6⟩ := X3.callS hexec (Cmp5.law l b A s.heap.size B3 o 0 len) hown (wks W (staticW U16 115 Cmp5.yN)) (wk W Cmp5.tab) (W := 0) (Nat.le_of_ble_eq_true rfl) (Nat.le_of_ble_eq_true rfl) (Nat.le_refl _) (by show 0 + len + 0 ≤ len; omega) (g := (mkF m 9 #[.val (.ref b), .val (.int (Int32.ofNat o)), .val (.int (Int32.ofNat len)), .val (.ref s.heap.size), .unset, .unset] [.int (Int32.ofNat len), .int (Int32.ofNat 0), .ref s.heap.size, .int (Int32.ofNat o), .ref b])) rfl (by rw [hml]; rfl) c5 (argsL := [.ref b, .int (Int32.ofNat o), .ref s.heap.size, .int (Int32.ofNat 0), .int (Int32.ofNat len)]) (rest := []) rfl rfl (by show 2 * 0 + 0 ≤ _; decide) (hb hbytes d9) (⟨rfl, hA3, ba3, hne, l1, by rw [bs3]; simp, hp⟩)
  obtain ⟨rfl, B6, p6, f6⟩ := E6
  have c7 : Steps p.tables e below (s₁.setTop (entryFrame m #[.ref b, .int (Int32.ofNat o), .int (Int32.ofNat len)] 6)) (T6.setTop (mkF m 12 #[.val (.ref b), .val (.int (Int32.ofNat o)), .val (.int (Int32.ofNat len)), .val (.ref s.heap.size), .unset, .unset] [.int (Int32.ofNat len)])) := g6
  have c8 : Steps p.tables e below (s₁.setTop (entryFrame m #[.ref b, .int (Int32.ofNat o), .int (Int32.ofNat len)] 6)) (T6.setTop (mkF m 58 #[.val (.ref b), .val (.int (Int32.ofNat o)), .val (.int (Int32.ofNat len)), .val (.ref s.heap.size), .val (.int (Int32.ofNat len)), .unset] [.ref s.heap.size])) := c7.trans (by
    refine XS.istore X6.here hexec rfl (hb hbytes d12) rfl rfl ?_
    refine XS.iload X6.here hexec rfl (hb hbytes d14) rfl ?_
    refine XS.iloadN X6.here hexec rfl (hb hbytes d16) rfl ?_
    refine XS.icmpYes X6.here hexec rfl (pc0 := 17) rfl (hb hbytes d17) rfl (ii_eq_t rfl) (by decide) rfl ?_
    refine XS.aloadN X6.here hexec rfl (hb hbytes d57) rfl rfl ?_
    exact Steps.refl _)
  have X8 := X6.wide (L' := []) (cells' := 1) (slots' := len) (fun x hx hlt => by
    simp only [List.nil_append, copyLocs, List.mem_map, List.mem_range] at hx
    obtain ⟨i, -, rfl⟩ := hx
    exact absurd hlt (Nat.lt_irrefl _)) (Nat.le_refl _) (by omega)
  exact ⟨T6, some (.ref s.heap.size), _, _, _, X8, rfl, rfl, rfl, (fun h => by cases h), ⟨⟨rfl, B6, ba3.like (X3.warmed.alike.symm.trans X6.warmed.alike) p6.1 f6.1 f6.2.1 f6.2.2.1, f6.2.1.trans bv3, by rw [X6.warmed.alike.findClass, f6.1]; exact bf3, by rw [f6.2.2.1, bs3]; simp, fun j hj => by rw [f6.2.2.2 j, if_pos (by omega)]; rfl, kp3.put p6 (Nat.le_refl _)⟩, by rw [p6.2.2, bh3, hh0]; simp⟩, fun fs hl => c8.trans (X8.areturnOut hexec rfl hret rfl (hb hbytes d58) hl)⟩
end Cmp3
namespace CodL
def yN : MethodName := ⟨"java/lang/StringUTF16", "coderFromArrayLen", "([BI)B"⟩
abbrev yB : ByteArray := jdk_52_method_15_code
theorem d0 : decode yB 0 = .ok (.iload_n 1, 1) := by decide +kernel
theorem d1 : decode yB 1 = .ok (.aload_n 0, 1) := by decide +kernel
theorem d2 : decode yB 2 = .ok (.arraylength, 1) := by decide +kernel
theorem d3 : decode yB 3 = .ok (.isub, 1) := by decide +kernel
theorem d4 : decode yB 4 = .ok (.bipush 31, 2) := by decide +kernel
theorem d6 : decode yB 6 = .ok (.iushr, 1) := by decide +kernel
theorem d7 : decode yB 7 = .ok (.i2b, 1) := by decide +kernel
theorem d8 : decode yB 8 = .ok (.ireturn, 1) := by decide +kernel
def site : List Cond := []
def tab : Cond := tabOf yN yB 2 (some .byte) site
def P (d : Addr) (B : Cell) (args : Array Value) (s : State) : Prop := args = #[.ref d, .int (Int32.ofNat B.slots.size)] ∧ Arr .byte d B s
def E (r : Option Value) (s u : State) : Prop := XT.PureE (some (.int 0)) r s u
/-- an array as long as the number of chars: LATIN1 -/
theorem law (l : Launch) (d : Addr) (B : Cell) : Law l yN 2 2 0 0 yB 2 (some .byte) site (P d B) E [] 0 0 := by
  refine Law.of_walk (plainFor_of_name (by decide +kernel)) (by decide +kernel) (by decide +kernel) (by decide) (fun _ _ h => by rw [h.1]; rfl) (fun _ U U' hal hh h => ⟨h.1, h.2.mv hal hh⟩) (fun r U U' V V' h1 hal h2 h => XT.PureE.mv r U U' V V' h1 hal h2 h) ?_
  intro p e s m args below meth c s₁ X0 hexec hbytes hml hret hlk hnm hown hh0 W hP
  obtain ⟨rfl, hB⟩ := hP
  have hB0 := hB.mv X0.warmed.alike hh0
  have c1 : Steps p.tables e below (s₁.setTop (entryFrame m #[.ref d, .int (Int32.ofNat B.slots.size)] 2)) (s₁.setTop (mkF m 0 #[.val (.ref d), .val (.int (Int32.ofNat B.slots.size))] [])) := entry rfl
  have c2 : Steps p.tables e below (s₁.setTop (entryFrame m #[.ref d, .int (Int32.ofNat B.slots.size)] 2)) (s₁.setTop (mkF m 2 #[.val (.ref d), .val (.int (Int32.ofNat B.slots.size))] [.ref d, .int (Int32.ofNat B.slots.size)])) := c1.trans (by
    refine XS.iloadN X0.here hexec rfl (hb hbytes d0) rfl ?_
    refine XS.aloadN X0.here hexec rfl (hb hbytes d1) rfl rfl ?_
    exact Steps.refl _)
  have c3 : Steps p.tables e below (s₁.setTop (entryFrame m #[.ref d, .int (Int32.ofNat B.slots.size)] 2)) (s₁.setTop (mkF m 8 #[.val (.ref d), .val (.int (Int32.ofNat B.slots.size))] [.int (lo8 (ushr (Int32.ofNat B.slots.size - Int32.ofNat B.slots.size) 31))])) := c2.trans (by
    refine X0.alen hexec hB0 rfl rfl (hb hbytes d2) ?_
    refine XS.isub X0.here hexec rfl (hb hbytes d3) rfl ?_
    refine bipushV X0.here hexec rfl 31 (hb hbytes d4) (by decide) ?_
    refine iushr X0.here hexec rfl (hb hbytes d6) rfl ?_
    refine i2b X0.here hexec rfl (hb hbytes d7) rfl ?_
    exact Steps.refl _)
  have e0 : lo8 (ushr (Int32.ofNat B.slots.size - Int32.ofNat B.slots.size) 31) = 0 := by rw [Int32.sub_self]; decide
  rw [e0] at c3
  exact ⟨s₁, some (.int 0), _, _, _, X0, rfl, rfl, rfl, (fun h => by cases h), ⟨rfl, hh0⟩, fun fs hl => c3.trans (X0.ireturnOut hexec hret rfl (Or.inr (Or.inr (Or.inl rfl))) (hb hbytes d8) hl)⟩
end CodL
/-- the String at a is Latin-1 over a new byte[] (the heap's one new cell): the low bytes of the len chars of A from o on; every cell but a is kept -/
def Got (a : Addr) (D : Cell) (fV fC : Field) (A : Cell) (o len : Nat) (r : Option Value) (s u : State) : Prop := r = none ∧ ∃ D' V : Cell, Blank "java/lang/String" a D' u ∧ Same D D' [fV.slot, fC.slot] ∧ D'.slots[fV.slot]? = some (.ref s.heap.size) ∧ D'.slots[fC.slot]? = some (.int 0) ∧ Arr .byte s.heap.size V u ∧ V.vm = .none ∧ u.vm.findClass "[B" = some V.cls ∧ V.slots.size = len ∧ (∀ j, j < len → V.slots[j]? = some (.int (lo8 (cv A (o + j))))) ∧ (∀ (y : Addr) (c : Cell), y ≠ a → s.heap[y]? = some c → u.heap[y]? = some c) ∧ u.heap.size = s.heap.size + 1
theorem Got.mv {a : Addr} {D A : Cell} {fV fC : Field} {o len : Nat} : ∀ r (U U' V V' : State), U'.heap = U.heap → V.vm.Alike V'.vm → V'.heap = V.heap → Got a D fV fC A o len r U V → Got a D fV fC A o len r U' V' :=
  fun r U U' V V' h1 hal h2 ⟨e0, D', X, a1, a2, a3, a4, a5, a6, a7, a8, a9, a10, a11⟩ => ⟨e0, D', X, a1.mv hal h2, a2, by rw [h1]; exact a3, a4, by rw [h1]; exact a5.mv hal h2, a6, by rw [hal.findClass]; exact a7, a8, a9, by rw [h1, h2]; exact a10, by rw [h1, h2]; exact a11⟩
namespace New4
def yN : MethodName := ⟨"java/lang/String", "<init>", "([CIILjava/lang/Void;)V"⟩
abbrev yB : ByteArray := jdk_42_method_149_code
theorem d0 : decode yB 0 = .ok (.aload_n 0, 1) := by decide +kernel
theorem d1 : decode yB 1 = .ok (.invokespecial 1, 3) := by decide +kernel
theorem d4 : decode yB 4 = .ok (.iload_n 3, 1) := by decide +kernel
theorem d5 : decode yB 5 = .ok (.ifCond (.ne) 22, 3) := by decide +kernel
theorem d27 : decode yB 27 = .ok (.getstatic 38, 3) := by decide +kernel
theorem d30 : decode yB 30 = .ok (.ifCond (.eq) 28, 3) := by decide +kernel
theorem d33 : decode yB 33 = .ok (.aload_n 1, 1) := by decide +kernel
theorem d34 : decode yB 34 = .ok (.iload_n 2, 1) := by decide +kernel
theorem d35 : decode yB 35 = .ok (.iload_n 3, 1) := by decide +kernel
theorem d36 : decode yB 36 = .ok (.invokestatic 177, 3) := by decide +kernel
theorem d39 : decode yB 39 = .ok (.astore 5, 2) := by decide +kernel
theorem d41 : decode yB 41 = .ok (.aload_n 0, 1) := by decide +kernel
theorem d42 : decode yB 42 = .ok (.aload 5, 2) := by decide +kernel
theorem d44 : decode yB 44 = .ok (.iload_n 3, 1) := by decide +kernel
theorem d45 : decode yB 45 = .ok (.invokestatic 47, 3) := by decide +kernel
theorem d48 : decode yB 48 = .ok (.putfield 15, 3) := by decide +kernel
theorem d51 : decode yB 51 = .ok (.aload_n 0, 1) := by decide +kernel
theorem d52 : decode yB 52 = .ok (.aload 5, 2) := by decide +kernel
theorem d54 : decode yB 54 = .ok (.putfield 9, 3) := by decide +kernel
theorem d57 : decode yB 57 = .ok (.return_, 1) := by decide +kernel
def site : List Cond := [.fieldLink "java/lang/String" 38 "java/lang/String" "COMPACT_STRINGS" "Z", Cmp3.tab, CodL.tab, .laysFinal "java/lang/String" "java/lang/String" "value" "[B", .fieldLink "java/lang/String" 9 "java/lang/String" "value" "[B", .laysFinal "java/lang/String" "java/lang/String" "coder" "B", .fieldLink "java/lang/String" 15 "java/lang/String" "coder" "B"] ++ objW "java/lang/String" 1 ++ staticW "java/lang/String" 177 Cmp3.yN ++ staticW "java/lang/String" 47 CodL.yN
def tab : Cond := tabOf yN yB 6 none site
def P (a : Addr) (D : Cell) (fV fC : Field) (b : Addr) (A : Cell) (z : Int32) (o len : Nat) (args : Array Value) (s : State) : Prop := args = #[.ref a, .ref b, .int (Int32.ofNat o), .int (Int32.ofNat len), .null] ∧ Blank "java/lang/String" a D s ∧ Found "java/lang/String" "value" "[B" fV s ∧ Found "java/lang/String" "coder" "B" fC s ∧ Ch b A s ∧ StaticIs s "java/lang/String" "COMPACT_STRINGS" "Z" (.int z) ∧ ¬ z = 0 ∧ 0 < len ∧ o + len ≤ A.slots.size ∧ len ≤ 536870912 ∧ ∀ i, i < len → ¬ 255 < cv A (o + i)
def E (a : Addr) (D : Cell) (fV fC : Field) (A : Cell) (o len : Nat) (r : Option Value) (s u : State) : Prop := Got a D fV fC A o len r s u
/-- len > 0, no char of the range above 255: a Latin-1 String of their low bytes -/
theorem law (l : Launch) (a : Addr) (D : Cell) (fV fC : Field) (b : Addr) (A : Cell) (z : Int32) (o len : Nat) : Law l yN 5 4 2 35 yB 6 none site (P a D fV fC b A z o len) (E a D fV fC A o len) [⟨a, fC.slot⟩, ⟨a, fV.slot⟩] 1 len := by
  refine Law.of_walk (plainFor_of_name (by decide +kernel)) (by decide +kernel) (by decide +kernel) (by decide) (fun _ _ h => by rw [h.1]; rfl) (fun _ U U' hal hh h => ⟨h.1, h.2.1.mv hal hh, h.2.2.1.al hal, h.2.2.2.1.al hal, h.2.2.2.2.1.mv hal hh, h.2.2.2.2.2.1.there hal hh, h.2.2.2.2.2.2⟩) (fun r U U' V V' h1 hal h2 h => Got.mv r U U' V V' h1 hal h2 h) ?_
  intro p e s m args below meth c s₁ X0 hexec hbytes hml hret hlk hnm hown hh0 W hP
  obtain ⟨rfl, hB, f1, f2, hA, s1, hz, l0, l1, l2, hp⟩ := hP
  have a31 := hA.1.2.2.2
  have c1 : Steps p.tables e below (s₁.setTop (entryFrame m #[.ref a, .ref b, .int (Int32.ofNat o), .int (Int32.ofNat len), .null] 6)) (s₁.setTop (mkF m 0 #[.val (.ref a), .val (.ref b), .val (.int (Int32.ofNat o)), .val (.int (Int32.ofNat len)), .val .null, .unset] [])) := entry rfl
  have c2 : Steps p.tables e below (s₁.setTop (entryFrame m #[.ref a, .ref b, .int (Int32.ofNat o), .int (Int32.ofNat len), .null] 6)) (s₁.setTop (mkF m 1 #[.val (.ref a), .val (.ref b), .val (.int (Int32.ofNat o)), .val (.int (Int32.ofNat len)), .val .null, .unset] [.ref a])) := c1.trans (by
    refine XS.aloadN X0.here hexec rfl (hb hbytes d0) rfl rfl ?_
    exact Steps.refl _)
  obtain ⟨T3, X3, q3, st3⟩ := X0.oinit hexec hown (wks W (objW "java/lang/String" 1)) (g := (mkF m 1 #[.val (.ref a), .val (.ref b), .val (.int (Int32.ofNat o)), .val (.int (Int32.ofNat len)), .val .null, .unset] [.ref a])) rfl (by rw [hml]; rfl) (rest := []) rfl (hb hbytes d1) (W := 0) (by show 2 * 0 + 0 ≤ _; decide) (Nat.le_of_ble_eq_true rfl) (Nat.le_of_ble_eq_true rfl)
  have hh3 := q3.trans hh0
  have c4 : Steps p.tables e below (s₁.setTop (entryFrame m #[.ref a, .ref b, .int (Int32.ofNat o), .int (Int32.ofNat len), .null] 6)) (T3.setTop (mkF m 27 #[.val (.ref a), .val (.ref b), .val (.int (Int32.ofNat o)), .val (.int (Int32.ofNat len)), .val .null, .unset] [])) := (c2.trans (st3 _ (Steps.refl _))).trans (by
    refine XS.iloadN X3.here hexec rfl (hb hbytes d4) rfl ?_
    refine XS.ifYes X3.here hexec rfl (pc0 := 5) rfl (hb hbytes d5) rfl (i0_ne_t (nz32 (by omega) l0)) (by decide) rfl ?_
    exact Steps.refl _)
  obtain ⟨T5, X5, q5, st5⟩ := X3.sget hexec hown (wk W (.fieldLink "java/lang/String" 38 "java/lang/String" "COMPACT_STRINGS" "Z")) s1 (fun _ _ h => by rw [hh3]; exact h) (g := (mkF m 27 #[.val (.ref a), .val (.ref b), .val (.int (Int32.ofNat o)), .val (.int (Int32.ofNat len)), .val .null, .unset] [])) rfl (hb hbytes d27)
  have hh5 := q5.trans hh3
  have c6 : Steps p.tables e below (s₁.setTop (entryFrame m #[.ref a, .ref b, .int (Int32.ofNat o), .int (Int32.ofNat len), .null] 6)) (T5.setTop (mkF m 30 #[.val (.ref a), .val (.ref b), .val (.int (Int32.ofNat o)), .val (.int (Int32.ofNat len)), .val .null, .unset] [.int z])) := c4.trans (st5 _ (Steps.refl _))
  have c7 : Steps p.tables e below (s₁.setTop (entryFrame m #[.ref a, .ref b, .int (Int32.ofNat o), .int (Int32.ofNat len), .null] 6)) (T5.setTop (mkF m 36 #[.val (.ref a), .val (.ref b), .val (.int (Int32.ofNat o)), .val (.int (Int32.ofNat len)), .val .null, .unset] [.int (Int32.ofNat len), .int (Int32.ofNat o), .ref b])) := c6.trans (by
    refine XS.ifNo X5.here hexec rfl (hb hbytes d30) rfl (i0_eq_f hz) ?_
    refine XS.aloadN X5.here hexec rfl (hb hbytes d33) rfl rfl ?_
    refine XS.iloadN X5.here hexec rfl (hb hbytes d34) rfl ?_
    refine XS.iloadN X5.here hexec rfl (hb hbytes d35) rfl ?_
    exact Steps.refl _)
  obtain ⟨v8, T8, X8, E8, g8⟩ := X5.callS hexec (Cmp3.law l b A o len) hown (wks W (staticW "java/lang/String" 177 Cmp3.yN)) (wk W Cmp3.tab) (W := 0) (Nat.le_of_ble_eq_true rfl) (Nat.le_of_ble_eq_true rfl) (Nat.le_refl _) (by show 0 + len ≤ len; omega) (g := (mkF m 36 #[.val (.ref a), .val (.ref b), .val (.int (Int32.ofNat o)), .val (.int (Int32.ofNat len)), .val .null, .unset] [.int (Int32.ofNat len), .int (Int32.ofNat o), .ref b])) rfl (by rw [hml]; rfl) c7 (argsL := [.ref b, .int (Int32.ofNat o), .int (Int32.ofNat len)]) (rest := []) rfl rfl (by show 2 * 0 + 0 ≤ _; decide) (hb hbytes d36) (⟨rfl, hA.mv X5.warmed.alike hh5, l1, l2, hp⟩)
  obtain ⟨e8, z8⟩ := E8
  obtain ⟨rfl, N, n1, n2, n3, n4, n5, n6⟩ := NewArr.mv _ T5 s _ _ hh5.symm (Vm.Alike.refl _) rfl e8
  rw [hh5] at z8
  have hB1 := hB.keep X8.warmed.alike (n6 _ _ hB.1)
  have hne : s.heap.size ≠ a := (Nat.ne_of_lt (Array.getElem?_eq_some_iff.mp hB.1).1).symm
  have c9 : Steps p.tables e below (s₁.setTop (entryFrame m #[.ref a, .ref b, .int (Int32.ofNat o), .int (Int32.ofNat len), .null] 6)) (T8.setTop (mkF m 39 #[.val (.ref a), .val (.ref b), .val (.int (Int32.ofNat o)), .val (.int (Int32.ofNat len)), .val .null, .unset] [.ref s.heap.size])) := g8
  have c10 : Steps p.tables e below (s₁.setTop (entryFrame m #[.ref a, .ref b, .int (Int32.ofNat o), .int (Int32.ofNat len), .null] 6)) (T8.setTop (mkF m 45 #[.val (.ref a), .val (.ref b), .val (.int (Int32.ofNat o)), .val (.int (Int32.ofNat len)), .val .null, .val (.ref s.heap.size)] [.int (Int32.ofNat N.slots.size), .ref s.heap.size, .ref a])) := by
    have hc : Steps p.tables e below (s₁.setTop (entryFrame m #[.ref a, .ref b, .int (Int32.ofNat o), .int (Int32.ofNat len), .null] 6)) (T8.setTop (mkF m 45 #[.val (.ref a), .val (.ref b), .val (.int (Int32.ofNat o)), .val (.int (Int32.ofNat len)), .val .null, .val (.ref s.heap.size)] [.int (Int32.ofNat len), .ref s.heap.size, .ref a])) := c9.trans (by
      refine XS.astore X8.here hexec rfl (hb hbytes d39) rfl rfl rfl ?_
      refine XS.aloadN X8.here hexec rfl (hb hbytes d41) rfl rfl ?_
      refine XS.aload X8.here hexec rfl (hb hbytes d42) rfl rfl ?_
      refine XS.iloadN X8.here hexec rfl (hb hbytes d44) rfl ?_
      exact Steps.refl _)
    rw [n4]; exact hc
  obtain ⟨v11, T11, X11, E11, g11⟩ := X8.callS hexec (CodL.law l s.heap.size N) hown (wks W (staticW "java/lang/String" 47 CodL.yN)) (wk W CodL.tab) (W := 1) (Nat.le_of_ble_eq_true rfl) (Nat.le_of_ble_eq_true rfl) (Nat.le_refl _) (by show 0 + len + 0 ≤ len; omega) (g := (mkF m 45 #[.val (.ref a), .val (.ref b), .val (.int (Int32.ofNat o)), .val (.int (Int32.ofNat len)), .val .null, .val (.ref s.heap.size)] [.int (Int32.ofNat N.slots.size), .ref s.heap.size, .ref a])) rfl (by rw [hml]; rfl) c10 (argsL := [.ref s.heap.size, .int (Int32.ofNat N.slots.size)]) (rest := [.ref a]) rfl rfl (by show 2 * 0 + (1 + 0) ≤ _; decide) (hb hbytes d45) (⟨rfl, n1⟩)
  obtain ⟨rfl, q11⟩ := E11
  have hB11 := hB1.mv (X8.warmed.alike.symm.trans X11.warmed.alike) q11
  have c12 : Steps p.tables e below (s₁.setTop (entryFrame m #[.ref a, .ref b, .int (Int32.ofNat o), .int (Int32.ofNat len), .null] 6)) (T11.setTop (mkF m 48 #[.val (.ref a), .val (.ref b), .val (.int (Int32.ofNat o)), .val (.int (Int32.ofNat len)), .val .null, .val (.ref s.heap.size)] [.int 0, .ref a])) := g11
  obtain ⟨T13, X13, p13, bl13, sl13, st13⟩ := X11.finit hexec hown (wk W (.fieldLink "java/lang/String" 15 "java/lang/String" "coder" "B")) (Or.inr ⟨_, (wk W (.laysFinal "java/lang/String" "java/lang/String" "coder" "B"))⟩) (Or.inl ⟨rfl, hnm⟩) f2 (Or.inl rfl) hB11 (t := .byte) (by decide +kernel) rfl (g := (mkF m 48 #[.val (.ref a), .val (.ref b), .val (.int (Int32.ofNat o)), .val (.int (Int32.ofNat len)), .val .null, .val (.ref s.heap.size)] [.int 0, .ref a])) rfl (rest := []) rfl (hb hbytes d48)
  have c14 : Steps p.tables e below (s₁.setTop (entryFrame m #[.ref a, .ref b, .int (Int32.ofNat o), .int (Int32.ofNat len), .null] 6)) (T13.setTop (mkF m 54 #[.val (.ref a), .val (.ref b), .val (.int (Int32.ofNat o)), .val (.int (Int32.ofNat len)), .val .null, .val (.ref s.heap.size)] [.ref s.heap.size, .ref a])) := (c12.trans (st13 _ (Steps.refl _))).trans (by
    refine XS.aloadN X13.here hexec rfl (hb hbytes d51) rfl rfl ?_
    refine XS.aload X13.here hexec rfl (hb hbytes d52) rfl rfl ?_
    exact Steps.refl _)
  obtain ⟨T15, X15, p15, bl15, sl15, st15⟩ := X13.finit hexec hown (wk W (.fieldLink "java/lang/String" 9 "java/lang/String" "value" "[B")) (Or.inr ⟨_, (wk W (.laysFinal "java/lang/String" "java/lang/String" "value" "[B"))⟩) (Or.inl ⟨rfl, hnm⟩) f1 (Or.inl rfl) bl13 (t := (.array .byte)) (by decide +kernel) rfl (g := (mkF m 54 #[.val (.ref a), .val (.ref b), .val (.int (Int32.ofNat o)), .val (.int (Int32.ofNat len)), .val .null, .val (.ref s.heap.size)] [.ref s.heap.size, .ref a])) rfl (rest := []) rfl (hb hbytes d54)
  have c16 : Steps p.tables e below (s₁.setTop (entryFrame m #[.ref a, .ref b, .int (Int32.ofNat o), .int (Int32.ofNat len), .null] 6)) (T15.setTop (mkF m 57 #[.val (.ref a), .val (.ref b), .val (.int (Int32.ofNat o)), .val (.int (Int32.ofNat len)), .val .null, .val (.ref s.heap.size)] [])) := c14.trans (st15 _ (Steps.refl _))
  have ap := apart (Or.inr ⟨_, (wk W (.laysFinal "java/lang/String" "java/lang/String" "value" "[B"))⟩) (Or.inr ⟨_, (wk W (.laysFinal "java/lang/String" "java/lang/String" "coder" "B"))⟩) f1 f2 (t₁ := .array .byte) (t₂ := .byte) (by decide +kernel) (by decide +kernel) (by decide)
  have al := X8.warmed.alike.symm.trans X15.warmed.alike
  have n7 : T11.heap[s.heap.size]? = some N := by rw [q11]; exact n1.1
  exact ⟨T15, none, _, _, _, X15, by simp, rfl, by omega, (fun _ => rfl), ⟨rfl, _, N, bl15, ((Same.refl D _).set _ (by simp)).set _ (by simp), sl15, (Cell.slots_setSlot_ne _ ap).trans sl13, n1.keep al (p15.other hne (p13.other hne n7)), n2, by rw [al.findClass]; exact n3, n4, n5, fun y c h1 h2 => p15.other h1 (p13.other h1 (by rw [q11]; exact n6 y c h2)), by rw [p15.2.2, p13.2.2, q11]; exact z8⟩, fun fs hl => c16.trans (X15.returnOut hexec hret (hb hbytes d57) hl)⟩
end New4
namespace New1
def yN : MethodName := ⟨"java/lang/String", "<init>", "([C)V"⟩
abbrev yB : ByteArray := jdk_42_method_3_code
theorem d0 : decode yB 0 = .ok (.aload_n 0, 1) := by decide +kernel
theorem d1 : decode yB 1 = .ok (.aload_n 1, 1) := by decide +kernel
theorem d2 : decode yB 2 = .ok (.iconst 0, 1) := by decide +kernel
theorem d3 : decode yB 3 = .ok (.aload_n 1, 1) := by decide +kernel
theorem d4 : decode yB 4 = .ok (.arraylength, 1) := by decide +kernel
theorem d5 : decode yB 5 = .ok (.aconst_null, 1) := by decide +kernel
theorem d6 : decode yB 6 = .ok (.invokespecial 27, 3) := by decide +kernel
theorem d9 : decode yB 9 = .ok (.return_, 1) := by decide +kernel
def site : List Cond := [New4.tab] ++ initW "java/lang/String" 27 New4.yN
def tab : Cond := tabOf yN yB 2 none site
def P (a : Addr) (D : Cell) (fV fC : Field) (b : Addr) (A : Cell) (z : Int32) (args : Array Value) (s : State) : Prop := args = #[.ref a, .ref b] ∧ Blank "java/lang/String" a D s ∧ Found "java/lang/String" "value" "[B" fV s ∧ Found "java/lang/String" "coder" "B" fC s ∧ Ch b A s ∧ StaticIs s "java/lang/String" "COMPACT_STRINGS" "Z" (.int z) ∧ ¬ z = 0 ∧ 0 < A.slots.size ∧ A.slots.size ≤ 536870912 ∧ ∀ i, i < A.slots.size → ¬ 255 < cv A i
def E (a : Addr) (D : Cell) (fV fC : Field) (A : Cell) (r : Option Value) (s u : State) : Prop := Got a D fV fC A 0 A.slots.size r s u
/-- new String(chars), not empty, no char above 255: a Latin-1 String of their low bytes -/
theorem law (l : Launch) (a : Addr) (D : Cell) (fV fC : Field) (b : Addr) (A : Cell) (z : Int32) : Law l yN 2 1 3 52 yB 2 none site (P a D fV fC b A z) (E a D fV fC A) [⟨a, fC.slot⟩, ⟨a, fV.slot⟩] 1 A.slots.size := by
  refine Law.of_walk (plainFor_of_name (by decide +kernel)) (by decide +kernel) (by decide +kernel) (by decide) (fun _ _ h => by rw [h.1]; rfl) (fun _ U U' hal hh h => ⟨h.1, h.2.1.mv hal hh, h.2.2.1.al hal, h.2.2.2.1.al hal, h.2.2.2.2.1.mv hal hh, h.2.2.2.2.2.1.there hal hh, h.2.2.2.2.2.2⟩) (fun r U U' V V' h1 hal h2 h => Got.mv r U U' V V' h1 hal h2 h) ?_
  intro p e s m args below meth c s₁ X0 hexec hbytes hml hret hlk hnm hown hh0 W hP
  obtain ⟨rfl, hB, f1, f2, hA, s1, hz, l0, l2, hp⟩ := hP
  have c1 : Steps p.tables e below (s₁.setTop (entryFrame m #[.ref a, .ref b] 2)) (s₁.setTop (mkF m 0 #[.val (.ref a), .val (.ref b)] [])) := entry rfl
  have c2 : Steps p.tables e below (s₁.setTop (entryFrame m #[.ref a, .ref b] 2)) (s₁.setTop (mkF m 6 #[.val (.ref a), .val (.ref b)] [.null, .int (Int32.ofNat A.slots.size), .int 0, .ref b, .ref a])) := c1.trans (by
    refine XS.aloadN X0.here hexec rfl (hb hbytes d0) rfl rfl ?_
    refine XS.aloadN X0.here hexec rfl (hb hbytes d1) rfl rfl ?_
    refine iconstV X0.here hexec rfl 0 (hb hbytes d2) (by decide) ?_
    refine XS.aloadN X0.here hexec rfl (hb hbytes d3) rfl rfl ?_
    refine X0.alen hexec (hA.1.mv X0.warmed.alike hh0) rfl rfl (hb hbytes d4) ?_
    refine XS.aconstNull X0.here hexec rfl (hb hbytes d5) ?_
    exact Steps.refl _)
  obtain ⟨v3, T3, X3, E3, g3⟩ := X0.callN hexec (New4.law l a D fV fC b A z 0 A.slots.size) rfl hown (wks W (initW "java/lang/String" 27 New4.yN)) (W New4.tab (by simp only [site, List.mem_cons, List.mem_append, true_or, or_true])) (W := 0) (Nat.le_of_ble_eq_true rfl) (Nat.le_of_ble_eq_true rfl) (Nat.le_refl _) (by show 0 + A.slots.size ≤ A.slots.size; omega) (g := (mkF m 6 #[.val (.ref a), .val (.ref b)] [.null, .int (Int32.ofNat A.slots.size), .int (Int32.ofNat 0), .ref b, .ref a])) rfl (by rw [hml]; rfl) c2 (argsL := [.ref b, .int (Int32.ofNat 0), .int (Int32.ofNat A.slots.size), .null]) (rest := []) rfl rfl (by show 2 * 0 + 0 ≤ _; decide) (hb hbytes d6) (⟨rfl, hB.mv X0.warmed.alike hh0, f1.al X0.warmed.alike, f2.al X0.warmed.alike, hA.mv X0.warmed.alike hh0, s1.there X0.warmed.alike hh0, hz, l0, by omega, l2, fun i hi => by rw [Nat.zero_add]; exact hp i hi⟩)
  have e0 := Got.mv _ s₁ s _ _ hh0.symm (Vm.Alike.refl _) rfl E3
  obtain rfl := e0.1
  have c4 : Steps p.tables e below (s₁.setTop (entryFrame m #[.ref a, .ref b] 2)) (T3.setTop (mkF m 9 #[.val (.ref a), .val (.ref b)] [])) := g3
  exact ⟨T3, none, _, _, _, X3, by simp, rfl, by omega, (fun _ => rfl), e0, fun fs hl => c4.trans (X3.returnOut hexec hret (hb hbytes d9) hl)⟩
theorem pays {l : Launch} {R : Room} {p : Program} {e : Env} {below : List Frame} {s : State} {sargs : Array Value} {len W : Nat} (a : Addr) (D : Cell) (fV fC : Field) (b : Addr) (A : Cell) (z : Int32) (htab : tab.before sargs s = true) (hfr : 4 ≤ R.frames) (hlo : W + 65 ≤ R.locals) :
    Back l R p e below s sargs yN len W (fun A₁ a₁ => A₁.cells + 1 ≤ R.cells ∧ A₁.slots + A.slots.size ≤ R.slots ∧ P a D fV fC b A z a₁ A₁.U) (fun A₁ _ v₁ B₁ => E a D fV fC A v₁ A₁.U B₁.U ∧ B₁.locs = A₁.locs ++ [⟨a, fC.slot⟩, ⟨a, fV.slot⟩] ∧ B₁.cells = A₁.cells + 1 ∧ B₁.slots = A₁.slots + A.slots.size) :=
  (law l a D fV fC b A z).pays htab hfr (by omega)
end New1
/-- the byte, read back as charAt reads it, is the char -/
theorem lo8_mask {x : Int32} (h0 : ¬ x < 0) (h1 : ¬ 255 < x) : lo8 x &&& 255 = x := by
  have t : ∀ k : Fin 256, lo8 (Int32.ofNat k.val) &&& 255 = Int32.ofNat k.val := by decide +kernel
  rw [Int32.lt_iff_toInt_lt] at h0 h1
  have e0 : (0 : Int32).toInt = 0 := rfl
  have e1 : (255 : Int32).toInt = 255 := rfl
  obtain ⟨k, hk⟩ : ∃ k : Nat, x.toInt = k := ⟨x.toInt.toNat, by omega⟩
  have hx : x = Int32.ofNat k := Int32.toInt_inj.mp (by rw [hk, Int32.toInt_ofNat_small (by omega)])
  rw [hx]
  exact t ⟨k, by omega⟩
end StrChars
namespace StrChars.Road
open Jvm Sem ClassFile Op Lib Jvm.Stand Jvm.Free Jvm.Free.XT
open Jvm.Lib.Cold (StaticIs)
abbrev ST : String := "java/lang/String"
/-- every table word that New1's law asks, flat -/
abbrev words : List Jvm.Cond := [.code New1.yN New1.yB 2 none, .initialized ST, .methodLink ST 27 New4.yN, .instanceMethod New4.yN,
  .code New4.yN New4.yB 6 none, .fieldLink ST 38 ST "COMPACT_STRINGS" "Z", .laysFinal ST ST "value" "[B", .fieldLink ST 9 ST "value" "[B", .laysFinal ST ST "coder" "B", .fieldLink ST 15 ST "coder" "B",
  .methodLink ST 1 Lib.objectInit, .instanceMethod Lib.objectInit, .code Lib.objectInit ⟨#[0xb1]⟩ 1 none, .methodLink ST 177 Cmp3.yN, .static Cmp3.yN, .methodLink ST 47 CodL.yN, .static CodL.yN,
  .code Cmp3.yN Cmp3.yB 6 (some (.array .byte)), .initialized U16, .arrayClass .byte, .methodLink U16 115 Cmp5.yN, .static Cmp5.yN, .code Cmp5.yN Cmp5.yB 7 (some .int), .code CodL.yN CodL.yB 2 (some .byte)]
theorem tab_of {a : Array Value} {s : State} (h : ∀ w ∈ words, w.before a s = true) : New1.tab.before a s = true := by
  have h5 : Cmp5.tab.before a s = true := unparts (wk h (.code Cmp5.yN Cmp5.yB 7 (some .int))) (wks h (.initialized Cmp5.yN.cls :: Cmp5.site))
  have hc : CodL.tab.before a s = true := unparts (wk h (.code CodL.yN CodL.yB 2 (some .byte))) (wks h (.initialized CodL.yN.cls :: CodL.site))
  have q5 : ∀ w ∈ Cmp5.tab :: words, w.before a s = true := fun w hw => (List.mem_cons.mp hw).elim (fun e => e ▸ h5) (h w)
  have h3 : Cmp3.tab.before a s = true := unparts (wk q5 (.code Cmp3.yN Cmp3.yB 6 (some (.array .byte)))) (wks q5 (.initialized Cmp3.yN.cls :: Cmp3.site))
  have q3 : ∀ w ∈ Cmp3.tab :: CodL.tab :: words, w.before a s = true := fun w hw => (List.mem_cons.mp hw).elim (fun e => e ▸ h3) fun hw => (List.mem_cons.mp hw).elim (fun e => e ▸ hc) (h w)
  have h4 : New4.tab.before a s = true := unparts (wk q3 (.code New4.yN New4.yB 6 none)) (wks q3 (.initialized New4.yN.cls :: New4.site))
  have q4 : ∀ w ∈ New4.tab :: words, w.before a s = true := fun w hw => (List.mem_cons.mp hw).elim (fun e => e ▸ h4) (h w)
  exact unparts (wk q4 (.code New1.yN New1.yB 2 none)) (wks q4 (.initialized New1.yN.cls :: New1.site))
/-- the words ride from the start Z to the walk's own state -/
theorem moved {Z s : State} {a0 args : Array Value} (hZ : Z.Warmed39 s.vm) (hw : ∀ d ∈ words, d.before a0 Z = true) : ∀ d ∈ words, d.before args s = true := fun d hd => by
  have q := hw d hd
  have t : ∀ d ∈ words, d = .arrayClass .byte ∨ (d.onTables && d.keepsFace) = true := by decide +kernel
  rcases t d hd with rfl | t
  · exact RoadKit.mvA hZ q
  · exact RoadKit.mv hZ q t
/-- WHAT COMES BACK, over the tables of the start Z: h the heap at the call, h' behind it -/
def Q (Z : State) (x : Addr) (A : Cell) (h : Heap) (v : Option Value) (h' : Heap) (L : List Loc) : Prop := v = none ∧ (∀ y ∈ L, y.base = x) ∧ RoadKit.Keep h h' [x] ∧ h'.size = h.size + 1 ∧ RoadKit.Exa Z h' x ST ∧ RoadKit.Fld Z h' x ST "value" "[B" (.ref h.size) ∧ RoadKit.Fld Z h' x ST "coder" "B" (.int 0) ∧
  (∃ V : Cell, RoadKit.Arr Z h' h.size V .byte ∧ V.vm = .none ∧ Z.vm.findClass "[B" = some V.cls ∧ V.slots.size = A.slots.size ∧ ∀ j, j < A.slots.size → V.slots[j]? = some (.int (lo8 (cv A j)))) ∧
  ∀ (O n d : String) (w : Value), RoadKit.Fld Z h x O n d w → RoadKit.slotOf Z O n d ≠ RoadKit.slotOf Z ST "value" "[B" → RoadKit.slotOf Z O n d ≠ RoadKit.slotOf Z ST "coder" "B" → RoadKit.Fld Z h' x O n d w
/-- **new String(chars) AT A CALL, IN THE ROAD'S FORM**: for specialBack behind newO: x the fresh String, b the char[] with the cell A -/
theorem back {p : Program} {l : Launch} {e : Env} {R : Room} {s : State} {args : Array Value} {below : List Frame} {len W : Nat} {Z : State} {a0 : Array Value} {h : Heap} (hZ : Z.Warmed39 s.vm) (hw : ∀ d ∈ words, d.before a0 Z = true) {kI : Nat} (wi : (Jvm.Cond.instantiable ST kI).before a0 Z = true)
    {x b : Addr} {A : Cell} {z : Int32} {v0 c0 : Value} (E : RoadKit.Exa Z h x ST) (V : RoadKit.Fld Z h x ST "value" "[B" v0) (C : RoadKit.Fld Z h x ST "coder" "B" c0) (K : RoadKit.Arr Z h b A .char) (hty : Typed .char A) (S : RoadKit.Sta Z h ST "COMPACT_STRINGS" "Z" (.int z)) (hz : ¬ z = 0)
    (l0 : 0 < A.slots.size) (l2 : A.slots.size ≤ 536870912) (hp : ∀ i, i < A.slots.size → ¬ 255 < cv A i) (hfr : 4 ≤ R.frames) (hlo : W + 65 ≤ R.locals) :
    Back l R p e below s args New1.yN len W (fun P a => a = #[.ref x, .ref b] ∧ P.U.heap = h ∧ P.cells + 1 ≤ R.cells ∧ P.slots + A.slots.size ≤ R.slots)
      (fun P _ v B => ∃ L, Q Z x A h v B.U.heap L ∧ B.locs = P.locs ++ L ∧ B.cells = P.cells + 1 ∧ B.slots = P.slots + A.slots.size) := by
  intro m meth c P g ig mk a X hg hsize hdg hW hn hp'
  obtain ⟨rfl, rfl, r1, r2⟩ := hp'
  have al : Z.vm.Alike P.U.vm := hZ.alike.trans X.warmed.alike
  obtain ⟨D, cfV, kV, iV, fV, hD, gV, stV, knV, obV, asV, slV⟩ := id V
  obtain ⟨D', cfC, kC, iC, fC, hD', gC, stC, -, -, asC, slC⟩ := id C
  cases hD.symm.trans hD'
  obtain ⟨D2, kD, e1, e2, e3, e4, e5⟩ := id E
  cases hD.symm.trans e1
  obtain ⟨c2, k2, i1, i2, i3, -⟩ := Cond.instantiable_spec wi
  cases e2.symm.trans i1
  cases e3.symm.trans i2
  obtain ⟨kU, u1, u2⟩ := al.2.2 _ _ e3
  have hB : Blank ST x D P.U := ⟨hD, ⟨knV, fun q hq => by rw [hq] at obV; cases obV⟩, by rw [al.findClass]; exact e2, kU, u1, by rw [u2]; exact i3, by rw [u2]; exact e5 i3⟩
  have F1 : Found ST "value" "[B" fV P.U := ⟨SBG.found_only al ⟨cfV, kV, iV, gV⟩, stV⟩
  have F2 : Found ST "coder" "B" fC P.U := ⟨SBG.found_only al ⟨cfC, kC, iC, gC⟩, stC⟩
  have hA : Ch b A P.U := ⟨⟨K.1, State.isArrayOf_alike al K.2.1, K.2.2, by omega⟩, hty⟩
  have hS : StaticIs P.U ST "COMPACT_STRINGS" "Z" (.int z) := by
    obtain ⟨cfS, iS, kS, fS, st, cS, t1, t2, t3, t4, t5, t6, t7⟩ := S
    exact StaticIs.there (s := { Z with heap := P.U.heap }) ⟨cfS, iS, kS, fS, st, cS, t1, t2, t3, t4, t5, (fun q => by rw [q] at t6; cases t6), t7⟩ al rfl
  obtain ⟨v, B, X', ⟨⟨hv, E', V', q1, q2, q3, q4, q5, q6, q7, q8, q9, q10, q11⟩, hl, hc, hs⟩, st⟩ := New1.pays x D fV fC b A z (tab_of (moved hZ hw)) hfr hlo m meth c P g ig mk _ X hg hsize hdg hW hn ⟨r1, r2, rfl, hB, F1, F2, hA, hS, hz, l0, l2, hp⟩
  have al' : Z.vm.Alike B.U.vm := hZ.alike.trans X'.warmed.alike
  have hsz : E'.slots.size = D.slots.size := by
    obtain ⟨-, -, -, kB, w1, w2, w3⟩ := q1
    obtain ⟨kB', y1, y2⟩ := al'.2.2 _ _ e3
    rw [q2.2.1] at w1
    cases w1.symm.trans y1
    rw [w3, e5 i3, y2]
  refine ⟨v, B, X', ⟨_, ⟨hv, ?_, ⟨by omega, fun y cy hy hn' => q10 y cy (by simpa using hn') hy, fun y cy hy => ?_⟩, q11, ⟨E', _, q1.1, by rw [q2.2.1]; exact e2, by rw [q2.2.1]; exact e3, by rw [q2.1]; exact obV, fun _ => by rw [hsz]; exact e5 i3⟩,
    ⟨E', cfV, kV, iV, fV, q1.1, gV, stV, by rw [q2.1]; exact knV, by rw [q2.1]; exact obV, by rw [q2.2.1]; exact asV, q3⟩, ⟨E', cfC, kC, iC, fC, q1.1, gC, stC, by rw [q2.1]; exact knV, by rw [q2.1]; exact obV, by rw [q2.2.1]; exact asC, q4⟩,
    ⟨V', ⟨q5.1, State.isArrayOf_alike al'.symm q5.2.1, q5.2.2.1⟩, q6, by rw [← al'.findClass]; exact q7, q8, fun j hj => by have := q9 j hj; rwa [Nat.zero_add] at this⟩, fun O n d w F n1 n2 => ?_⟩, hl, hc, hs⟩, st⟩
  · intro y hy
    simp only [List.mem_cons, List.not_mem_nil, or_false] at hy
    rcases hy with rfl | rfl <;> rfl
  · by_cases q : y = x
    · subst q
      cases hD.symm.trans hy
      exact ⟨E', q1.1, q2.2.1, q2.1, hsz⟩
    · exact ⟨cy, q10 y cy q hy, rfl, rfl, rfl⟩
  · obtain ⟨D3, cf, k, i, f, g1, g2, g3, g4, g5, g6, g7⟩ := F
    cases hD.symm.trans g1
    simp only [RoadKit.slotOf, g2, gV, gC, Option.map_some, Option.getD_some] at n1 n2
    exact ⟨E', cf, k, i, f, q1.1, g2, g3, by rw [q2.1]; exact g4, by rw [q2.1]; exact g5, by rw [q2.2.1]; exact g6, by rw [q2.2.2 f.slot (by simp [n1, n2])]; exact g7⟩
end StrChars.Road
namespace StrChars.Road
open Jvm Sem ClassFile Op Lib Jvm.Stand Jvm.Free Jvm.Free.XT
/-- WHAT COMES BACK, the byte[] as a list of values -/
def QA (Z : State) (x : Addr) (zn : Int32) (cs : List Int32) (h : Heap) (v : Option Value) (h' : Heap) (L : List Loc) : Prop := v = none ∧ (∀ y ∈ L, y.base = x) ∧ RoadKit.Keep h h' [x] ∧ h'.size = h.size + 1 ∧ RoadKit.Exa Z h' x ST ∧ RoadKit.Fld Z h' x ST "value" "[B" (.ref h.size) ∧ RoadKit.Fld Z h' x ST "coder" "B" (.int 0) ∧
  (∃ kb, Z.vm.findClass "[B" = some kb ∧ RoadKit.Arv Z h' h.size kb .byte zn (cs.map fun c => .int (lo8 c)) (.int 0)) ∧
  ∀ (O n d : String) (w : Value), RoadKit.Fld Z h x O n d w → RoadKit.slotOf Z O n d ≠ RoadKit.slotOf Z ST "value" "[B" → RoadKit.slotOf Z O n d ≠ RoadKit.slotOf Z ST "coder" "B" → RoadKit.Fld Z h' x O n d w
/-- **new String(chars) AT A CALL, THE ARRAYS AS LISTS**: the char[] at b holds cs, not empty, no char above 255 -/
theorem backArv {p : Program} {l : Launch} {e : Env} {R : Room} {s : State} {args : Array Value} {below : List Frame} {len W : Nat} {Z : State} {a0 : Array Value} {h : Heap} (hZ : Z.Warmed39 s.vm) (hw : ∀ d ∈ words, d.before a0 Z = true) {kI : Nat} (wi : (Jvm.Cond.instantiable ST kI).before a0 Z = true)
    {x b : Addr} {k : ClassId} {zn z : Int32} {cs : List Int32} {dv v0 c0 : Value} (E : RoadKit.Exa Z h x ST) (V : RoadKit.Fld Z h x ST "value" "[B" v0) (C : RoadKit.Fld Z h x ST "coder" "B" c0) (K : RoadKit.Arv Z h b k .char zn (cs.map Value.int) dv) (S : RoadKit.Sta Z h ST "COMPACT_STRINGS" "Z" (.int z)) (hz : ¬ z = 0)
    (hlen : zn.toNatClampNeg = cs.length) (h0 : 0 < cs.length) (hbig : cs.length ≤ 536870912) (hall : ∀ c ∈ cs, ¬ 255 < c) (hfr : 4 ≤ R.frames) (hlo : W + 65 ≤ R.locals) :
    Back l R p e below s args New1.yN len W (fun P a => a = #[.ref x, .ref b] ∧ P.U.heap = h ∧ P.cells + 1 ≤ R.cells ∧ P.slots + cs.length ≤ R.slots)
      (fun P _ v B => ∃ L, QA Z x zn cs h v B.U.heap L ∧ B.locs = P.locs ++ L ∧ B.cells = P.cells + 1 ∧ B.slots = P.slots + cs.length) := by
  obtain ⟨A, K1, K2, K3, K4, K5, K6⟩ := K
  have e : A.slots.size = cs.length := K3.trans hlen
  have hat : ∀ (i : Nat) (hi : i < cs.length), A.slots[i]? = some (.int cs[i]) := fun i hi => by rw [K5 i (by omega)]; simp [List.getD_eq_getElem?_getD, hi]
  have hcv : ∀ (i : Nat) (hi : i < cs.length), cv A i = cs[i] := fun i hi => by unfold cv; rw [hat i hi]
  have hty : Typed .char A := fun i v hv => by
    have hi : i < A.slots.size := (Array.getElem?_eq_some_iff.mp hv).1
    have q := K5 i hi
    rw [hv] at q
    rw [Option.some.inj q]
    exact K6 i hi
  refine Back.mono (back hZ hw wi E V C K1 hty S hz (by omega) (by omega) (fun i hi => by rw [hcv i (by omega)]; exact hall _ (List.getElem_mem _)) hfr hlo) (fun P a hp => ⟨hp.1, hp.2.1, hp.2.2.1, by rw [e]; exact hp.2.2.2⟩) (fun P a v B hp hq => ?_)
  obtain ⟨L, ⟨q1, q2, q3, q4, q5, q6, q7, ⟨V', v1, v2, v3, v4, v5⟩, q9⟩, hl, hc, hs⟩ := hq
  refine ⟨L, ⟨q1, q2, q3, q4, q5, q6, q7, ⟨V'.cls, v3, V', v1, rfl, by rw [v4, e, hlen], K4, fun i hi => ?_, fun i hi => ?_⟩, q9⟩, hl, hc, by rw [hs, e]⟩
  · have hi' : i < cs.length := by omega
    rw [v5 i (by omega), hcv i hi']; simp [List.getD_eq_getElem?_getD, hi']
  · have hi' : i < cs.length := by omega
    simp only [List.getD_eq_getElem?_getD, List.getElem?_map, List.getElem?_eq_getElem hi', Option.map_some, Option.getD_some]
    exact fits_lo8 _
end StrChars.Road
namespace StrChars.Road
open Jvm Sem ClassFile Op Lib Jvm.Stand Jvm.Free Jvm.Free.XT
/-- WHAT COMES BACK, in the writer's own shape -/
def QV (Z : State) (x : Addr) (N : Int32) (bs : List Int32) (h : Heap) (n0 : Nat) (v : Option Value) (h' : Heap) (L : List Loc) : Prop := v = none ∧ RoadKit.Fr n0 L ∧ RoadKit.Keep h h' [x] ∧ RoadKit.Exa Z h' x ST ∧ RoadKit.Fld Z h' x ST "coder" "B" (.int 0) ∧
  ∃ (t : Addr) (kb : ClassId), n0 ≤ t ∧ h.size ≤ t ∧ ¬ t = x ∧ RoadKit.Fld Z h' x ST "value" "[B" (.ref t) ∧ RoadKit.Arv Z h' t kb .byte N (bs.map Value.int) (.int 0)
/-- **new String(chars) AT A CALL, FOR THE WRITER**: a char[] of n known ints, each 0 to 255 -/
theorem backV {p : Program} {l : Launch} {e : Env} {R : Room} {s : State} {args : Array Value} {below : List Frame} {len W : Nat} {Z : State} {a0 : Array Value} {h : Heap} (hZ : Z.Warmed39 s.vm) (hw : ∀ d ∈ words, d.before a0 Z = true) {kI : Nat} (wi : (Jvm.Cond.instantiable ST kI).before a0 Z = true)
    {x b : Addr} {kC : ClassId} {cs bs : List Int32} {d v0 c0 : Value} {z N : Int32} {n n0 : Nat} (hx0 : n0 ≤ x) (hh0 : n0 ≤ h.size) (E : RoadKit.Exa Z h x ST) (V : RoadKit.Fld Z h x ST "value" "[B" v0) (C : RoadKit.Fld Z h x ST "coder" "B" c0) (K : RoadKit.Arv Z h b kC .char N (cs.map Value.int) d) (S : RoadKit.Sta Z h ST "COMPACT_STRINGS" "Z" (.int z)) (hz : ¬ z = 0)
    (hn : cs.length = n) (hN : N = Int32.ofNat n) (l0 : 0 < n) (l2 : n ≤ 4000) (hp : ∀ c ∈ cs, ¬ c < 0 ∧ ¬ (255 : Int32) < c) (hb : bs = cs.map (fun c => c.toInt8.toInt32)) (hfr : 4 ≤ R.frames) (hlo : W + 65 ≤ R.locals) :
    Back l R p e below s args (⟨"java/lang/String", "<init>", "([C)V"⟩ : MethodName) len W (fun P a => a = #[.ref x, .ref b] ∧ P.U.heap = h ∧ P.cells + 1 ≤ R.cells ∧ P.slots + n ≤ R.slots)
      (fun P _ v B => ∃ L, QV Z x N bs h n0 v B.U.heap L ∧ B.locs = P.locs ++ L ∧ B.cells = P.cells + 1 ∧ B.slots = P.slots + n) := by
  subst hn hN hb
  refine Back.mono (backArv hZ hw wi E V C K S hz (n32 (by omega)) l0 (by omega) (fun c hc => (hp c hc).2) hfr hlo) (fun P a hp => hp) (fun P a v B hp hq => ?_)
  obtain ⟨L, ⟨q1, q2, q3, q4, q5, q6, q7, ⟨kb, v1, v2⟩, q9⟩, hl, hc, hs⟩ := hq
  exact ⟨L, ⟨q1, fun y hy => by rw [q2 y hy]; exact hx0, q3, q5, q7, h.size, kb, hh0, Nat.le_refl _, Nat.ne_of_gt E.lt, q6, by rw [List.map_map]; exact v2⟩, hl, hc, hs⟩
end StrChars.Road
namespace StrChars
open Jvm Sem ClassFile Op Lib Jvm.Stand Jvm.Free.XT Jvm.Free.ALB Jvm.Free.JM Jvm.Free
open Jvm.Lib.Cold (StaticIs)
def hi8 (x : Int32) : Int32 := lo8 (x >>> ((8 : Int32) &&& 31))
/-- what StringUTF16.getChar makes of two bytes -/
def pairCh (u v : Int32) : Int32 := (((u &&& 255) <<< ((0 : Int32) &&& 31)) ||| ((v &&& 255) <<< ((8 : Int32) &&& 31))).toUInt32.toUInt16.toUInt32.toInt32
theorem shr0 (c : Int32) : c >>> ((0 : Int32) &&& 31) = c := by
  have e : ((0 : Int32) &&& 31) = 0 := by decide
  rw [e]
  apply Int32.toBitVec_inj.mp
  rw [Int32.toBitVec_shiftRight]
  have e1 : ((0 : Int32).toBitVec.smod 32) = 0#32 := by decide
  rw [e1, BitVec.sshiftRight_eq']
  exact BitVec.sshiftRight_zero
theorem lo8_and (x : Int32) : (lo8 x &&& 255).toBitVec.toNat = x.toBitVec.toNat % 256 := by
  have h : (lo8 x).toBitVec = (x.toBitVec.signExtend 8).signExtend 32 := by rw [lo8, Int8.toBitVec_toInt32, Int32.toBitVec_toInt8]
  rw [Int32.toBitVec_and, BitVec.toNat_and, h]
  have e : ((x.toBitVec.signExtend 8).signExtend 32).toNat % 256 = x.toBitVec.toNat % 256 := by
    rw [BitVec.toNat_signExtend]
    have hlt := x.toBitVec.isLt
    simp only [BitVec.toNat_setWidth, BitVec.toNat_signExtend]
    split <;> split <;> omega
  rw [← e]
  exact Nat.and_two_pow_sub_one_eq_mod _ 8
theorem pair_says {c : Int32} (h0 : ¬ c < 0) (h1 : ¬ 65535 < c) : pairCh (lo8 c) (hi8 c) = c := by
  rw [Int32.lt_iff_toInt_lt] at h0 h1
  have e0 : (0 : Int32).toInt = 0 := rfl
  have e1 : (65535 : Int32).toInt = 65535 := rfl
  have hc : c.toInt = c.toBitVec.toNat := by
    have := c.toBitVec.isLt
    have e : c.toInt = c.toBitVec.toInt := rfl
    rw [e] at h0 h1
    rw [e]
    rw [BitVec.toInt_eq_toNat_cond] at h0 h1 ⊢
    split at h0 <;> split <;> omega
  have hn : c.toBitVec.toNat < 65536 := by omega
  have a1 := lo8_and c
  have a2 : (hi8 c &&& 255).toBitVec.toNat = c.toBitVec.toNat / 256 := by
    rw [hi8, lo8_and]
    have e : ((8 : Int32) &&& 31) = 8 := by decide
    rw [e, Int32.toBitVec_shiftRight]
    have e2 : ((8 : Int32).toBitVec.smod 32) = 8#32 := by decide
    rw [e2, BitVec.sshiftRight_eq', BitVec.toNat_sshiftRight_of_msb_false (by rw [BitVec.msb_eq_false_iff_two_mul_lt]; omega)]
    show c.toBitVec.toNat >>> 8 % 256 = _
    rw [Nat.shiftRight_eq_div_pow]
    omega
  unfold pairCh
  apply Int32.toBitVec_inj.mp
  apply BitVec.eq_of_toNat_eq
  have f0 : ((0 : Int32) &&& 31) = 0 := by decide
  have f8 : ((8 : Int32) &&& 31) = 8 := by decide
  rw [f0, f8]
  have g : (((lo8 c &&& 255) <<< (0 : Int32)) ||| ((hi8 c &&& 255) <<< (8 : Int32))).toBitVec.toNat = c.toBitVec.toNat := by
    rw [Int32.toBitVec_or, Int32.toBitVec_shiftLeft, Int32.toBitVec_shiftLeft]
    have s0 : ((0 : Int32).toBitVec.smod 32) = 0#32 := by decide
    have s8 : ((8 : Int32).toBitVec.smod 32) = 8#32 := by decide
    rw [s0, s8, BitVec.toNat_or]
    simp only [BitVec.shiftLeft_eq', BitVec.toNat_shiftLeft, a1, a2]
    show (c.toBitVec.toNat % 256) <<< 0 % 2 ^ 32 ||| (c.toBitVec.toNat / 256) <<< 8 % 2 ^ 32 = _
    rw [Nat.shiftLeft_zero, Nat.mod_eq_of_lt (show c.toBitVec.toNat % 256 < 2 ^ 32 by omega), Nat.mod_eq_of_lt (show (c.toBitVec.toNat / 256) <<< 8 < 2 ^ 32 by rw [Nat.shiftLeft_eq]; omega), Nat.or_comm, ← Nat.shiftLeft_add_eq_or_of_lt (by omega), Nat.shiftLeft_eq]
    omega
  show BitVec.toNat (((((lo8 c &&& 255) <<< (0 : Int32)) ||| ((hi8 c &&& 255) <<< (8 : Int32))).toBitVec.setWidth 16).setWidth 32) = _
  rw [BitVec.toNat_setWidth, BitVec.toNat_setWidth, g]
  omega
end StrChars
namespace StrChars
open Jvm Sem ClassFile Op Lib Jvm.Stand Jvm.Free.XT Jvm.Free.ALB Jvm.Free.JM Jvm.Free
open Jvm.Lib.Cold (StaticIs)
theorem shr1 {n : Nat} (h : 2 * n < 2 ^ 31) : Int32.ofNat (2 * n) >>> ((1 : Int32) &&& 31) = Int32.ofNat n := by
  have e : ((1 : Int32) &&& 31) = 1 := by decide
  rw [e]
  apply Int32.toBitVec_inj.mp
  rw [Int32.toBitVec_shiftRight]
  have e1 : ((1 : Int32).toBitVec.smod 32) = 1#32 := by decide
  have hm : (BitVec.ofNat 32 (2 * n)).toNat = 2 * n := by rw [BitVec.toNat_ofNat, Nat.mod_eq_of_lt (by omega)]
  rw [e1, BitVec.sshiftRight_eq']
  apply BitVec.eq_of_toNat_eq
  show ((BitVec.ofNat 32 (2 * n)).sshiftRight 1).toNat = (BitVec.ofNat 32 n).toNat
  rw [BitVec.toNat_sshiftRight_of_msb_false (by rw [BitVec.msb_eq_false_iff_two_mul_lt, hm]; omega), hm, BitVec.toNat_ofNat, Nat.shiftRight_eq_div_pow]
  omega
/-- charAt's cast of a byte read back -/
def chr8 (u : Int32) : Int32 := (u &&& 255).toUInt32.toUInt16.toUInt32.toInt32
theorem chr8_lo8 {c : Int32} (h0 : ¬ c < 0) (h1 : ¬ 255 < c) : chr8 (lo8 c) = c := by
  have t : ∀ k : Fin 256, (Int32.ofNat k.val).toUInt32.toUInt16.toUInt32.toInt32 = Int32.ofNat k.val := by decide +kernel
  unfold chr8
  rw [lo8_mask h0 h1]
  rw [Int32.lt_iff_toInt_lt] at h0 h1
  have e0 : (0 : Int32).toInt = 0 := rfl
  have e1 : (255 : Int32).toInt = 255 := rfl
  obtain ⟨k, hk⟩ : ∃ k : Nat, c.toInt = k := ⟨c.toInt.toNat, by omega⟩
  have hx : c = Int32.ofNat k := Int32.toInt_inj.mp (by rw [hk, Int32.toInt_ofNat_small (by omega)])
  rw [hx]
  exact t ⟨k, by omega⟩
theorem narrow_ch {c : Int32} (h0 : ¬ c < 0) (h1 : ¬ 65535 < c) : narrow .char (.int c) = .int c := by
  have q : narrow .char (.int (pairCh (lo8 c) (hi8 c))) = .int (pairCh (lo8 c) (hi8 c)) := narrow_c _
  rwa [pair_says h0 h1] at q
/-- the array's cell V codes the n chars f 0 .. f (n - 1) by the coder cd, as the JDK does: coder 1 just where some char is above 255 -/
def Cod (cd : Int32) (n : Nat) (f : Nat → Int32) (V : Cell) : Prop := (cd = 0 ∧ V.slots.size = n ∧ ∀ j, j < n → V.slots[j]? = some (.int (lo8 (f j))) ∧ ¬ 255 < f j) ∨ (cd = 1 ∧ V.slots.size = 2 * n ∧ (∀ j, j < n → V.slots[2 * j]? = some (.int (lo8 (f j))) ∧ V.slots[2 * j + 1]? = some (.int (hi8 (f j)))) ∧ ∃ j, j < n ∧ 255 < f j)
theorem Cod.cd {cd : Int32} {n : Nat} {f : Nat → Int32} {V : Cell} (h : Cod cd n f V) : cd = 0 ∨ cd = 1 := h.imp (fun q => q.1) fun q => q.1
theorem Cod.len {cd : Int32} {n : Nat} {f : Nat → Int32} {V : Cell} (h : Cod cd n f V) (hs : V.slots.size < 2 ^ 31) : Int32.ofNat V.slots.size >>> (cd &&& 31) = Int32.ofNat n := by
  rcases h with ⟨rfl, h, -⟩ | ⟨rfl, h, -⟩
  · rw [shr0, h]
  · rw [h, shr1 (by omega)]
/-- **x is a String of the n chars f 0 .. f (n - 1)**, Latin-1 or UTF-16; its array at t has the cell V -/
def Txt (x t : Addr) (V : Cell) (cd : Int32) (n : Nat) (f : Nat → Int32) (U : State) : Prop := Exact "java/lang/String" x U ∧ Has x "java/lang/String" "value" "[B" (.ref t) U ∧ Has x "java/lang/String" "coder" "B" (.int cd) U ∧ XT.Arr .byte t V U ∧ Cod cd n f V ∧ ∀ j, j < n → ¬ f j < 0 ∧ ¬ 65535 < f j
theorem Txt.mv {x t : Addr} {V : Cell} {cd : Int32} {n : Nat} {f : Nat → Int32} {U U' : State} (h : Txt x t V cd n f U) (hal : U.vm.Alike U'.vm) (hh : U'.heap = U.heap) : Txt x t V cd n f U' := ⟨h.1.mv hal hh, h.2.1.mv hal hh, h.2.2.1.mv hal hh, h.2.2.2.1.mv hal hh, h.2.2.2.2⟩
namespace Cdr
def yN : MethodName := ⟨"java/lang/String", "coder", "()B"⟩
abbrev yB : ByteArray := jdk_42_method_152_code
theorem d0 : decode yB 0 = .ok (.getstatic 38, 3) := by decide +kernel
theorem d3 : decode yB 3 = .ok (.ifCond (.eq) 10, 3) := by decide +kernel
theorem d6 : decode yB 6 = .ok (.aload_n 0, 1) := by decide +kernel
theorem d7 : decode yB 7 = .ok (.getfield 15, 3) := by decide +kernel
theorem d10 : decode yB 10 = .ok (.goto 4, 3) := by decide +kernel
theorem d14 : decode yB 14 = .ok (.ireturn, 1) := by decide +kernel
def site : List Cond := [.fieldLink "java/lang/String" 38 "java/lang/String" "COMPACT_STRINGS" "Z", .fieldLink "java/lang/String" 15 "java/lang/String" "coder" "B"]
def tab : Cond := tabOf yN yB 1 (some .byte) site
def P (x : Addr) (cd z : Int32) (args : Array Value) (s : State) : Prop := args = #[.ref x] ∧ Has x "java/lang/String" "coder" "B" (.int cd) s ∧ (cd = 0 ∨ cd = 1) ∧ StaticIs s "java/lang/String" "COMPACT_STRINGS" "Z" (.int z) ∧ ¬ z = 0
def E (cd : Int32) (r : Option Value) (s u : State) : Prop := XT.PureE (some (.int cd)) r s u
theorem law (l : Launch) (x : Addr) (cd z : Int32) : Law l yN 1 0 0 0 yB 1 (some .byte) site (P x cd z) (E cd) [] 0 0 := by
  refine Law.of_walk (plainFor_of_name (by decide +kernel)) (by decide +kernel) (by decide +kernel) (by decide) (fun _ _ h => by rw [h.1]; rfl) (fun _ U U' hal hh h => ⟨h.1, h.2.1.mv hal hh, h.2.2.1, h.2.2.2.1.there hal hh, h.2.2.2.2⟩) (fun r U U' V V' h1 hal h2 h => XT.PureE.mv r U U' V V' h1 hal h2 h) ?_
  intro p e s m args below meth c s₁ X0 hexec hbytes hml hret hlk hnm hown hh0 W hP
  obtain ⟨rfl, hx, hc, s1, hz⟩ := hP
  have c1 : Steps p.tables e below (s₁.setTop (entryFrame m #[.ref x] 1)) (s₁.setTop (mkF m 0 #[.val (.ref x)] [])) := entry rfl
  obtain ⟨T2, X2, q2, st2⟩ := X0.sget hexec hown (wk W (.fieldLink "java/lang/String" 38 "java/lang/String" "COMPACT_STRINGS" "Z")) s1 (fun _ _ h => by rw [hh0]; exact h) (g := (mkF m 0 #[.val (.ref x)] [])) rfl (hb hbytes d0)
  have hh2 := q2.trans hh0
  have c3 : Steps p.tables e below (s₁.setTop (entryFrame m #[.ref x] 1)) (T2.setTop (mkF m 7 #[.val (.ref x)] [.ref x])) := (c1.trans (st2 _ (Steps.refl _))).trans (by
    refine XS.ifNo X2.here hexec rfl (hb hbytes d3) rfl (i0_eq_f hz) ?_
    refine XS.aloadN X2.here hexec rfl (hb hbytes d6) rfl rfl ?_
    exact Steps.refl _)
  obtain ⟨T4, X4, q4, st4⟩ := X2.hget hexec hown (wk W (.fieldLink "java/lang/String" 15 "java/lang/String" "coder" "B")) (hx.mv X2.warmed.alike hh2) (g := (mkF m 7 #[.val (.ref x)] [.ref x])) rfl (rest := []) rfl (hb hbytes d7)
  have c5 : Steps p.tables e below (s₁.setTop (entryFrame m #[.ref x] 1)) (T4.setTop (mkF m 14 #[.val (.ref x)] [.int cd])) := (c3.trans (st4 _ (Steps.refl _))).trans (by
    refine XS.goto X4.here hexec rfl (pc0 := 10) rfl (hb hbytes d10) (by decide) rfl ?_
    exact Steps.refl _)
  exact ⟨T4, some (.int cd), _, _, _, X4, rfl, rfl, rfl, (fun h => by cases h), ⟨rfl, q4.trans hh2⟩, fun fs hl => c5.trans (X4.ireturnOut hexec hret (by rcases hc with rfl | rfl <;> rfl) (Or.inr (Or.inr (Or.inl rfl))) (hb hbytes d14) hl)⟩
end Cdr
namespace Len
def yN : MethodName := ⟨"java/lang/String", "length", "()I"⟩
abbrev yB : ByteArray := jdk_42_method_54_code
theorem d0 : decode yB 0 = .ok (.aload_n 0, 1) := by decide +kernel
theorem d1 : decode yB 1 = .ok (.getfield 9, 3) := by decide +kernel
theorem d4 : decode yB 4 = .ok (.arraylength, 1) := by decide +kernel
theorem d5 : decode yB 5 = .ok (.aload_n 0, 1) := by decide +kernel
theorem d6 : decode yB 6 = .ok (.invokevirtual 335, 3) := by decide +kernel
theorem d9 : decode yB 9 = .ok (.ishr, 1) := by decide +kernel
theorem d10 : decode yB 10 = .ok (.ireturn, 1) := by decide +kernel
def site : List Cond := [.fieldLink "java/lang/String" 9 "java/lang/String" "value" "[B", Cdr.tab] ++ virtW "java/lang/String" 335 "java/lang/String" Cdr.yN Cdr.yN
def tab : Cond := tabOf yN yB 1 (some .int) site
def P (x t : Addr) (V : Cell) (cd : Int32) (n : Nat) (f : Nat → Int32) (z : Int32) (args : Array Value) (s : State) : Prop := args = #[.ref x] ∧ Txt x t V cd n f s ∧ StaticIs s "java/lang/String" "COMPACT_STRINGS" "Z" (.int z) ∧ ¬ z = 0
def E (n : Nat) (r : Option Value) (s u : State) : Prop := XT.PureE (some (.int (Int32.ofNat n))) r s u
/-- length() of a String of n chars, in either coding -/
theorem law (l : Launch) (x t : Addr) (V : Cell) (cd : Int32) (n : Nat) (f : Nat → Int32) (z : Int32) : Law l yN 1 0 1 13 yB 1 (some .int) site (P x t V cd n f z) (E n) [] 0 0 := by
  refine Law.of_walk (plainFor_of_name (by decide +kernel)) (by decide +kernel) (by decide +kernel) (by decide) (fun _ _ h => by rw [h.1]; rfl) (fun _ U U' hal hh h => ⟨h.1, h.2.1.mv hal hh, h.2.2.1.there hal hh, h.2.2.2⟩) (fun r U U' V V' h1 hal h2 h => XT.PureE.mv r U U' V V' h1 hal h2 h) ?_
  intro p e s m args below meth c s₁ X0 hexec hbytes hml hret hlk hnm hown hh0 W hP
  obtain ⟨rfl, hx, s1, hz⟩ := hP
  have v31 := hx.2.2.2.1.2.2.2
  have c1 : Steps p.tables e below (s₁.setTop (entryFrame m #[.ref x] 1)) (s₁.setTop (mkF m 1 #[.val (.ref x)] [.ref x])) := Steps.trans (entry rfl) (by
    show Steps p.tables e below (s₁.setTop (mkF m 0 #[.val (.ref x)] [])) _
    refine XS.aloadN X0.here hexec rfl (hb hbytes d0) rfl rfl ?_
    exact Steps.refl _)
  obtain ⟨T2, X2, q2, st2⟩ := X0.hget hexec hown (wk W (.fieldLink "java/lang/String" 9 "java/lang/String" "value" "[B")) (hx.mv X0.warmed.alike hh0).2.1 (g := (mkF m 1 #[.val (.ref x)] [.ref x])) rfl (rest := []) rfl (hb hbytes d1)
  have hh2 := q2.trans hh0
  have hx2 := hx.mv X2.warmed.alike hh2
  have c3 : Steps p.tables e below (s₁.setTop (entryFrame m #[.ref x] 1)) (T2.setTop (mkF m 6 #[.val (.ref x)] [.ref x, .int (Int32.ofNat V.slots.size)])) := (c1.trans (st2 _ (Steps.refl _))).trans (by
    refine X2.alen hexec hx2.2.2.2.1 rfl rfl (hb hbytes d4) ?_
    refine XS.aloadN X2.here hexec rfl (hb hbytes d5) rfl rfl ?_
    exact Steps.refl _)
  obtain ⟨v4, T4, X4, E4, g4⟩ := X2.callV hexec (Cdr.law l x cd z) hown (wks W (virtW "java/lang/String" 335 "java/lang/String" Cdr.yN Cdr.yN)) rfl (by decide) (wk W Cdr.tab) (W := 1) (Nat.le_of_ble_eq_true rfl) (Nat.le_of_ble_eq_true rfl) (Nat.le_refl _) (Nat.le_refl _) (hx2.1.fc X2.warmed.alike) hx2.1.is (g := (mkF m 6 #[.val (.ref x)] [.ref x, .int (Int32.ofNat V.slots.size)])) rfl (by rw [hml]; rfl) c3 (argsL := []) (rest := [.int (Int32.ofNat V.slots.size)]) rfl rfl (by show 2 * 0 + (1 + 0) ≤ _; decide) (hb hbytes d6) (⟨rfl, hx2.2.2.1, hx.2.2.2.2.1.cd, s1.there X2.warmed.alike hh2, hz⟩)
  obtain ⟨rfl, q4⟩ := E4
  have c5 : Steps p.tables e below (s₁.setTop (entryFrame m #[.ref x] 1)) (T4.setTop (mkF m 10 #[.val (.ref x)] [.int (Int32.ofNat V.slots.size >>> (cd &&& 31))])) := Steps.trans g4 (by
    refine ishr X4.here hexec rfl (hb hbytes d9) rfl ?_
    exact Steps.refl _)
  rw [hx.2.2.2.2.1.len v31] at c5
  exact ⟨T4, some (.int (Int32.ofNat n)), _, _, _, X4, rfl, rfl, rfl, (fun h => by cases h), ⟨rfl, q4.trans hh2⟩, fun fs hl => c5.trans (X4.ireturnOut hexec hret rfl (Or.inl rfl) (hb hbytes d10) hl)⟩
theorem pays {l : Launch} {R : Room} {p : Program} {e : Env} {below : List Frame} {s : State} {sargs : Array Value} {len W : Nat} (x t : Addr) (V : Cell) (cd : Int32) (n : Nat) (f : Nat → Int32) (z : Int32) (htab : tab.before sargs s = true) (hfr : 2 ≤ R.frames) (hlo : W + 25 ≤ R.locals) :
    Back l R p e below s sargs yN len W (fun A₁ a₁ => A₁.cells + 0 ≤ R.cells ∧ A₁.slots + 0 ≤ R.slots ∧ P x t V cd n f z a₁ A₁.U) (fun A₁ _ v₁ B₁ => E n v₁ A₁.U B₁.U ∧ B₁.locs = A₁.locs ++ [] ∧ B₁.cells = A₁.cells + 0 ∧ B₁.slots = A₁.slots + 0) :=
  (law l x t V cd n f z).pays htab hfr (by omega)
end Len
namespace IsL
def yN : MethodName := ⟨"java/lang/String", "isLatin1", "()Z"⟩
abbrev yB : ByteArray := jdk_42_method_154_code
theorem d0 : decode yB 0 = .ok (.getstatic 38, 3) := by decide +kernel
theorem d3 : decode yB 3 = .ok (.ifCond (.eq) 14, 3) := by decide +kernel
theorem d6 : decode yB 6 = .ok (.aload_n 0, 1) := by decide +kernel
theorem d7 : decode yB 7 = .ok (.getfield 15, 3) := by decide +kernel
theorem d10 : decode yB 10 = .ok (.ifCond (.ne) 7, 3) := by decide +kernel
theorem d13 : decode yB 13 = .ok (.iconst 1, 1) := by decide +kernel
theorem d14 : decode yB 14 = .ok (.goto 4, 3) := by decide +kernel
theorem d17 : decode yB 17 = .ok (.iconst 0, 1) := by decide +kernel
theorem d18 : decode yB 18 = .ok (.ireturn, 1) := by decide +kernel
def site : List Cond := [.fieldLink "java/lang/String" 38 "java/lang/String" "COMPACT_STRINGS" "Z", .fieldLink "java/lang/String" 15 "java/lang/String" "coder" "B"]
def tab : Cond := tabOf yN yB 1 (some .boolean) site
def P (x : Addr) (cd z : Int32) (args : Array Value) (s : State) : Prop := args = #[.ref x] ∧ Has x "java/lang/String" "coder" "B" (.int cd) s ∧ (cd = 0 ∨ cd = 1) ∧ StaticIs s "java/lang/String" "COMPACT_STRINGS" "Z" (.int z) ∧ ¬ z = 0
def E (cd : Int32) (r : Option Value) (s u : State) : Prop := XT.PureE (some (.int (1 - cd))) r s u
theorem law (l : Launch) (x : Addr) (cd z : Int32) : Law l yN 1 0 0 0 yB 1 (some .boolean) site (P x cd z) (E cd) [] 0 0 := by
  refine Law.of_walk (plainFor_of_name (by decide +kernel)) (by decide +kernel) (by decide +kernel) (by decide) (fun _ _ h => by rw [h.1]; rfl) (fun _ U U' hal hh h => ⟨h.1, h.2.1.mv hal hh, h.2.2.1, h.2.2.2.1.there hal hh, h.2.2.2.2⟩) (fun r U U' V V' h1 hal h2 h => XT.PureE.mv r U U' V V' h1 hal h2 h) ?_
  intro p e s m args below meth c s₁ X0 hexec hbytes hml hret hlk hnm hown hh0 W hP
  obtain ⟨rfl, hx, hc, s1, hz⟩ := hP
  have c1 : Steps p.tables e below (s₁.setTop (entryFrame m #[.ref x] 1)) (s₁.setTop (mkF m 0 #[.val (.ref x)] [])) := entry rfl
  obtain ⟨T2, X2, q2, st2⟩ := X0.sget hexec hown (wk W (.fieldLink "java/lang/String" 38 "java/lang/String" "COMPACT_STRINGS" "Z")) s1 (fun _ _ h => by rw [hh0]; exact h) (g := (mkF m 0 #[.val (.ref x)] [])) rfl (hb hbytes d0)
  have hh2 := q2.trans hh0
  have c3 : Steps p.tables e below (s₁.setTop (entryFrame m #[.ref x] 1)) (T2.setTop (mkF m 7 #[.val (.ref x)] [.ref x])) := (c1.trans (st2 _ (Steps.refl _))).trans (by
    refine XS.ifNo X2.here hexec rfl (hb hbytes d3) rfl (i0_eq_f hz) ?_
    refine XS.aloadN X2.here hexec rfl (hb hbytes d6) rfl rfl ?_
    exact Steps.refl _)
  obtain ⟨T4, X4, q4, st4⟩ := X2.hget hexec hown (wk W (.fieldLink "java/lang/String" 15 "java/lang/String" "coder" "B")) (hx.mv X2.warmed.alike hh2) (g := (mkF m 7 #[.val (.ref x)] [.ref x])) rfl (rest := []) rfl (hb hbytes d7)
  have c5 : Steps p.tables e below (s₁.setTop (entryFrame m #[.ref x] 1)) (T4.setTop (mkF m 10 #[.val (.ref x)] [.int cd])) := c3.trans (st4 _ (Steps.refl _))
  have c6 : Steps p.tables e below (s₁.setTop (entryFrame m #[.ref x] 1)) (T4.setTop (mkF m 18 #[.val (.ref x)] [.int (1 - cd)])) := by
    rcases hc with rfl | rfl
    · exact c5.trans (by
        refine XS.ifNo X4.here hexec rfl (hb hbytes d10) rfl (i0_ne_f rfl) ?_
        refine iconstV X4.here hexec rfl 1 (hb hbytes d13) (by decide) ?_
        refine XS.goto X4.here hexec rfl (pc0 := 14) rfl (hb hbytes d14) (by decide) rfl ?_
        exact Steps.refl _)
    · exact c5.trans (by
        refine XS.ifYes X4.here hexec rfl (pc0 := 10) rfl (hb hbytes d10) rfl (i0_ne_t (by decide)) (by decide) rfl ?_
        refine iconstV X4.here hexec rfl 0 (hb hbytes d17) (by decide) ?_
        exact Steps.refl _)
  exact ⟨T4, some (.int (1 - cd)), _, _, _, X4, rfl, rfl, rfl, (fun h => by cases h), ⟨rfl, q4.trans hh2⟩, fun fs hl => c6.trans (X4.ireturnOut hexec hret (by rcases hc with rfl | rfl <;> rfl) (Or.inr (Or.inl rfl)) (hb hbytes d18) hl)⟩
end IsL
namespace LChA
def yN : MethodName := ⟨"java/lang/StringLatin1", "charAt", "([BI)C"⟩
abbrev yB : ByteArray := jdk_43_method_2_code
theorem d0 : decode yB 0 = .ok (.iload_n 1, 1) := by decide +kernel
theorem d1 : decode yB 1 = .ok (.aload_n 0, 1) := by decide +kernel
theorem d2 : decode yB 2 = .ok (.arraylength, 1) := by decide +kernel
theorem d3 : decode yB 3 = .ok (.invokestatic 9, 3) := by decide +kernel
theorem d6 : decode yB 6 = .ok (.aload_n 0, 1) := by decide +kernel
theorem d7 : decode yB 7 = .ok (.iload_n 1, 1) := by decide +kernel
theorem d8 : decode yB 8 = .ok (.baload, 1) := by decide +kernel
theorem d9 : decode yB 9 = .ok (.sipush 255, 3) := by decide +kernel
theorem d12 : decode yB 12 = .ok (.iand, 1) := by decide +kernel
theorem d13 : decode yB 13 = .ok (.i2c, 1) := by decide +kernel
theorem d14 : decode yB 14 = .ok (.ireturn, 1) := by decide +kernel
def site : List Cond := [JO.Str_checkIndex.tab] ++ staticW "java/lang/StringLatin1" 9 JO.Str_checkIndex.yN
def tab : Cond := tabOf yN yB 2 (some .char) site
def P (t : Addr) (V : Cell) (i : Nat) (u : Int32) (fm : Value) (args : Array Value) (s : State) : Prop := args = #[.ref t, .int (Int32.ofNat i)] ∧ XT.Arr .byte t V s ∧ V.slots[i]? = some (.int u) ∧ (StaticIs s "jdk/internal/util/Preconditions" "SIOOBE_FORMATTER" "Ljava/util/function/BiFunction;" fm ∧ fm.isRef = true)
def E (u : Int32) (r : Option Value) (s w : State) : Prop := XT.PureE (some (.int (chr8 u))) r s w
theorem law (l : Launch) (t : Addr) (V : Cell) (i : Nat) (u : Int32) (fm : Value) : Law l yN 2 2 2 27 yB 2 (some .char) site (P t V i u fm) (E u) [] 0 0 := by
  refine Law.of_walk (plainFor_of_name (by decide +kernel)) (by decide +kernel) (by decide +kernel) (by decide) (fun _ _ h => by rw [h.1]; rfl) (fun _ U U' hal hh h => ⟨h.1, h.2.1.mv hal hh, h.2.2.1, h.2.2.2.1.there hal hh, h.2.2.2.2⟩) (fun r U U' V V' h1 hal h2 h => XT.PureE.mv r U U' V V' h1 hal h2 h) ?_
  intro p e s m args below meth c s₁ X0 hexec hbytes hml hret hlk hnm hown hh0 W hP
  obtain ⟨rfl, hV, hu, s1, rf⟩ := hP
  have v31 := hV.2.2.2
  have hi : i < V.slots.size := (Array.getElem?_eq_some_iff.mp hu).1
  have c1 : Steps p.tables e below (s₁.setTop (entryFrame m #[.ref t, .int (Int32.ofNat i)] 2)) (s₁.setTop (mkF m 0 #[.val (.ref t), .val (.int (Int32.ofNat i))] [])) := entry rfl
  have c2 : Steps p.tables e below (s₁.setTop (entryFrame m #[.ref t, .int (Int32.ofNat i)] 2)) (s₁.setTop (mkF m 3 #[.val (.ref t), .val (.int (Int32.ofNat i))] [.int (Int32.ofNat V.slots.size), .int (Int32.ofNat i)])) := c1.trans (by
    refine XS.iloadN X0.here hexec rfl (hb hbytes d0) rfl ?_
    refine XS.aloadN X0.here hexec rfl (hb hbytes d1) rfl rfl ?_
    refine X0.alen hexec (hV.mv X0.warmed.alike hh0) rfl rfl (hb hbytes d2) ?_
    exact Steps.refl _)
  obtain ⟨v3, T3, X3, E3, g3⟩ := X0.callS hexec (JO.Str_checkIndex.law l (Int32.ofNat i) (Int32.ofNat V.slots.size) fm) hown (wks W (staticW "java/lang/StringLatin1" 9 JO.Str_checkIndex.yN)) (wk W JO.Str_checkIndex.tab) (W := 0) (Nat.le_of_ble_eq_true rfl) (Nat.le_of_ble_eq_true rfl) (Nat.le_refl _) (Nat.le_refl _) (g := (mkF m 3 #[.val (.ref t), .val (.int (Int32.ofNat i))] [.int (Int32.ofNat V.slots.size), .int (Int32.ofNat i)])) rfl (by rw [hml]; rfl) c2 (argsL := [.int (Int32.ofNat i), .int (Int32.ofNat V.slots.size)]) (rest := []) rfl rfl (by show 2 * 0 + 0 ≤ _; decide) (hb hbytes d3) (⟨rfl, rf, s1.there X0.warmed.alike hh0, Int32.ofNat_not_neg (by omega), lt32 v31 hi⟩)
  obtain ⟨rfl, q3⟩ := E3
  have hh3 := q3.trans hh0
  have c4 : Steps p.tables e below (s₁.setTop (entryFrame m #[.ref t, .int (Int32.ofNat i)] 2)) (T3.setTop (mkF m 14 #[.val (.ref t), .val (.int (Int32.ofNat i))] [.int (chr8 u)])) := Steps.trans g3 (by
    refine XS.aloadN X3.here hexec rfl (hb hbytes d6) rfl rfl ?_
    refine XS.iloadN X3.here hexec rfl (hb hbytes d7) rfl ?_
    refine X3.aget hexec (hV.mv X3.warmed.alike hh3) rfl hu rfl rfl (hb hbytes d8) ?_
    refine sipushV X3.here hexec rfl 255 (hb hbytes d9) (by decide) ?_
    refine XS.iand X3.here hexec rfl (hb hbytes d12) rfl ?_
    refine i2c X3.here hexec rfl (hb hbytes d13) rfl ?_
    exact Steps.refl _)
  exact ⟨T3, some (.int (chr8 u)), _, _, _, X3, rfl, rfl, rfl, (fun h => by cases h), ⟨rfl, hh3⟩, fun fs hl => c4.trans (X3.ireturnOut hexec hret (narrow_c _) (Or.inr (Or.inr (Or.inr (Or.inl rfl)))) (hb hbytes d14) hl)⟩
end LChA
end StrChars
namespace StrChars.Road
open Jvm Sem ClassFile Op Lib Jvm.Stand Jvm.Free Jvm.Free.XT
open Jvm.Lib.Cold (StaticIs)
theorem consq {a : Array Value} {s : State} {c : Jvm.Cond} {L : List Jvm.Cond} (h0 : c.before a s = true) (h : ∀ w ∈ L, w.before a s = true) : ∀ w ∈ c :: L, w.before a s = true := fun w hw => (List.mem_cons.mp hw).elim (fun e => e ▸ h0) (h w)
/-- the words of String.length(), either coding -/
abbrev wordsLen : List Jvm.Cond := [.code Len.yN Len.yB 1 (some .int), .initialized ST, .fieldLink ST 9 ST "value" "[B", .fieldLink ST 38 ST "COMPACT_STRINGS" "Z", .fieldLink ST 15 ST "coder" "B", .code Cdr.yN Cdr.yB 1 (some .byte), .methodLink ST 335 Cdr.yN, .declares Cdr.yN, .selects ST Cdr.yN Cdr.yN, .instanceMethod Cdr.yN]
theorem tabLen_of {a : Array Value} {s : State} (h : ∀ w ∈ wordsLen, w.before a s = true) : Len.tab.before a s = true := by
  have hc : Cdr.tab.before a s = true := unparts (wk h (.code Cdr.yN Cdr.yB 1 (some .byte))) (wks h (.initialized Cdr.yN.cls :: Cdr.site))
  have q := consq hc h
  exact unparts (wk q (.code Len.yN Len.yB 1 (some .int))) (wks q (.initialized Len.yN.cls :: Len.site))
theorem movedLen {Z s : State} {a0 args : Array Value} (hZ : Z.Warmed39 s.vm) (hw : ∀ d ∈ wordsLen, d.before a0 Z = true) : ∀ d ∈ wordsLen, d.before args s = true := fun d hd => by
  have q := hw d hd
  have t : ∀ d ∈ wordsLen, d = .arrayClass .byte ∨ (d.onTables && d.keepsFace) = true := by decide +kernel
  rcases t d hd with rfl | t
  · exact RoadKit.mvA hZ q
  · exact RoadKit.mv hZ q t
/-- the bytes of the chars cs, low before high -/
def wideBytes : List Int32 → List Value
  | [] => []
  | c :: cs => .int (lo8 c) :: .int (hi8 c) :: wideBytes cs
theorem wide_lo (d : Value) : ∀ (cs : List Int32) (j : Nat), j < cs.length → (wideBytes cs).getD (2 * j) d = .int (lo8 (cs.getD j 0))
  | [], j, h => absurd h (Nat.not_lt_zero j)
  | c :: cs, 0, _ => rfl
  | c :: cs, j + 1, h => by
    have q := wide_lo d cs j (by simpa using h)
    rw [show 2 * (j + 1) = 2 * j + 1 + 1 from by omega]
    simpa [wideBytes] using q
theorem wide_hi (d : Value) : ∀ (cs : List Int32) (j : Nat), j < cs.length → (wideBytes cs).getD (2 * j + 1) d = .int (hi8 (cs.getD j 0))
  | [], j, h => absurd h (Nat.not_lt_zero j)
  | c :: cs, 0, _ => rfl
  | c :: cs, j + 1, h => by
    have q := wide_hi d cs j (by simpa using h)
    rw [show 2 * (j + 1) + 1 = 2 * j + 1 + 1 + 1 from by omega]
    simpa [wideBytes] using q
theorem low_at (d : Value) (cs : List Int32) (j : Nat) (h : j < cs.length) : (cs.map fun c => Value.int (lo8 c)).getD j d = .int (lo8 (cs.getD j 0)) := by
  simp [List.getD_eq_getElem?_getD, h]
/-- an array of N2 bytes vs codes the chars cs by the coder cd -/
def CodA (cs : List Int32) (cd N2 : Int32) (vs : List Value) : Prop := (cd = 0 ∧ N2 = Int32.ofNat cs.length ∧ vs = (cs.map fun c => Value.int (lo8 c)) ∧ ∀ c ∈ cs, ¬ 255 < c) ∨ (cd = 1 ∧ N2 = Int32.ofNat (2 * cs.length) ∧ vs = wideBytes cs ∧ ∃ c ∈ cs, 255 < c)
theorem CodA.cod {cs : List Int32} {cd N2 : Int32} {vs : List Value} {V : Cell} (h : CodA cs cd N2 vs) (hn : 2 * cs.length < 2 ^ 31) (hs : V.slots.size = N2.toNatClampNeg) (hv : RoadKit.Has V vs (.int 0)) : Cod cd cs.length (fun j => cs.getD j 0) V := by
  rcases h with ⟨rfl, rfl, rfl, h⟩ | ⟨rfl, rfl, rfl, c, hc, hw⟩
  · rw [n32 (by omega)] at hs
    exact Or.inl ⟨rfl, hs, fun j hj => ⟨by rw [hv j (by omega), low_at _ _ _ hj], by
      have e : cs.getD j 0 = cs[j] := by simp [List.getD_eq_getElem?_getD, hj]
      show ¬ 255 < cs.getD j 0
      rw [e]; exact h _ (List.getElem_mem _)⟩⟩
  · rw [n32 (by omega)] at hs
    obtain ⟨j, hj, rfl⟩ := List.getElem_of_mem hc
    exact Or.inr ⟨rfl, hs, fun j hj => ⟨by rw [hv _ (by omega), wide_lo _ _ _ hj], by rw [hv _ (by omega), wide_hi _ _ _ hj]⟩, j, hj, by
      have e : cs.getD j 0 = cs[j] := by simp [List.getD_eq_getElem?_getD, hj]
      show 255 < cs.getD j 0
      rw [e]; exact hw⟩
/-- an object of exactly java/lang/String, its two fields found: as the laws ask it -/
theorem strObj {Z U : State} {a0 : Array Value} {kI : Nat} (wi : (Jvm.Cond.instantiable ST kI).before a0 Z = true) (al : Z.vm.Alike U.vm) {x : Addr} {v0 c0 : Value} (E : RoadKit.Exa Z U.heap x ST) (V : RoadKit.Fld Z U.heap x ST "value" "[B" v0) (C : RoadKit.Fld Z U.heap x ST "coder" "B" c0) :
    ∃ (D : Cell) (fV fC : Field), Blank ST x D U ∧ Found ST "value" "[B" fV U ∧ Found ST "coder" "B" fC U ∧ D.slots[fV.slot]? = some v0 ∧ D.slots[fC.slot]? = some c0 ∧ RoadKit.slotOf Z ST "value" "[B" = fV.slot ∧ RoadKit.slotOf Z ST "coder" "B" = fC.slot := by
  obtain ⟨D, cfV, kV, iV, fV, hD, gV, stV, knV, obV, asV, slV⟩ := V
  obtain ⟨D', cfC, kC, iC, fC, hD', gC, stC, -, -, asC, slC⟩ := C
  cases hD.symm.trans hD'
  obtain ⟨D2, kD, e1, e2, e3, e4, e5⟩ := E
  cases hD.symm.trans e1
  obtain ⟨c2, k2, i1, i2, i3, -⟩ := Cond.instantiable_spec wi
  cases e2.symm.trans i1
  cases e3.symm.trans i2
  obtain ⟨kU, u1, u2⟩ := al.2.2 _ _ e3
  exact ⟨D, fV, fC, ⟨hD, ⟨knV, fun q hq => by rw [hq] at obV; cases obV⟩, by rw [al.findClass]; exact e2, kU, u1, by rw [u2]; exact i3, by rw [u2]; exact e5 i3⟩, ⟨SBG.found_only al ⟨cfV, kV, iV, gV⟩, stV⟩, ⟨SBG.found_only al ⟨cfC, kC, iC, gC⟩, stC⟩, slV, slC, by simp [RoadKit.slotOf, gV], by simp [RoadKit.slotOf, gC]⟩
theorem sta_is {Z U : State} (al : Z.vm.Alike U.vm) {C n d : String} {v : Value} (S : RoadKit.Sta Z U.heap C n d v) : StaticIs U C n d v := by
  obtain ⟨cfS, iS, kS, fS, st, cS, t1, t2, t3, t4, t5, t6, t7⟩ := S
  exact StaticIs.there (s := { Z with heap := U.heap }) ⟨cfS, iS, kS, fS, st, cS, t1, t2, t3, t4, t5, (fun q => by rw [q] at t6; cases t6), t7⟩ al rfl
/-- **length() OF SUCH A STRING** -/
theorem lenW {p : Program} {l : Launch} {e : Env} {R : Room} {s : State} {args : Array Value} {below : List Frame} {len W : Nat} {Z : State} {a0 : Array Value} {h : Heap} (hZ : Z.Warmed39 s.vm) (hw : ∀ d ∈ wordsLen, d.before a0 Z = true) {kI : Nat} (wi : (Jvm.Cond.instantiable ST kI).before a0 Z = true)
    {x t : Addr} {kb : ClassId} {cs : List Int32} {cd N2 z : Int32} {vs : List Value} (E : RoadKit.Exa Z h x ST) (V : RoadKit.Fld Z h x ST "value" "[B" (.ref t)) (C : RoadKit.Fld Z h x ST "coder" "B" (.int cd)) (K : RoadKit.Arv Z h t kb .byte N2 vs (.int 0)) (hc : CodA cs cd N2 vs) (hb : ∀ c ∈ cs, ¬ c < 0 ∧ ¬ (65535 : Int32) < c)
    (S : RoadKit.Sta Z h ST "COMPACT_STRINGS" "Z" (.int z)) (hz : ¬ z = 0) (l2 : cs.length ≤ 4000) (hfr : 2 ≤ R.frames) (hlo : W + 25 ≤ R.locals) :
    Back l R p e below s args (⟨"java/lang/String", "length", "()I"⟩ : MethodName) len W (fun P a => a = #[.ref x] ∧ P.U.heap = h ∧ P.cells + 0 ≤ R.cells ∧ P.slots + 0 ≤ R.slots)
      (fun P _ v B => ∃ L, (v = some (.int (Int32.ofNat cs.length)) ∧ L = [] ∧ B.U.heap = h) ∧ B.locs = P.locs ++ L ∧ B.cells = P.cells + 0 ∧ B.slots = P.slots + 0) := by
  obtain ⟨A, K1, K2, K3, K4, K5, K6⟩ := K
  have hcod := hc.cod (by omega) K3 K5
  intro m meth c P g ig mk a X hg hsize hdg hW hn hp'
  obtain ⟨rfl, rfl, r1, r2⟩ := hp'
  have al : Z.vm.Alike P.U.vm := hZ.alike.trans X.warmed.alike
  obtain ⟨D, fV, fC, hB, F1, F2, g1, g2, -, -⟩ := strObj wi al E V C
  have hx : Txt x t A cd cs.length (fun j => cs.getD j 0) P.U := ⟨⟨_, hB.2.2.1, D, hB.1, rfl, by cases q : D.vm <;> first | rfl | exact absurd q (hB.2.1.2 _)⟩, Has.of hB F1 g1, Has.of hB F2 g2, ⟨K1.1, State.isArrayOf_alike al K1.2.1, K1.2.2, by rcases hcod with ⟨-, q, -⟩ | ⟨-, q, -⟩ <;> omega⟩, hcod, fun j hj => by
    have e : cs.getD j 0 = cs[j] := by simp [List.getD_eq_getElem?_getD, hj]
    show ¬ cs.getD j 0 < 0 ∧ ¬ 65535 < cs.getD j 0
    rw [e]; exact hb _ (List.getElem_mem _)⟩
  obtain ⟨v, B, X', ⟨⟨hv, hh⟩, hl, hk, hs⟩, st⟩ := Len.pays x t A cd cs.length (fun j => cs.getD j 0) z (tabLen_of (movedLen hZ hw)) hfr hlo m meth c P g ig mk _ X hg hsize hdg hW hn ⟨r1, r2, rfl, hx, sta_is al S, hz⟩
  exact ⟨v, B, X', ⟨[], ⟨hv, rfl, hh⟩, hl, hk, hs⟩, st⟩
end StrChars.Road
namespace StrChars
open Jvm Sem ClassFile Op Lib Jvm.Stand Jvm.Free.XT Jvm.Free.ALB Jvm.Free.JM Jvm.Free
open Jvm.Lib.Cold (StaticIs)
/-- what place i of a byte[]'s cell holds -/
def yv (A : Cell) (i : Nat) : Int32 := match A.slots[i]? with | some (.int x) => x | _ => 0
theorem yv_get {a : Addr} {A : Cell} {U : State} (h : XT.Arr .byte a A U) (ht : Typed .byte A) {i : Nat} (hi : i < A.slots.size) : A.slots[i]? = some (.int (yv A i)) := by
  have e := Array.getElem?_eq_getElem hi
  have f := ht i _ e
  unfold yv; rw [e]
  generalize A.slots[i] = v at f
  cases v <;> simp [fits] at f ⊢
/-- the two arrays are equal, place for place -/
def EqC (A B : Cell) : Prop := A.slots.size = B.slots.size ∧ ∀ i, i < A.slots.size → yv A i = yv B i
/-- a boolean that says whether p -/
def Says01 (q : Prop) (r : Option Value) (s u : State) : Prop := ∃ v : Int32, r = some (.int v) ∧ u.heap = s.heap ∧ ((v = 1 ∧ q) ∨ (v = 0 ∧ ¬ q))
theorem Says01.mv {q : Prop} : ∀ r (U U' V V' : State), U'.heap = U.heap → V.vm.Alike V'.vm → V'.heap = V.heap → Says01 q r U V → Says01 q r U' V' :=
  fun r U U' V V' h1 _ h2 ⟨v, a, b, c⟩ => ⟨v, a, by rw [h1, h2]; exact b, c⟩
namespace LEq
def yN : MethodName := ⟨"java/lang/StringLatin1", "equals", "([B[B)Z"⟩
abbrev yB : ByteArray := jdk_43_method_13_code
theorem d0 : decode yB 0 = .ok (.aload_n 0, 1) := by decide +kernel
theorem d1 : decode yB 1 = .ok (.arraylength, 1) := by decide +kernel
theorem d2 : decode yB 2 = .ok (.aload_n 1, 1) := by decide +kernel
theorem d3 : decode yB 3 = .ok (.arraylength, 1) := by decide +kernel
theorem d4 : decode yB 4 = .ok (.if_icmp (.ne) 30, 3) := by decide +kernel
theorem d7 : decode yB 7 = .ok (.iconst 0, 1) := by decide +kernel
theorem d8 : decode yB 8 = .ok (.istore_n 2, 1) := by decide +kernel
theorem d9 : decode yB 9 = .ok (.iload_n 2, 1) := by decide +kernel
theorem d10 : decode yB 10 = .ok (.aload_n 0, 1) := by decide +kernel
theorem d11 : decode yB 11 = .ok (.arraylength, 1) := by decide +kernel
theorem d12 : decode yB 12 = .ok (.if_icmp (.ge) 20, 3) := by decide +kernel
theorem d15 : decode yB 15 = .ok (.aload_n 0, 1) := by decide +kernel
theorem d16 : decode yB 16 = .ok (.iload_n 2, 1) := by decide +kernel
theorem d17 : decode yB 17 = .ok (.baload, 1) := by decide +kernel
theorem d18 : decode yB 18 = .ok (.aload_n 1, 1) := by decide +kernel
theorem d19 : decode yB 19 = .ok (.iload_n 2, 1) := by decide +kernel
theorem d20 : decode yB 20 = .ok (.baload, 1) := by decide +kernel
theorem d21 : decode yB 21 = .ok (.if_icmp (.eq) 5, 3) := by decide +kernel
theorem d24 : decode yB 24 = .ok (.iconst 0, 1) := by decide +kernel
theorem d25 : decode yB 25 = .ok (.ireturn, 1) := by decide +kernel
theorem d26 : decode yB 26 = .ok (.iinc 2 1, 3) := by decide +kernel
theorem d29 : decode yB 29 = .ok (.goto (-20), 3) := by decide +kernel
theorem d32 : decode yB 32 = .ok (.iconst 1, 1) := by decide +kernel
theorem d33 : decode yB 33 = .ok (.ireturn, 1) := by decide +kernel
theorem d34 : decode yB 34 = .ok (.iconst 0, 1) := by decide +kernel
theorem d35 : decode yB 35 = .ok (.ireturn, 1) := by decide +kernel
def site : List Cond := []
def tab : Cond := tabOf yN yB 3 (some .boolean) site
def P (a : Addr) (A : Cell) (b : Addr) (B : Cell) (args : Array Value) (s : State) : Prop := args = #[.ref a, .ref b] ∧ XT.Arr .byte a A s ∧ Typed .byte A ∧ XT.Arr .byte b B s ∧ Typed .byte B
/-- whether two byte[] are equal, place for place -/
theorem law (l : Launch) (a : Addr) (A : Cell) (b : Addr) (B : Cell) : Law l yN 2 2 0 0 yB 3 (some .boolean) site (P a A b B) (Says01 (EqC A B)) [] 0 0 := by
  refine Law.of_walk (plainFor_of_name (by decide +kernel)) (by decide +kernel) (by decide +kernel) (by decide) (fun _ _ h => by rw [h.1]; rfl) (fun _ U U' hal hh h => ⟨h.1, h.2.1.mv hal hh, h.2.2.1, h.2.2.2.1.mv hal hh, h.2.2.2.2⟩) (fun r U U' V V' h1 hal h2 h => Says01.mv r U U' V V' h1 hal h2 h) ?_
  intro p e s m args below meth c s₁ X0 hexec hbytes hml hret hlk hnm hown hh0 W hP
  obtain ⟨rfl, hA, tA, hB, tB⟩ := hP
  have a31 := hA.2.2.2
  have b31 := hB.2.2.2
  have hA0 := hA.mv X0.warmed.alike hh0
  have hB0 := hB.mv X0.warmed.alike hh0
  have c1 : Steps p.tables e below (s₁.setTop (entryFrame m #[.ref a, .ref b] 3)) (s₁.setTop (mkF m 0 #[.val (.ref a), .val (.ref b), .unset] [])) := entry rfl
  have c2 : Steps p.tables e below (s₁.setTop (entryFrame m #[.ref a, .ref b] 3)) (s₁.setTop (mkF m 4 #[.val (.ref a), .val (.ref b), .unset] [.int (Int32.ofNat B.slots.size), .int (Int32.ofNat A.slots.size)])) := c1.trans (by
    refine XS.aloadN X0.here hexec rfl (hb hbytes d0) rfl rfl ?_
    refine X0.alen hexec hA0 rfl rfl (hb hbytes d1) ?_
    refine XS.aloadN X0.here hexec rfl (hb hbytes d2) rfl rfl ?_
    refine X0.alen hexec hB0 rfl rfl (hb hbytes d3) ?_
    exact Steps.refl _)
  by_cases hs : A.slots.size = B.slots.size
  · have c3 : Steps p.tables e below (s₁.setTop (entryFrame m #[.ref a, .ref b] 3)) (s₁.setTop (mkF m 9 #[.val (.ref a), .val (.ref b), .val (.int 0)] [])) := c2.trans (by
      refine XS.icmpNo X0.here hexec rfl (hb hbytes d4) rfl (ii_ne_f (by rw [hs])) ?_
      refine iconstV X0.here hexec rfl 0 (hb hbytes d7) (by decide) ?_
      refine XS.istoreN X0.here hexec rfl (hb hbytes d8) rfl rfl ?_
      exact Steps.refl _)
    have loop : ∀ (r i : Nat), i + r = A.slots.size → (∀ j, j < i → yv A j = yv B j) → Steps p.tables e below (s₁.setTop (entryFrame m #[.ref a, .ref b] 3)) (s₁.setTop (mkF m 9 #[.val (.ref a), .val (.ref b), .val (.int (Int32.ofNat i))] [])) → ∃ (pc : Nat) (Ls : Array Slot) (v : Int32), (pc = 25 ∨ pc = 33) ∧ ((v = 1 ∧ EqC A B) ∨ (v = 0 ∧ ¬ EqC A B)) ∧ Steps p.tables e below (s₁.setTop (entryFrame m #[.ref a, .ref b] 3)) (s₁.setTop (mkF m pc Ls [.int v])) := by
      intro r
      induction r with
      | zero =>
        intro i hi he cl
        exact ⟨33, _, 1, Or.inr rfl, Or.inl ⟨rfl, hs, fun j hj => he j (by omega)⟩, cl.trans (by
          refine XS.iloadN X0.here hexec rfl (hb hbytes d9) rfl ?_
          refine XS.aloadN X0.here hexec rfl (hb hbytes d10) rfl rfl ?_
          refine X0.alen hexec hA0 rfl rfl (hb hbytes d11) ?_
          refine XS.icmpYes X0.here hexec rfl (pc0 := 12) rfl (hb hbytes d12) rfl (ii_ge_t (nlt32 (by omega) (by omega))) (by decide) rfl ?_
          refine iconstV X0.here hexec rfl 1 (hb hbytes d32) (by decide) ?_
          exact Steps.refl _)⟩
      | succ r ih =>
        intro i hi he cl
        have c4 : Steps p.tables e below (s₁.setTop (entryFrame m #[.ref a, .ref b] 3)) (s₁.setTop (mkF m 21 #[.val (.ref a), .val (.ref b), .val (.int (Int32.ofNat i))] [.int (yv B i), .int (yv A i)])) := cl.trans (by
          refine XS.iloadN X0.here hexec rfl (hb hbytes d9) rfl ?_
          refine XS.aloadN X0.here hexec rfl (hb hbytes d10) rfl rfl ?_
          refine X0.alen hexec hA0 rfl rfl (hb hbytes d11) ?_
          refine XS.icmpNo X0.here hexec rfl (hb hbytes d12) rfl (ii_ge_f (lt32 (by omega) (by omega))) ?_
          refine XS.aloadN X0.here hexec rfl (hb hbytes d15) rfl rfl ?_
          refine XS.iloadN X0.here hexec rfl (hb hbytes d16) rfl ?_
          refine X0.aget hexec hA0 rfl (yv_get hA tA (i := i) (by omega)) rfl rfl (hb hbytes d17) ?_
          refine XS.aloadN X0.here hexec rfl (hb hbytes d18) rfl rfl ?_
          refine XS.iloadN X0.here hexec rfl (hb hbytes d19) rfl ?_
          refine X0.aget hexec hB0 rfl (yv_get hB tB (i := i) (by omega)) rfl rfl (hb hbytes d20) ?_
          exact Steps.refl _)
        by_cases hv : yv A i = yv B i
        · have c5 : Steps p.tables e below (s₁.setTop (entryFrame m #[.ref a, .ref b] 3)) (s₁.setTop (mkF m 9 #[.val (.ref a), .val (.ref b), .val (.int (Int32.ofNat i + 1))] [])) := c4.trans (by
            refine XS.icmpYes X0.here hexec rfl (pc0 := 21) rfl (hb hbytes d21) rfl (ii_eq_t hv) (by decide) rfl ?_
            refine iincV X0.here hexec rfl 1 (hb hbytes d26) (by decide) rfl rfl ?_
            refine XS.goto X0.here hexec rfl (pc0 := 29) rfl (hb hbytes d29) (by decide) rfl ?_
            exact Steps.refl _)
          rw [succ32] at c5
          exact ih (i + 1) (by omega) (fun j hj => by
            by_cases e : j = i
            · rw [e]; exact hv
            · exact he j (by omega)) c5
        · exact ⟨25, _, 0, Or.inl rfl, Or.inr ⟨rfl, fun q => hv (q.2 i (by omega))⟩, c4.trans (by
            refine XS.icmpNo X0.here hexec rfl (hb hbytes d21) rfl (ii_eq_f hv) ?_
            refine iconstV X0.here hexec rfl 0 (hb hbytes d24) (by decide) ?_
            exact Steps.refl _)⟩
    obtain ⟨pc, Ls, v, hpc, hv, cz⟩ := loop A.slots.size 0 (by omega) (fun j hj => absurd hj (Nat.not_lt_zero j)) c3
    have nv : narrow .boolean (.int v) = .int v := by rcases hv with ⟨rfl, -⟩ | ⟨rfl, -⟩ <;> rfl
    rcases hpc with rfl | rfl
    · exact ⟨s₁, some (.int v), _, _, _, X0, rfl, rfl, rfl, (fun h => by cases h), ⟨v, rfl, hh0, hv⟩, fun fs hl => cz.trans (X0.ireturnOut hexec hret nv (Or.inr (Or.inl rfl)) (hb hbytes d25) hl)⟩
    · exact ⟨s₁, some (.int v), _, _, _, X0, rfl, rfl, rfl, (fun h => by cases h), ⟨v, rfl, hh0, hv⟩, fun fs hl => cz.trans (X0.ireturnOut hexec hret nv (Or.inr (Or.inl rfl)) (hb hbytes d33) hl)⟩
  · have c3 : Steps p.tables e below (s₁.setTop (entryFrame m #[.ref a, .ref b] 3)) (s₁.setTop (mkF m 35 #[.val (.ref a), .val (.ref b), .unset] [.int 0])) := c2.trans (by
      refine XS.icmpYes X0.here hexec rfl (pc0 := 4) rfl (hb hbytes d4) rfl (ii_ne_t (ne32 a31 b31 hs)) (by decide) rfl ?_
      refine iconstV X0.here hexec rfl 0 (hb hbytes d34) (by decide) ?_
      exact Steps.refl _)
    exact ⟨s₁, some (.int 0), _, _, _, X0, rfl, rfl, rfl, (fun h => by cases h), ⟨0, rfl, hh0, Or.inr ⟨rfl, fun q => hs q.1⟩⟩, fun fs hl => c3.trans (X0.ireturnOut hexec hret rfl (Or.inr (Or.inl rfl)) (hb hbytes d35) hl)⟩
end LEq
theorem Cod.ty {cd : Int32} {n : Nat} {f : Nat → Int32} {V : Cell} (h : Cod cd n f V) : Typed .byte V := fun i v hv => by
  have hi : i < V.slots.size := (Array.getElem?_eq_some_iff.mp hv).1
  rcases h with ⟨-, k1, k2⟩ | ⟨-, k1, k2, -⟩
  · rw [(k2 i (by omega)).1] at hv; cases hv; exact fits_lo8 _
  · rcases Nat.mod_two_eq_zero_or_one i with e | e
    · obtain ⟨j, rfl⟩ : ∃ j, i = 2 * j := ⟨i / 2, by omega⟩
      rw [(k2 j (by omega)).1] at hv; cases hv; exact fits_lo8 _
    · obtain ⟨j, rfl⟩ : ∃ j, i = 2 * j + 1 := ⟨i / 2, by omega⟩
      rw [(k2 j (by omega)).2] at hv; cases hv; exact fits_lo8 _
/-- the same text -/
def SameT (n : Nat) (f : Nat → Int32) (k : Nat) (g : Nat → Int32) : Prop := n = k ∧ ∀ j, j < n → f j = g j
theorem lo8_inj {x y : Int32} (h0 : ¬ x < 0) (h1 : ¬ 255 < x) (k0 : ¬ y < 0) (k1 : ¬ 255 < y) (h : lo8 x = lo8 y) : x = y := by
  rw [← lo8_mask h0 h1, ← lo8_mask k0 k1, h]
/-- arrays coded by one coder are equal just where the texts are -/
theorem Cod.eqv {cd : Int32} {n k : Nat} {f g : Nat → Int32} {V V' : Cell} (h : Cod cd n f V) (h' : Cod cd k g V') (hf : ∀ j, j < n → ¬ f j < 0 ∧ ¬ 65535 < f j) (hg : ∀ j, j < k → ¬ g j < 0 ∧ ¬ 65535 < g j) : EqC V V' ↔ SameT n f k g := by
  have yvv : ∀ {W : Cell} {i : Nat} {x : Int32}, W.slots[i]? = some (.int x) → yv W i = x := fun q => by unfold yv; rw [q]
  rcases h with ⟨rfl, k1, k2⟩ | ⟨rfl, k1, k2, -⟩
  · rcases h' with ⟨-, m1, m2⟩ | ⟨e, -⟩
    · constructor
      · rintro ⟨e1, e2⟩
        refine ⟨by omega, fun j hj => ?_⟩
        have q := e2 j (by omega)
        rw [yvv (k2 j hj).1, yvv (m2 j (by omega)).1] at q
        exact lo8_inj (hf j hj).1 (k2 j hj).2 (hg j (by omega)).1 (m2 j (by omega)).2 q
      · rintro ⟨rfl, e2⟩
        refine ⟨by omega, fun j hj => ?_⟩
        rw [yvv (k2 j (by omega)).1, yvv (m2 j (by omega)).1, e2 j (by omega)]
    · exact absurd e (by decide)
  · rcases h' with ⟨e, -⟩ | ⟨-, m1, m2, -⟩
    · exact absurd e (by decide)
    · constructor
      · rintro ⟨e1, e2⟩
        refine ⟨by omega, fun j hj => ?_⟩
        have q1 := e2 (2 * j) (by omega)
        have q2 := e2 (2 * j + 1) (by omega)
        rw [yvv (k2 j hj).1, yvv (m2 j (by omega)).1] at q1
        rw [yvv (k2 j hj).2, yvv (m2 j (by omega)).2] at q2
        rw [← pair_says (hf j hj).1 (hf j hj).2, ← pair_says (hg j (by omega)).1 (hg j (by omega)).2, q1, q2]
      · rintro ⟨rfl, e2⟩
        refine ⟨by omega, fun i hi => ?_⟩
        rcases Nat.mod_two_eq_zero_or_one i with e | e
        · obtain ⟨j, rfl⟩ : ∃ j, i = 2 * j := ⟨i / 2, by omega⟩
          rw [yvv (k2 j (by omega)).1, yvv (m2 j (by omega)).1, e2 j (by omega)]
        · obtain ⟨j, rfl⟩ : ∃ j, i = 2 * j + 1 := ⟨i / 2, by omega⟩
          rw [yvv (k2 j (by omega)).2, yvv (m2 j (by omega)).2, e2 j (by omega)]
/-- two codings differ: so do the texts -/
theorem Cod.dif {cd cd' : Int32} {n k : Nat} {f g : Nat → Int32} {V V' : Cell} (h : Cod cd n f V) (h' : Cod cd' k g V') (hne : ¬ cd = cd') : ¬ SameT n f k g := by
  rintro ⟨rfl, e⟩
  rcases h with ⟨rfl, -, k2⟩ | ⟨rfl, -, -, j, hj, hw⟩
  · rcases h' with ⟨rfl, -⟩ | ⟨-, -, -, j, hj, hw⟩
    · exact hne rfl
    · exact (k2 j hj).2 (by rw [e j hj]; exact hw)
  · rcases h' with ⟨-, -, m2⟩ | ⟨rfl, -⟩
    · exact (m2 j hj).2 (by rw [← e j hj]; exact hw)
    · exact hne rfl
/-- an object of exactly C is an instance of C -/
theorem cinst {p : Program} {l : Launch} {e : Env} {R : Room} {s : State} {m : MethodId} {args : Array Value} {below : List Frame} {meth : Method} {c : Code} {T : State} {locs : List Loc} {cells slots : Nat} (X : Stand p l e R s m args below meth c T locs cells slots) (hexec : p.tables.exec = Jvm.exec) {own C : String} {index : Nat} (hown : s.vm.findClass own = some m.cls) (hlink : (Cond.classLink own index C).before args s = true) {a : Addr} (hE : Exact C a T)
    {g : JFrame} (hg : g.method = m) {rest : List Value} (hstack : g.stack = .ref a :: rest) (hdg : decode c.code g.pc = .ok (.instanceof index, 3)) :
    ∃ T', Stand p l e R s m args below meth c T' locs cells slots ∧ T'.heap = T.heap ∧ ∀ target, Steps p.tables e below (T'.setTop { g with pc := g.pc + 3, stack := .int 1 :: rest }) target → Steps p.tables e below (T.setTop g) target := by
  obtain ⟨cB, h1, D, h2, h3, h4⟩ := hE
  have h1' : s.vm.findClass C = some cB := by rw [← X.warmed.alike.findClass]; exact h1
  obtain ⟨vm', X', st⟩ := X.instanceofYes hexec hown hlink h2 h4 h1' (by rw [h3]; exact Jvm.Free.SB.assignable_self _ _) hg hstack hdg
  exact ⟨_, X', rfl, st⟩
theorem cself {p : Program} {l : Launch} {e : Env} {R : Room} {s : State} {m : MethodId} {args : Array Value} {below : List Frame} {meth : Method} {c : Code} {T : State} {locs : List Loc} {cells slots : Nat} (X : Stand p l e R s m args below meth c T locs cells slots) (hexec : p.tables.exec = Jvm.exec) {own C : String} {index : Nat} (hown : s.vm.findClass own = some m.cls) (hlink : (Cond.classLink own index C).before args s = true) {a : Addr} (hE : Exact C a T)
    {g : JFrame} (hg : g.method = m) {rest : List Value} (hstack : g.stack = .ref a :: rest) (hdg : decode c.code g.pc = .ok (.checkcast index, 3)) :
    ∃ T', Stand p l e R s m args below meth c T' locs cells slots ∧ T'.heap = T.heap ∧ ∀ target, Steps p.tables e below (T'.setTop { g with pc := g.pc + 3, stack := .ref a :: rest }) target → Steps p.tables e below (T.setTop g) target := by
  obtain ⟨cB, h1, D, h2, h3, h4⟩ := hE
  have h1' : s.vm.findClass C = some cB := by rw [← X.warmed.alike.findClass]; exact h1
  obtain ⟨vm', X', st⟩ := X.checkcastYes hexec hown hlink h2 h4 h1' (by rw [h3]; exact Jvm.Free.SB.assignable_self _ _) hg hstack hdg
  exact ⟨_, X', rfl, fun t h => st t (by rw [← hstack] at h; exact h)⟩
namespace SEq
def yN : MethodName := ⟨"java/lang/String", "equals", "(Ljava/lang/Object;)Z"⟩
abbrev yB : ByteArray := jdk_42_method_66_code
theorem d0 : decode yB 0 = .ok (.aload_n 0, 1) := by decide +kernel
theorem d1 : decode yB 1 = .ok (.aload_n 1, 1) := by decide +kernel
theorem d2 : decode yB 2 = .ok (.if_acmp (.ne) 5, 3) := by decide +kernel
theorem d5 : decode yB 5 = .ok (.iconst 1, 1) := by decide +kernel
theorem d6 : decode yB 6 = .ok (.ireturn, 1) := by decide +kernel
theorem d7 : decode yB 7 = .ok (.aload_n 1, 1) := by decide +kernel
theorem d8 : decode yB 8 = .ok (.instanceof 10, 3) := by decide +kernel
theorem d11 : decode yB 11 = .ok (.ifCond (.eq) 43, 3) := by decide +kernel
theorem d14 : decode yB 14 = .ok (.aload_n 1, 1) := by decide +kernel
theorem d15 : decode yB 15 = .ok (.checkcast 10, 3) := by decide +kernel
theorem d18 : decode yB 18 = .ok (.astore_n 2, 1) := by decide +kernel
theorem d19 : decode yB 19 = .ok (.getstatic 38, 3) := by decide +kernel
theorem d22 : decode yB 22 = .ok (.ifCond (.eq) 14, 3) := by decide +kernel
theorem d25 : decode yB 25 = .ok (.aload_n 0, 1) := by decide +kernel
theorem d26 : decode yB 26 = .ok (.getfield 15, 3) := by decide +kernel
theorem d29 : decode yB 29 = .ok (.aload_n 2, 1) := by decide +kernel
theorem d30 : decode yB 30 = .ok (.getfield 15, 3) := by decide +kernel
theorem d33 : decode yB 33 = .ok (.if_icmp (.ne) 21, 3) := by decide +kernel
theorem d36 : decode yB 36 = .ok (.aload_n 0, 1) := by decide +kernel
theorem d37 : decode yB 37 = .ok (.getfield 9, 3) := by decide +kernel
theorem d40 : decode yB 40 = .ok (.aload_n 2, 1) := by decide +kernel
theorem d41 : decode yB 41 = .ok (.getfield 9, 3) := by decide +kernel
theorem d44 : decode yB 44 = .ok (.invokestatic 541, 3) := by decide +kernel
theorem d47 : decode yB 47 = .ok (.ifCond (.eq) 7, 3) := by decide +kernel
theorem d50 : decode yB 50 = .ok (.iconst 1, 1) := by decide +kernel
theorem d51 : decode yB 51 = .ok (.goto 4, 3) := by decide +kernel
theorem d54 : decode yB 54 = .ok (.iconst 0, 1) := by decide +kernel
theorem d55 : decode yB 55 = .ok (.ireturn, 1) := by decide +kernel
def site : List Cond := [.classLink "java/lang/String" 10 "java/lang/String", .fieldLink "java/lang/String" 38 "java/lang/String" "COMPACT_STRINGS" "Z", .fieldLink "java/lang/String" 15 "java/lang/String" "coder" "B", .fieldLink "java/lang/String" 9 "java/lang/String" "value" "[B", LEq.tab] ++ staticW "java/lang/String" 541 LEq.yN
def tab : Cond := tabOf yN yB 3 (some .boolean) site
def P (x t : Addr) (V : Cell) (cd : Int32) (n : Nat) (f : Nat → Int32) (y t' : Addr) (V' : Cell) (cd' : Int32) (k : Nat) (g : Nat → Int32) (z : Int32) (args : Array Value) (s : State) : Prop := args = #[.ref x, .ref y] ∧ Txt x t V cd n f s ∧ Txt y t' V' cd' k g s ∧ StaticIs s "java/lang/String" "COMPACT_STRINGS" "Z" (.int z) ∧ ¬ z = 0
/-- equals(Object) of two Strings: whether the texts are the same -/
theorem law (l : Launch) (x t : Addr) (V : Cell) (cd : Int32) (n : Nat) (f : Nat → Int32) (y t' : Addr) (V' : Cell) (cd' : Int32) (k : Nat) (g : Nat → Int32) (z : Int32) : Law l yN 2 1 1 14 yB 3 (some .boolean) site (P x t V cd n f y t' V' cd' k g z) (Says01 (SameT n f k g)) [] 0 0 := by
  refine Law.of_walk (plainFor_of_name (by decide +kernel)) (by decide +kernel) (by decide +kernel) (by decide) (fun _ _ h => by rw [h.1]; rfl) (fun _ U U' hal hh h => ⟨h.1, h.2.1.mv hal hh, h.2.2.1.mv hal hh, h.2.2.2.1.there hal hh, h.2.2.2.2⟩) (fun r U U' V V' h1 hal h2 h => Says01.mv r U U' V V' h1 hal h2 h) ?_
  intro p e s m args below meth c s₁ X0 hexec hbytes hml hret hlk hnm hown hh0 W hP
  obtain ⟨rfl, hx, hy, s1, hz⟩ := hP
  have c1 : Steps p.tables e below (s₁.setTop (entryFrame m #[.ref x, .ref y] 3)) (s₁.setTop (mkF m 2 #[.val (.ref x), .val (.ref y), .unset] [.ref y, .ref x])) := Steps.trans (entry rfl) (by
    show Steps p.tables e below (s₁.setTop (mkF m 0 #[.val (.ref x), .val (.ref y), .unset] [])) _
    refine XS.aloadN X0.here hexec rfl (hb hbytes d0) rfl rfl ?_
    refine XS.aloadN X0.here hexec rfl (hb hbytes d1) rfl rfl ?_
    exact Steps.refl _)
  by_cases hxy : x = y
  · have c2 : Steps p.tables e below (s₁.setTop (entryFrame m #[.ref x, .ref y] 3)) (s₁.setTop (mkF m 6 #[.val (.ref x), .val (.ref y), .unset] [.int 1])) := c1.trans (by
      refine acmpNo X0.here hexec rfl (hb hbytes d2) rfl rfl rfl (by simp [acmp, hxy]) ?_
      refine iconstV X0.here hexec rfl 1 (hb hbytes d5) (by decide) ?_
      exact Steps.refl _)
    subst hxy
    have ec : cd = cd' := by
      obtain ⟨D, fd, a1, a2, a3⟩ := hx.2.2.1
      obtain ⟨D', fd', b1, b2, b3⟩ := hy.2.2.1
      cases a1.symm.trans b1
      obtain ⟨q1, q2, q3, q4⟩ := a2.1
      obtain ⟨r1, r2, r3, r4⟩ := b2.1
      cases q4.symm.trans r4
      cases a3.symm.trans b3; rfl
    have et : t = t' := by
      obtain ⟨D, fd, a1, a2, a3⟩ := hx.2.1
      obtain ⟨D', fd', b1, b2, b3⟩ := hy.2.1
      cases a1.symm.trans b1
      obtain ⟨q1, q2, q3, q4⟩ := a2.1
      obtain ⟨r1, r2, r3, r4⟩ := b2.1
      cases q4.symm.trans r4
      cases a3.symm.trans b3; rfl
    subst ec et
    have ev : V = V' := by cases hx.2.2.2.1.1.symm.trans hy.2.2.2.1.1; rfl
    subst ev
    have hs : SameT n f k g := (Cod.eqv hx.2.2.2.2.1 hy.2.2.2.2.1 hx.2.2.2.2.2 hy.2.2.2.2.2).mp ⟨rfl, fun _ _ => rfl⟩
    exact ⟨s₁, some (.int 1), _, _, _, X0, rfl, rfl, rfl, (fun h => by cases h), ⟨1, rfl, hh0, Or.inl ⟨rfl, hs⟩⟩, fun fs hl => c2.trans (X0.ireturnOut hexec hret rfl (Or.inr (Or.inl rfl)) (hb hbytes d6) hl)⟩
  · have c2 : Steps p.tables e below (s₁.setTop (entryFrame m #[.ref x, .ref y] 3)) (s₁.setTop (mkF m 8 #[.val (.ref x), .val (.ref y), .unset] [.ref y])) := c1.trans (by
      refine acmpYes X0.here hexec rfl (pc0 := 2) rfl (hb hbytes d2) rfl rfl rfl (by simp [acmp, hxy]) (by decide) rfl ?_
      refine XS.aloadN X0.here hexec rfl (hb hbytes d7) rfl rfl ?_
      exact Steps.refl _)
    obtain ⟨T3, X3, q3, st3⟩ := cinst X0 hexec hown (wk W (.classLink "java/lang/String" 10 "java/lang/String")) (hy.mv X0.warmed.alike hh0).1 (g := (mkF m 8 #[.val (.ref x), .val (.ref y), .unset] [.ref y])) rfl (rest := []) rfl (hb hbytes d8)
    have hh3 := q3.trans hh0
    have c4 : Steps p.tables e below (s₁.setTop (entryFrame m #[.ref x, .ref y] 3)) (T3.setTop (mkF m 15 #[.val (.ref x), .val (.ref y), .unset] [.ref y])) := (c2.trans (st3 _ (Steps.refl _))).trans (by
      refine XS.ifNo X3.here hexec rfl (hb hbytes d11) rfl (i0_eq_f (by decide)) ?_
      refine XS.aloadN X3.here hexec rfl (hb hbytes d14) rfl rfl ?_
      exact Steps.refl _)
    obtain ⟨T5, X5, q5, st5⟩ := cself X3 hexec hown (wk W (.classLink "java/lang/String" 10 "java/lang/String")) (hy.mv X3.warmed.alike hh3).1 (g := (mkF m 15 #[.val (.ref x), .val (.ref y), .unset] [.ref y])) rfl (rest := []) rfl (hb hbytes d15)
    have hh5 := q5.trans hh3
    have c6 : Steps p.tables e below (s₁.setTop (entryFrame m #[.ref x, .ref y] 3)) (T5.setTop (mkF m 19 #[.val (.ref x), .val (.ref y), .val (.ref y)] [])) := (c4.trans (st5 _ (Steps.refl _))).trans (by
      refine XS.astoreN X5.here hexec rfl (hb hbytes d18) rfl rfl rfl ?_
      exact Steps.refl _)
    obtain ⟨T7, X7, q7, st7⟩ := X5.sget hexec hown (wk W (.fieldLink "java/lang/String" 38 "java/lang/String" "COMPACT_STRINGS" "Z")) s1 (fun _ _ h => by rw [hh5]; exact h) (g := (mkF m 19 #[.val (.ref x), .val (.ref y), .val (.ref y)] [])) rfl (hb hbytes d19)
    have hh7 := q7.trans hh5
    have c8 : Steps p.tables e below (s₁.setTop (entryFrame m #[.ref x, .ref y] 3)) (T7.setTop (mkF m 26 #[.val (.ref x), .val (.ref y), .val (.ref y)] [.ref x])) := (c6.trans (st7 _ (Steps.refl _))).trans (by
      refine XS.ifNo X7.here hexec rfl (hb hbytes d22) rfl (i0_eq_f hz) ?_
      refine XS.aloadN X7.here hexec rfl (hb hbytes d25) rfl rfl ?_
      exact Steps.refl _)
    obtain ⟨T9, X9, q9, st9⟩ := X7.hget hexec hown (wk W (.fieldLink "java/lang/String" 15 "java/lang/String" "coder" "B")) (hx.mv X7.warmed.alike hh7).2.2.1 (g := (mkF m 26 #[.val (.ref x), .val (.ref y), .val (.ref y)] [.ref x])) rfl (rest := []) rfl (hb hbytes d26)
    have hh9 := q9.trans hh7
    have c10 : Steps p.tables e below (s₁.setTop (entryFrame m #[.ref x, .ref y] 3)) (T9.setTop (mkF m 30 #[.val (.ref x), .val (.ref y), .val (.ref y)] [.ref y, .int cd])) := (c8.trans (st9 _ (Steps.refl _))).trans (by
      refine XS.aloadN X9.here hexec rfl (hb hbytes d29) rfl rfl ?_
      exact Steps.refl _)
    obtain ⟨T11, X11, q11, st11⟩ := X9.hget hexec hown (wk W (.fieldLink "java/lang/String" 15 "java/lang/String" "coder" "B")) (hy.mv X9.warmed.alike hh9).2.2.1 (g := (mkF m 30 #[.val (.ref x), .val (.ref y), .val (.ref y)] [.ref y, .int cd])) rfl (rest := [.int cd]) rfl (hb hbytes d30)
    have hh11 := q11.trans hh9
    have c12 : Steps p.tables e below (s₁.setTop (entryFrame m #[.ref x, .ref y] 3)) (T11.setTop (mkF m 33 #[.val (.ref x), .val (.ref y), .val (.ref y)] [.int cd', .int cd])) := c10.trans (st11 _ (Steps.refl _))
    by_cases hcd : cd = cd'
    · subst hcd
      have c13 : Steps p.tables e below (s₁.setTop (entryFrame m #[.ref x, .ref y] 3)) (T11.setTop (mkF m 37 #[.val (.ref x), .val (.ref y), .val (.ref y)] [.ref x])) := c12.trans (by
        refine XS.icmpNo X11.here hexec rfl (hb hbytes d33) rfl (ii_ne_f rfl) ?_
        refine XS.aloadN X11.here hexec rfl (hb hbytes d36) rfl rfl ?_
        exact Steps.refl _)
      obtain ⟨T14, X14, q14, st14⟩ := X11.hget hexec hown (wk W (.fieldLink "java/lang/String" 9 "java/lang/String" "value" "[B")) (hx.mv X11.warmed.alike hh11).2.1 (g := (mkF m 37 #[.val (.ref x), .val (.ref y), .val (.ref y)] [.ref x])) rfl (rest := []) rfl (hb hbytes d37)
      have hh14 := q14.trans hh11
      have c15 : Steps p.tables e below (s₁.setTop (entryFrame m #[.ref x, .ref y] 3)) (T14.setTop (mkF m 41 #[.val (.ref x), .val (.ref y), .val (.ref y)] [.ref y, .ref t])) := (c13.trans (st14 _ (Steps.refl _))).trans (by
        refine XS.aloadN X14.here hexec rfl (hb hbytes d40) rfl rfl ?_
        exact Steps.refl _)
      obtain ⟨T16, X16, q16, st16⟩ := X14.hget hexec hown (wk W (.fieldLink "java/lang/String" 9 "java/lang/String" "value" "[B")) (hy.mv X14.warmed.alike hh14).2.1 (g := (mkF m 41 #[.val (.ref x), .val (.ref y), .val (.ref y)] [.ref y, .ref t])) rfl (rest := [.ref t]) rfl (hb hbytes d41)
      have hh16 := q16.trans hh14
      have c17 : Steps p.tables e below (s₁.setTop (entryFrame m #[.ref x, .ref y] 3)) (T16.setTop (mkF m 44 #[.val (.ref x), .val (.ref y), .val (.ref y)] [.ref t', .ref t])) := c15.trans (st16 _ (Steps.refl _))
      obtain ⟨v18, T18, X18, E18, g18⟩ := X16.callS hexec (LEq.law l t V t' V') hown (wks W (staticW "java/lang/String" 541 LEq.yN)) (wk W LEq.tab) (W := 0) (Nat.le_of_ble_eq_true rfl) (Nat.le_of_ble_eq_true rfl) (Nat.le_refl _) (Nat.le_refl _) (g := (mkF m 44 #[.val (.ref x), .val (.ref y), .val (.ref y)] [.ref t', .ref t])) rfl (by rw [hml]; rfl) c17 (argsL := [.ref t, .ref t']) (rest := []) rfl rfl (by show 2 * 0 + 0 ≤ _; decide) (hb hbytes d44) (⟨rfl, hx.2.2.2.1.mv X16.warmed.alike hh16, hx.2.2.2.2.1.ty, hy.2.2.2.1.mv X16.warmed.alike hh16, hy.2.2.2.2.1.ty⟩)
      obtain ⟨v, rfl, q18, hv⟩ := E18
      have iff := Cod.eqv hx.2.2.2.2.1 hy.2.2.2.2.1 hx.2.2.2.2.2 hy.2.2.2.2.2
      rcases hv with ⟨rfl, he⟩ | ⟨rfl, he⟩
      · have c19 : Steps p.tables e below (s₁.setTop (entryFrame m #[.ref x, .ref y] 3)) (T18.setTop (mkF m 55 #[.val (.ref x), .val (.ref y), .val (.ref y)] [.int 1])) := Steps.trans g18 (by
          refine XS.ifNo X18.here hexec rfl (hb hbytes d47) rfl (i0_eq_f (by decide)) ?_
          refine iconstV X18.here hexec rfl 1 (hb hbytes d50) (by decide) ?_
          refine XS.goto X18.here hexec rfl (pc0 := 51) rfl (hb hbytes d51) (by decide) rfl ?_
          exact Steps.refl _)
        exact ⟨T18, some (.int 1), _, _, _, X18, rfl, rfl, rfl, (fun h => by cases h), ⟨1, rfl, q18.trans hh16, Or.inl ⟨rfl, iff.mp he⟩⟩, fun fs hl => c19.trans (X18.ireturnOut hexec hret rfl (Or.inr (Or.inl rfl)) (hb hbytes d55) hl)⟩
      · have c19 : Steps p.tables e below (s₁.setTop (entryFrame m #[.ref x, .ref y] 3)) (T18.setTop (mkF m 55 #[.val (.ref x), .val (.ref y), .val (.ref y)] [.int 0])) := Steps.trans g18 (by
          refine XS.ifYes X18.here hexec rfl (pc0 := 47) rfl (hb hbytes d47) rfl (i0_eq_t rfl) (by decide) rfl ?_
          refine iconstV X18.here hexec rfl 0 (hb hbytes d54) (by decide) ?_
          exact Steps.refl _)
        exact ⟨T18, some (.int 0), _, _, _, X18, rfl, rfl, rfl, (fun h => by cases h), ⟨0, rfl, q18.trans hh16, Or.inr ⟨rfl, fun q => he (iff.mpr q)⟩⟩, fun fs hl => c19.trans (X18.ireturnOut hexec hret rfl (Or.inr (Or.inl rfl)) (hb hbytes d55) hl)⟩
    · have c13 : Steps p.tables e below (s₁.setTop (entryFrame m #[.ref x, .ref y] 3)) (T11.setTop (mkF m 55 #[.val (.ref x), .val (.ref y), .val (.ref y)] [.int 0])) := c12.trans (by
        refine XS.icmpYes X11.here hexec rfl (pc0 := 33) rfl (hb hbytes d33) rfl (ii_ne_t hcd) (by decide) rfl ?_
        refine iconstV X11.here hexec rfl 0 (hb hbytes d54) (by decide) ?_
        exact Steps.refl _)
      exact ⟨T11, some (.int 0), _, _, _, X11, rfl, rfl, rfl, (fun h => by cases h), ⟨0, rfl, hh11, Or.inr ⟨rfl, Cod.dif hx.2.2.2.2.1 hy.2.2.2.2.1 hcd⟩⟩, fun fs hl => c13.trans (X11.ireturnOut hexec hret rfl (Or.inr (Or.inl rfl)) (hb hbytes d55) hl)⟩
theorem pays {l : Launch} {R : Room} {p : Program} {e : Env} {below : List Frame} {s : State} {sargs : Array Value} {len W : Nat} (x t : Addr) (V : Cell) (cd : Int32) (n : Nat) (f : Nat → Int32) (y t' : Addr) (V' : Cell) (cd' : Int32) (k : Nat) (g : Nat → Int32) (z : Int32) (htab : tab.before sargs s = true) (hfr : 2 ≤ R.frames) (hlo : W + 28 ≤ R.locals) :
    Back l R p e below s sargs yN len W (fun A₁ a₁ => A₁.cells + 0 ≤ R.cells ∧ A₁.slots + 0 ≤ R.slots ∧ P x t V cd n f y t' V' cd' k g z a₁ A₁.U) (fun A₁ _ v₁ B₁ => Says01 (SameT n f k g) v₁ A₁.U B₁.U ∧ B₁.locs = A₁.locs ++ [] ∧ B₁.cells = A₁.cells + 0 ∧ B₁.slots = A₁.slots + 0) :=
  (law l x t V cd n f y t' V' cd' k g z).pays htab hfr (by omega)
end SEq
end StrChars
namespace StrChars.Road
open Jvm Sem ClassFile Op Lib Jvm.Stand Jvm.Free Jvm.Free.XT
open Jvm.Lib.Cold (StaticIs)
/-- the words of String.equals(Object) -/
abbrev wordsEq : List Jvm.Cond := [.code SEq.yN SEq.yB 3 (some .boolean), .initialized ST, .classLink ST 10 ST, .fieldLink ST 38 ST "COMPACT_STRINGS" "Z", .fieldLink ST 15 ST "coder" "B", .fieldLink ST 9 ST "value" "[B", .methodLink ST 541 LEq.yN, .static LEq.yN, .code LEq.yN LEq.yB 3 (some .boolean), .initialized "java/lang/StringLatin1"]
theorem tabEq_of {a : Array Value} {s : State} (h : ∀ w ∈ wordsEq, w.before a s = true) : SEq.tab.before a s = true := by
  have hl : LEq.tab.before a s = true := unparts (wk h (.code LEq.yN LEq.yB 3 (some .boolean))) (wks h (.initialized LEq.yN.cls :: LEq.site))
  have q := consq hl h
  exact unparts (wk q (.code SEq.yN SEq.yB 3 (some .boolean))) (wks q (.initialized SEq.yN.cls :: SEq.site))
theorem movedEq {Z s : State} {a0 args : Array Value} (hZ : Z.Warmed39 s.vm) (hw : ∀ d ∈ wordsEq, d.before a0 Z = true) : ∀ d ∈ wordsEq, d.before args s = true := fun d hd => by
  have t : ∀ d ∈ wordsEq, (d.onTables && d.keepsFace) = true := by decide +kernel
  exact RoadKit.mv hZ (hw d hd) (t d hd)
/-- the road's facts of a String, as the laws ask it -/
theorem txt_of {Z U : State} {a0 : Array Value} {kI : Nat} (wi : (Jvm.Cond.instantiable ST kI).before a0 Z = true) (al : Z.vm.Alike U.vm) {x t : Addr} {kb : ClassId} {cs : List Int32} {cd N2 : Int32} {vs : List Value} (E : RoadKit.Exa Z U.heap x ST) (V : RoadKit.Fld Z U.heap x ST "value" "[B" (.ref t)) (C : RoadKit.Fld Z U.heap x ST "coder" "B" (.int cd)) (K : RoadKit.Arv Z U.heap t kb .byte N2 vs (.int 0)) (hc : CodA cs cd N2 vs) (hb : ∀ c ∈ cs, ¬ c < 0 ∧ ¬ (65535 : Int32) < c) (l2 : cs.length ≤ 4000) :
    ∃ A, Txt x t A cd cs.length (fun j => cs.getD j 0) U := by
  obtain ⟨A, K1, K2, K3, K4, K5, K6⟩ := K
  have hcod := hc.cod (by omega) K3 K5
  obtain ⟨D, fV, fC, hB, F1, F2, g1, g2, -, -⟩ := strObj wi al E V C
  exact ⟨A, ⟨_, hB.2.2.1, D, hB.1, rfl, by cases q : D.vm <;> first | rfl | exact absurd q (hB.2.1.2 _)⟩, Has.of hB F1 g1, Has.of hB F2 g2, ⟨K1.1, State.isArrayOf_alike al K1.2.1, K1.2.2, by rcases hcod with ⟨-, q, -⟩ | ⟨-, q, -⟩ <;> omega⟩, hcod, fun j hj => by
    have e : cs.getD j 0 = cs[j] := by simp [List.getD_eq_getElem?_getD, hj]
    show ¬ cs.getD j 0 < 0 ∧ ¬ 65535 < cs.getD j 0
    rw [e]; exact hb _ (List.getElem_mem _)⟩
theorem same_list (cs ds : List Int32) : SameT cs.length (fun j => cs.getD j 0) ds.length (fun j => ds.getD j 0) ↔ cs = ds := by
  constructor
  · rintro ⟨e, q⟩
    refine List.ext_getElem e fun j h1 h2 => ?_
    have := q j h1
    simpa [List.getD_eq_getElem?_getD, h1, h2] using this
  · rintro rfl
    exact ⟨rfl, fun _ _ => rfl⟩
/-- **equals(Object) OF TWO SUCH STRINGS**: 1 just where the chars are the same -/
theorem eqW {p : Program} {l : Launch} {e : Env} {R : Room} {s : State} {args : Array Value} {below : List Frame} {len W : Nat} {Z : State} {a0 : Array Value} {h : Heap} (hZ : Z.Warmed39 s.vm) (hw : ∀ d ∈ wordsEq, d.before a0 Z = true) {kI : Nat} (wi : (Jvm.Cond.instantiable ST kI).before a0 Z = true)
    {x t : Addr} {kb : ClassId} {cs : List Int32} {cd N2 : Int32} {vs : List Value} (E : RoadKit.Exa Z h x ST) (V : RoadKit.Fld Z h x ST "value" "[B" (.ref t)) (C : RoadKit.Fld Z h x ST "coder" "B" (.int cd)) (K : RoadKit.Arv Z h t kb .byte N2 vs (.int 0)) (hc : CodA cs cd N2 vs) (hb : ∀ c ∈ cs, ¬ c < 0 ∧ ¬ (65535 : Int32) < c) (l2 : cs.length ≤ 4000)
    {y t' : Addr} {kb' : ClassId} {ds : List Int32} {cd' N2' : Int32} {vs' : List Value} (E' : RoadKit.Exa Z h y ST) (V' : RoadKit.Fld Z h y ST "value" "[B" (.ref t')) (C' : RoadKit.Fld Z h y ST "coder" "B" (.int cd')) (K' : RoadKit.Arv Z h t' kb' .byte N2' vs' (.int 0)) (hc' : CodA ds cd' N2' vs') (hb' : ∀ c ∈ ds, ¬ c < 0 ∧ ¬ (65535 : Int32) < c) (l2' : ds.length ≤ 4000)
    {z : Int32} (S : RoadKit.Sta Z h ST "COMPACT_STRINGS" "Z" (.int z)) (hz : ¬ z = 0) (hfr : 2 ≤ R.frames) (hlo : W + 28 ≤ R.locals) :
    Back l R p e below s args (⟨"java/lang/String", "equals", "(Ljava/lang/Object;)Z"⟩ : MethodName) len W (fun P a => a = #[.ref x, .ref y] ∧ P.U.heap = h ∧ P.cells + 0 ≤ R.cells ∧ P.slots + 0 ≤ R.slots)
      (fun P _ v B => ∃ L, (((v = some (.int 1) ∧ cs = ds) ∨ (v = some (.int 0) ∧ ¬ cs = ds)) ∧ L = [] ∧ B.U.heap = h) ∧ B.locs = P.locs ++ L ∧ B.cells = P.cells + 0 ∧ B.slots = P.slots + 0) := by
  intro m meth c P g ig mk a X hg hsize hdg hW hn hp'
  obtain ⟨rfl, rfl, r1, r2⟩ := hp'
  have al : Z.vm.Alike P.U.vm := hZ.alike.trans X.warmed.alike
  obtain ⟨A, hx⟩ := txt_of wi al E V C K hc hb l2
  obtain ⟨A', hy⟩ := txt_of wi al E' V' C' K' hc' hb' l2'
  obtain ⟨v, B, X', ⟨⟨w, hv, hh, hq⟩, hl, hk, hs⟩, st⟩ := SEq.pays x t A cd cs.length (fun j => cs.getD j 0) y t' A' cd' ds.length (fun j => ds.getD j 0) z (tabEq_of (movedEq hZ hw)) hfr hlo m meth c P g ig mk _ X hg hsize hdg hW hn ⟨r1, r2, rfl, hx, hy, sta_is al S, hz⟩
  refine ⟨v, B, X', ⟨[], ⟨?_, rfl, hh⟩, hl, hk, hs⟩, st⟩
  rcases hq with ⟨rfl, q⟩ | ⟨rfl, q⟩
  · exact Or.inl ⟨hv, (same_list cs ds).mp q⟩
  · exact Or.inr ⟨hv, fun e => q ((same_list cs ds).mpr e)⟩
end StrChars.Road
namespace StrChars
open Jvm Sem ClassFile Op Lib Jvm.Stand Jvm.Free.XT Jvm.Free.ALB Jvm.Free.JM Jvm.Free
open Jvm.Lib.Cold (StaticIs)
namespace ChN
def yN : MethodName := ⟨"java/lang/String", "charAt", "(I)C"⟩
abbrev yB : ByteArray := jdk_42_method_56_code
theorem d0 : decode yB 0 = .ok (.aload_n 0, 1) := by decide +kernel
theorem d1 : decode yB 1 = .ok (.invokevirtual 492, 3) := by decide +kernel
theorem d4 : decode yB 4 = .ok (.ifCond (.eq) 12, 3) := by decide +kernel
theorem d7 : decode yB 7 = .ok (.aload_n 0, 1) := by decide +kernel
theorem d8 : decode yB 8 = .ok (.getfield 9, 3) := by decide +kernel
theorem d11 : decode yB 11 = .ok (.iload_n 1, 1) := by decide +kernel
theorem d12 : decode yB 12 = .ok (.invokestatic 495, 3) := by decide +kernel
theorem d15 : decode yB 15 = .ok (.ireturn, 1) := by decide +kernel
def site : List Cond := [.fieldLink "java/lang/String" 9 "java/lang/String" "value" "[B", IsL.tab, LChA.tab] ++ virtW "java/lang/String" 492 "java/lang/String" IsL.yN IsL.yN ++ staticW "java/lang/String" 495 LChA.yN
def tab : Cond := tabOf yN yB 2 (some .char) site
def P (x t : Addr) (V : Cell) (n : Nat) (f : Nat → Int32) (z : Int32) (fm : Value) (i : Nat) (args : Array Value) (s : State) : Prop := args = #[.ref x, .int (Int32.ofNat i)] ∧ Txt x t V 0 n f s ∧ i < n ∧ StaticIs s "java/lang/String" "COMPACT_STRINGS" "Z" (.int z) ∧ ¬ z = 0 ∧ StaticIs s "jdk/internal/util/Preconditions" "SIOOBE_FORMATTER" "Ljava/util/function/BiFunction;" fm ∧ fm.isRef = true
def E (f : Nat → Int32) (i : Nat) (r : Option Value) (s u : State) : Prop := XT.PureE (some (.int (f i))) r s u
/-- charAt(i) of a Latin-1 String of n chars, i < n: f i -/
theorem law (l : Launch) (x t : Addr) (V : Cell) (n : Nat) (f : Nat → Int32) (z : Int32) (fm : Value) (i : Nat) : Law l yN 2 1 3 40 yB 2 (some .char) site (P x t V n f z fm i) (E f i) [] 0 0 := by
  refine Law.of_walk (plainFor_of_name (by decide +kernel)) (by decide +kernel) (by decide +kernel) (by decide) (fun _ _ h => by rw [h.1]; rfl) (fun _ U U' hal hh h => ⟨h.1, h.2.1.mv hal hh, h.2.2.1, h.2.2.2.1.there hal hh, h.2.2.2.2.1, h.2.2.2.2.2.1.there hal hh, h.2.2.2.2.2.2⟩) (fun r U U' V V' h1 hal h2 h => XT.PureE.mv r U U' V V' h1 hal h2 h) ?_
  intro p e s m args below meth c s₁ X0 hexec hbytes hml hret hlk hnm hown hh0 W hP
  obtain ⟨rfl, hx, hi, s1, hz, s3, rf⟩ := hP
  have v31 := hx.2.2.2.1.2.2.2
  have hr := hx.2.2.2.2.2 i hi
  have hx0 := hx.mv X0.warmed.alike hh0
  have c1 : Steps p.tables e below (s₁.setTop (entryFrame m #[.ref x, .int (Int32.ofNat i)] 2)) (s₁.setTop (mkF m 1 #[.val (.ref x), .val (.int (Int32.ofNat i))] [.ref x])) := Steps.trans (entry rfl) (by
    show Steps p.tables e below (s₁.setTop (mkF m 0 #[.val (.ref x), .val (.int (Int32.ofNat i))] [])) _
    refine XS.aloadN X0.here hexec rfl (hb hbytes d0) rfl rfl ?_
    exact Steps.refl _)
  obtain ⟨v2, T2, X2, E2, g2⟩ := X0.callV hexec (IsL.law l x 0 z) hown (wks W (virtW "java/lang/String" 492 "java/lang/String" IsL.yN IsL.yN)) rfl (by decide) (wk W IsL.tab) (W := 0) (Nat.le_of_ble_eq_true rfl) (Nat.le_of_ble_eq_true rfl) (Nat.le_refl _) (Nat.le_refl _) (hx0.1.fc X0.warmed.alike) hx0.1.is (g := (mkF m 1 #[.val (.ref x), .val (.int (Int32.ofNat i))] [.ref x])) rfl (by rw [hml]; rfl) c1 (argsL := []) (rest := []) rfl rfl (by show 2 * 0 + 0 ≤ _; decide) (hb hbytes d1) (⟨rfl, hx0.2.2.1, hx.2.2.2.2.1.cd, s1.there X0.warmed.alike hh0, hz⟩)
  obtain ⟨rfl, q2⟩ := E2
  have hh2 := q2.trans hh0
  have hx2 := hx.mv X2.warmed.alike hh2
  obtain ⟨-, k1, k2⟩ | ⟨k0, -⟩ := hx.2.2.2.2.1
  · have c3 : Steps p.tables e below (s₁.setTop (entryFrame m #[.ref x, .int (Int32.ofNat i)] 2)) (T2.setTop (mkF m 8 #[.val (.ref x), .val (.int (Int32.ofNat i))] [.ref x])) := Steps.trans g2 (by
      refine XS.ifNo X2.here hexec rfl (hb hbytes d4) rfl (i0_eq_f (by decide)) ?_
      refine XS.aloadN X2.here hexec rfl (hb hbytes d7) rfl rfl ?_
      exact Steps.refl _)
    obtain ⟨T4, X4, q4, st4⟩ := X2.hget hexec hown (wk W (.fieldLink "java/lang/String" 9 "java/lang/String" "value" "[B")) hx2.2.1 (g := (mkF m 8 #[.val (.ref x), .val (.int (Int32.ofNat i))] [.ref x])) rfl (rest := []) rfl (hb hbytes d8)
    have hh4 := q4.trans hh2
    have c5 : Steps p.tables e below (s₁.setTop (entryFrame m #[.ref x, .int (Int32.ofNat i)] 2)) (T4.setTop (mkF m 12 #[.val (.ref x), .val (.int (Int32.ofNat i))] [.int (Int32.ofNat i), .ref t])) := (c3.trans (st4 _ (Steps.refl _))).trans (by
      refine XS.iloadN X4.here hexec rfl (hb hbytes d11) rfl ?_
      exact Steps.refl _)
    obtain ⟨v6, T6, X6, E6, g6⟩ := X4.callS hexec (LChA.law l t V i (lo8 (f i)) fm) hown (wks W (staticW "java/lang/String" 495 LChA.yN)) (wk W LChA.tab) (W := 0) (Nat.le_of_ble_eq_true rfl) (Nat.le_of_ble_eq_true rfl) (Nat.le_refl _) (Nat.le_refl _) (g := (mkF m 12 #[.val (.ref x), .val (.int (Int32.ofNat i))] [.int (Int32.ofNat i), .ref t])) rfl (by rw [hml]; rfl) c5 (argsL := [.ref t, .int (Int32.ofNat i)]) (rest := []) rfl rfl (by show 2 * 0 + 0 ≤ _; decide) (hb hbytes d12) (⟨rfl, hx.2.2.2.1.mv X4.warmed.alike hh4, (k2 i hi).1, s3.there X4.warmed.alike hh4, rf⟩)
    obtain ⟨rfl, q6⟩ := E6
    rw [chr8_lo8 hr.1 (k2 i hi).2] at g6
    exact ⟨T6, some (.int (f i)), _, _, _, X6, rfl, rfl, rfl, (fun h => by cases h), ⟨rfl, q6.trans hh4⟩, fun fs hl => Steps.trans g6 (X6.ireturnOut hexec hret (narrow_ch hr.1 hr.2) (Or.inr (Or.inr (Or.inr (Or.inl rfl)))) (hb hbytes d15) hl)⟩
  · exact absurd k0 (by decide)
theorem pays {l : Launch} {R : Room} {p : Program} {e : Env} {below : List Frame} {s : State} {sargs : Array Value} {len W : Nat} (x t : Addr) (V : Cell) (n : Nat) (f : Nat → Int32) (z : Int32) (fm : Value) (i : Nat) (htab : tab.before sargs s = true) (hfr : 4 ≤ R.frames) (hlo : W + 53 ≤ R.locals) :
    Back l R p e below s sargs yN len W (fun A₁ a₁ => A₁.cells + 0 ≤ R.cells ∧ A₁.slots + 0 ≤ R.slots ∧ P x t V n f z fm i a₁ A₁.U) (fun A₁ _ v₁ B₁ => E f i v₁ A₁.U B₁.U ∧ B₁.locs = A₁.locs ++ [] ∧ B₁.cells = A₁.cells + 0 ∧ B₁.slots = A₁.slots + 0) :=
  (law l x t V n f z fm i).pays htab hfr (by omega)
end ChN
end StrChars
namespace StrChars.Road
open Jvm Sem ClassFile Op Lib Jvm.Stand Jvm.Free Jvm.Free.XT
open Jvm.Lib.Cold (StaticIs)
/-- the words of String.charAt(int), the Latin-1 road alone -/
abbrev wordsChN : List Jvm.Cond := [.code ChN.yN ChN.yB 2 (some .char), .initialized ST, .fieldLink ST 9 ST "value" "[B", .fieldLink ST 38 ST "COMPACT_STRINGS" "Z", .fieldLink ST 15 ST "coder" "B", .code IsL.yN IsL.yB 1 (some .boolean), .methodLink ST 492 IsL.yN, .declares IsL.yN, .selects ST IsL.yN IsL.yN, .instanceMethod IsL.yN,
  .methodLink ST 495 LChA.yN, .static LChA.yN, .code LChA.yN LChA.yB 2 (some .char), .initialized "java/lang/StringLatin1", .methodLink "java/lang/StringLatin1" 9 JO.Str_checkIndex.yN, .static JO.Str_checkIndex.yN, .code JO.Str_checkIndex.yN JO.Str_checkIndex.yB 2 none,
  .fieldLink ST 1053 "jdk/internal/util/Preconditions" "SIOOBE_FORMATTER" "Ljava/util/function/BiFunction;", .methodLink ST 1059 JC.PreCheck.yN, .static JC.PreCheck.yN, .code JC.PreCheck.yN JC.PreCheck.yB 3 (some .int), .initialized "jdk/internal/util/Preconditions"]
theorem tabChN_of {a : Array Value} {s : State} (h : ∀ w ∈ wordsChN, w.before a s = true) : ChN.tab.before a s = true := by
  have hp : JC.PreCheck.tab.before a s = true := unparts (wk h (.code JC.PreCheck.yN JC.PreCheck.yB 3 (some .int))) (wks h (.initialized JC.PreCheck.yN.cls :: JC.PreCheck.site))
  have qk := consq hp h
  have hk : JO.Str_checkIndex.tab.before a s = true := unparts (wk qk (.code JO.Str_checkIndex.yN JO.Str_checkIndex.yB 2 none)) (wks qk (.initialized JO.Str_checkIndex.yN.cls :: JO.Str_checkIndex.site))
  have ql := consq hk h
  have hl : LChA.tab.before a s = true := unparts (wk ql (.code LChA.yN LChA.yB 2 (some .char))) (wks ql (.initialized LChA.yN.cls :: LChA.site))
  have hi : IsL.tab.before a s = true := unparts (wk h (.code IsL.yN IsL.yB 1 (some .boolean))) (wks h (.initialized IsL.yN.cls :: IsL.site))
  have q := consq hi (consq hl h)
  exact unparts (wk q (.code ChN.yN ChN.yB 2 (some .char))) (wks q (.initialized ChN.yN.cls :: ChN.site))
theorem movedChN {Z s : State} {a0 args : Array Value} (hZ : Z.Warmed39 s.vm) (hw : ∀ d ∈ wordsChN, d.before a0 Z = true) : ∀ d ∈ wordsChN, d.before args s = true := fun d hd => by
  have t : ∀ d ∈ wordsChN, (d.onTables && d.keepsFace) = true := by decide +kernel
  exact RoadKit.mv hZ (hw d hd) (t d hd)
/-- **charAt(i) OF A LATIN-1 STRING**, i < n: the char -/
theorem chN {p : Program} {l : Launch} {e : Env} {R : Room} {s : State} {args : Array Value} {below : List Frame} {len W : Nat} {Z : State} {a0 : Array Value} {h : Heap} (hZ : Z.Warmed39 s.vm) (hw : ∀ d ∈ wordsChN, d.before a0 Z = true) {kI : Nat} (wi : (Jvm.Cond.instantiable ST kI).before a0 Z = true)
    {x t : Addr} {kb : ClassId} {cs : List Int32} {N2 z : Int32} {vs : List Value} {fm : Value} {i : Nat} {j : Int32} (E : RoadKit.Exa Z h x ST) (V : RoadKit.Fld Z h x ST "value" "[B" (.ref t)) (C : RoadKit.Fld Z h x ST "coder" "B" (.int 0)) (K : RoadKit.Arv Z h t kb .byte N2 vs (.int 0)) (hc : CodA cs 0 N2 vs) (hb : ∀ c ∈ cs, ¬ c < 0 ∧ ¬ (65535 : Int32) < c)
    (S : RoadKit.Sta Z h ST "COMPACT_STRINGS" "Z" (.int z)) (hz : ¬ z = 0) (F : RoadKit.Sta Z h "jdk/internal/util/Preconditions" "SIOOBE_FORMATTER" "Ljava/util/function/BiFunction;" fm) (rf : fm.isRef = true) (l2 : cs.length ≤ 4000) (hi : i < cs.length) (hj : j = Int32.ofNat i) (hfr : 4 ≤ R.frames) (hlo : W + 53 ≤ R.locals) :
    Back l R p e below s args (⟨"java/lang/String", "charAt", "(I)C"⟩ : MethodName) len W (fun P a => a = #[.ref x, .int j] ∧ P.U.heap = h ∧ P.cells + 0 ≤ R.cells ∧ P.slots + 0 ≤ R.slots)
      (fun P _ v B => ∃ L, (v = some (.int (cs.getD i 0)) ∧ L = [] ∧ B.U.heap = h) ∧ B.locs = P.locs ++ L ∧ B.cells = P.cells + 0 ∧ B.slots = P.slots + 0) := by
  subst hj
  intro m meth c P g ig mk a X hg hsize hdg hW hn hp'
  obtain ⟨rfl, rfl, r1, r2⟩ := hp'
  have al : Z.vm.Alike P.U.vm := hZ.alike.trans X.warmed.alike
  obtain ⟨A, hx⟩ := txt_of wi al E V C K hc hb l2
  obtain ⟨v, B, X', ⟨⟨hv, hh⟩, hl, hk, hs⟩, st⟩ := ChN.pays x t A cs.length (fun j => cs.getD j 0) z fm i (tabChN_of (movedChN hZ hw)) hfr hlo m meth c P g ig mk _ X hg hsize hdg hW hn ⟨r1, r2, rfl, hx, hi, sta_is al S, hz, sta_is al F, rf⟩
  exact ⟨v, B, X', ⟨[], ⟨hv, rfl, hh⟩, hl, hk, hs⟩, st⟩
/-- what backV says of its String, as the contracts of this text ask it: cs's low bytes, coder 0 -/
theorem codOf {cs : List Int32} {n : Nat} (hn : cs.length = n) (hb : ∀ c ∈ cs, ¬ 255 < c) : CodA cs 0 (Int32.ofNat n) ((cs.map lo8).map Value.int) := Or.inl ⟨rfl, by rw [hn], by simp [List.map_map, Function.comp_def], hb⟩
end StrChars.Road
end Jvm.Pilot.@@N@@
namespace Jvm.Pilot.@@N@@
open Jvm Jvm.ClassFile Sem Op Lib Jvm.Free Jvm.Stand Jvm.LawKit Jvm.RoadKit Bundle Jvm.Pilot.@@N@@.Jvm.D
-- own prelude: a walk as a chain of goals Go (from here the method comes to its end, and Fin holds there)
def PT (W : Bool) (EL : List (String × Nat)) (Z : State) (a0 : Array Value) (own : String) (p : Program) (l : Launch) (e : Env) (R : Room) (s : State) (m : MethodId) (args : Array Value) (below : List Frame) (meth : Method) (c : Code) (T : State) (h : Heap) (cells slots : Nat) : Prop :=
  ∃ (vm0 : Vm) (k0 : Nat) (locs : List Loc), (W = false → vm0 = s.vm) ∧ Stand p l e R (s.setVm vm0) m args below meth c T locs cells slots ∧ T.heap = h ∧ p.tables.exec = Jvm.exec ∧ Z.Warmed39 vm0 ∧ vm0.findClass own = some m.cls ∧ s.Since vm0 k0 ∧ k0 ≤ h.size ∧ EW Z a0 EL ∧ CHr Z EL s.vm s.heap vm0 h ∧ Fr Z.heap.size locs ∧ Old Z Z.heap.size h
def Go (W : Bool) (EL : List (String × Nat)) (Z : State) (a0 : Array Value) (own : String) (p : Program) (l : Launch) (e : Env) (R : Room) (s : State) (m : MethodId) (args : Array Value) (below : List Frame) (meth : Method) (c : Code) (F : Outcome → State → Prop) (h : Heap) (cells slots : Nat) (g : JFrame) : Prop :=
  ∀ T, PT W EL Z a0 own p l e R s m args below meth c T h cells slots → ∃ t o, Steps p.tables e below (T.setTop g) t ∧ t.status = .running ∧ Ended t below o ∧ F o t
def Fend (W : Bool) (EL : List (String × Nat)) (Z : State) (s : State) (h0 : Heap) (ws : List Addr) (Q : Option Value → Heap → Prop) (dc ds : Nat) (o : Outcome) (t : State) : Prop :=
  ∃ v L, o = .returned v ∧ (Q v t.heap ∧ Fr Z.heap.size L ∧ Keep h0 t.heap ws) ∧ (W = true → CHr Z EL s.vm s.heap t.vm t.heap ∧ ReturnedEndW s o t L dc ds) ∧ (W = false → FrameEnd s o t L dc ds)
def Con (W : Bool) (EL : List (String × Nat)) (l : Launch) (Z : State) (y : MethodName) (bytes : ByteArray) (maxL : Nat) (ret : Option FieldType) (wl : List Jvm.Cond) (rm : Room) (as' : Array Value) (h : Heap) (ws : List Addr) (Q : Option Value → Heap → Prop) : Prop :=
  MetFree l y (head1 (Jvm.Cond.code y bytes maxL ret :: wl) rm) (fun a U => a = as' ∧ Z.Warmed39 U.vm ∧ U.heap = h ∧ (W = true → CHv Z EL U.vm h)) (fun _ _ _ _ _ => True) (fun _ U o U' => Fend W EL Z U h ws Q rm.cells rm.slots o U')
def rvl (Q : Value → Heap → Prop) (v : Option Value) (h : Heap) : Prop := ∃ x, v = some x ∧ Q x h
def rno (Q : Heap → Prop) (v : Option Value) (h : Heap) : Prop := v = none ∧ Q h
def Pay (l : Launch) (R : Room) (p : Program) (e : Env) (below : List Frame) (Z : State) (y : MethodName) (Wd : Nat) (as' : Array Value) (h : Heap) (dc ds : Nat) (ws : List Addr) (Q : Option Value → Heap → Prop) : Prop :=
  ∀ (s : State) (args : Array Value), Z.Warmed39 s.vm → Back l R p e below s args y 3 Wd (fun A a => a = as' ∧ A.U.heap = h ∧ A.cells + dc ≤ R.cells ∧ A.slots + ds ≤ R.slots) (fun A _ v B => ∃ L, (Q v B.U.heap ∧ Fr Z.heap.size L ∧ Keep h B.U.heap ws) ∧ B.locs = A.locs ++ L ∧ B.cells = A.cells + dc ∧ B.slots = A.slots + ds)
def PayW (EL : List (String × Nat)) (l : Launch) (R : Room) (p : Program) (e : Env) (below : List Frame) (Z : State) (y : MethodName) (Wd : Nat) (as' : Array Value) (h : Heap) (dc ds : Nat) (ws : List Addr) (Q : Option Value → Heap → Prop) : Prop :=
  ∀ (s : State) (vm0 : Vm) (args : Array Value), Z.Warmed39 vm0 → CHv Z EL vm0 h → BackS l R p e below (s.setVm vm0) args y 3 Wd (fun A a => a = as' ∧ A.U.heap = h ∧ A.cells + dc ≤ R.cells ∧ A.slots + ds ≤ R.slots) (fun A _ v B => ∃ L, (Q v B.U.heap ∧ Fr Z.heap.size L ∧ Keep h B.U.heap ws) ∧ B.locs = A.locs ++ L ∧ B.cells = A.cells + dc ∧ B.slots = A.slots + ds ∧ CHr Z EL vm0 h B.U.vm B.U.heap)
abbrev rm4 (a b c d : Nat) : Room := { frames := a, cells := b, slots := c, locals := d }
theorem nb {a b : Nat} (q : Nat.ble a b = true) : a ≤ b := Nat.le_of_ble_eq_true q
theorem sz {ls : Array Slot} {c : Code} {n : Nat} (h : c.maxLocals = n) (q : ls.size = n := by rfl) : ls.size = c.maxLocals := q.trans h.symm
abbrev vi (x : Int32) : Slot := .val (.int x)
abbrev vr (x : Addr) : Slot := .val (.ref x)
abbrev un : Slot := .unset
section Own
variable {W : Bool} {EL : List (String × Nat)} {Z : State} {a0 : Array Value} {own : String} {p : Program} {l : Launch} {e : Env} {R : Room} {s : State} {m : MethodId} {args : Array Value} {below : List Frame} {meth : Method} {c : Code} {F : Outcome → State → Prop} {h : Heap} {cells slots cells' slots' : Nat} {pc pc' : Nat} {ls ls' : Array Slot} {st : List Value}
variable (pc')
theorem safe_nil {vm : Vm} {x : Addr} : Safe Z [] vm h x := fun ⟨_, hp, _⟩ => nomatch hp
theorem chv_nil {vm : Vm} : CHv Z [] vm h := fun _ hp => nomatch hp
theorem con_of {y : MethodName} {bytes : ByteArray} {maxL : Nat} {ret : Option FieldType} {wl : List Jvm.Cond} {rm : Room} {as' : Array Value} {ws : List Addr} {Q : Option Value → Heap → Prop} (hname : plainFor y = true) (hWE : W = false → EL = []) (hEL : EW Z a0 EL) (hO : Old Z Z.heap.size h) (hef : ∀ m, entryFrame m as' maxL = mkF m 0 ls [])
    (body : ∀ (p : Program) (e : Env) (s : State) (m : MethodId) (below : List Frame) (meth : Method) (c : Code), (∀ {pc : Nat} {r : Except DecodeError (Instr × Nat)}, decode bytes pc = r → decode c.code pc = r) → c.maxLocals = maxL → meth.sig.returnType = ret → meth.locks = false → meth.name = y.name → Go W EL Z a0 y.cls p l e rm s m as' below meth c (Fend W EL Z s h ws Q rm.cells rm.slots) h 0 0 (mkF m 0 ls [])) :
    Con W EL l Z y bytes maxL ret wl rm as' h ws Q := by
  refine MetFree.of_bodySF hname hisR ?_
  intro p e s m args below meth c s₁ Bd hml hP _
  obtain ⟨rfl, hZ, hh, hC⟩ := hP
  have X0 : Stand p l e rm s m args below meth c s₁ [] 0 0 := Stand.of_body Bd
  have e0 : s₁.heap = h := by rw [← hh, Bd.state]; rfl
  have hown : s.vm.findClass y.cls = some m.cls := findClass_of_methodNamed Bd.named
  have hnm := (name_of_methodNamed Bd.named Bd.method).1
  have hcv : CHv Z EL s.vm h := by
    cases W
    · rw [hWE rfl]; exact chv_nil
    · exact hC rfl
  have hcr : CHr Z EL s.vm s.heap s.vm h := by rw [hh]; exact CHr.refl hcv
  obtain ⟨t, o, h1, h2⟩ := body p e s m below meth c (fun d => hb Bd.bytes d) hml Bd.returns Bd.notSynchronized hnm s₁ ⟨s.vm, h.size, [], fun _ => rfl, X0, e0, Bd.exec, hZ, hown, (State.WarmedH.refl s).since _, Nat.le_refl _, hEL, hcr, Fr.nil _, hO⟩
  exact ⟨t, o, castTop (hef m) h1, h2⟩
theorem sf00 {EL : List (String × Nat)} : ∀ vm, Z.vm.Alike vm → ∀ x ∈ ([] : List Addr), Safe Z EL vm h x := fun _ _ => sf0
theorem pay_of {y : MethodName} {bytes : ByteArray} {maxL : Nat} {ret : Option FieldType} {rm : Room} {as' : Array Value} {ws : List Addr} {Q : Option Value → Heap → Prop} {Wd : Nat} (hM : Con false [] l Z y bytes maxL ret [] rm as' h ws Q) (wc : (Jvm.Cond.code y bytes maxL ret).before a0 Z = true) (wz : (Jvm.Cond.initialized y.cls).before a0 Z = true) (hf : rm.frames + 1 ≤ R.frames := by decide) (hl : Wd + (maxL + 11) + rm.locals ≤ R.locals := by decide) :
    Pay l R p e below Z y Wd as' h rm.cells rm.slots ws Q := by
  intro s args hZ
  refine backOf (Q := fun v h' L => Q v h' ∧ Fr Z.heap.size L ∧ Keep h h' ws) ?_ hZ wc wz hf hl
  intro p e h1 h2 h3 s m args below h4 h5 h6 h7
  obtain ⟨n, o, q1, q2, q3, v, L, rfl, hq, -, hF⟩ := hM p e h1 h2 h3 s m args below h4 h5 ⟨h6.1, h6.2.1, h6.2.2, fun q => nomatch q⟩ h7
  exact ⟨n, _, q1, q2, q3, v, L, rfl, hq, hF rfl⟩
theorem payW_of {y : MethodName} {bytes : ByteArray} {maxL : Nat} {ret : Option FieldType} {rm : Room} {as' : Array Value} {ws : List Addr} {Q : Option Value → Heap → Prop} {Wd : Nat} (hM : Con true EL l Z y bytes maxL ret [] rm as' h ws Q) (wc : (Jvm.Cond.code y bytes maxL ret).before a0 Z = true) (wz : (Jvm.Cond.initialized y.cls).before a0 Z = true) (hEL : EW Z a0 EL) (hf : rm.frames + 1 ≤ R.frames := by decide) (hl : Wd + (maxL + 11) + rm.locals ≤ R.locals := by decide) :
    PayW EL l R p e below Z y Wd as' h rm.cells rm.slots ws Q := by
  intro s vm0 args hZ H
  refine backOfSH (Q := fun v h' L => Q v h' ∧ Fr Z.heap.size L ∧ Keep h h' ws) ?_ hZ wc wz hf hl hEL H
  intro p e h1 h2 h3 s m args below h4 h5 h6 h7
  obtain ⟨n, o, q1, q2, q3, v, L, rfl, hq, hC, -⟩ := hM p e h1 h2 h3 s m args below h4 h5 ⟨h6.1, h6.2.1, h6.2.2.1, fun _ => h6.2.2.2⟩ h7
  exact ⟨n, _, q1, q2, q3, v, L, rfl, hq, (hC rfl).1, (hC rfl).2⟩
theorem go_old {g0 : JFrame} (k : Old Z Z.heap.size h → Go W EL Z a0 own p l e R s m args below meth c F h cells slots (g0)) : Go W EL Z a0 own p l e R s m args below meth c F h cells slots (g0) := by
  intro T P
  exact k P.choose_spec.choose_spec.choose_spec.2.2.2.2.2.2.2.2.2.2.2 T P
theorem go_pure {g g' : JFrame} (stp : ∀ T : State, At T m c below → p.tables.exec = Jvm.exec → ∀ target, Steps p.tables e below (T.setTop g') target → Steps p.tables e below (T.setTop g) target) (k : Go W EL Z a0 own p l e R s m args below meth c F h cells slots (g')) : Go W EL Z a0 own p l e R s m args below meth c F h cells slots (g) := by
  intro T P
  obtain ⟨t, o, h1, h2⟩ := k T P
  obtain ⟨vm0, k0, locs, -, X, -, hx, -⟩ := P
  exact ⟨t, o, stp T X.here hx _ h1, h2⟩
theorem go_iconst {i : Int} {v : Int32} (hd : decode c.code pc = .ok (.iconst i, 1)) (hp : pc + 1 = pc') (hv : Int32.ofInt i = v) (k : Go W EL Z a0 own p l e R s m args below meth c F h cells slots (mkF m pc' ls (.int v :: st))) : Go W EL Z a0 own p l e R s m args below meth c F h cells slots (mkF m pc ls st) := by
  subst hp hv
  exact go_pure (fun T ha hx target hr => XS.iconst ha hx rfl hd hr) k
theorem go_bipush {i : Int} {v : Int32} (hd : decode c.code pc = .ok (.bipush i, 2)) (hp : pc + 2 = pc') (hv : (Int8.ofInt i).toInt32 = v) (k : Go W EL Z a0 own p l e R s m args below meth c F h cells slots (mkF m pc' ls (.int v :: st))) : Go W EL Z a0 own p l e R s m args below meth c F h cells slots (mkF m pc ls st) := by
  subst hp hv
  exact go_pure (fun T ha hx target hr => XS.bipush ha hx rfl hd hr) k
theorem go_sipush {i : Int} {v : Int32} (hd : decode c.code pc = .ok (.sipush i, 3)) (hp : pc + 3 = pc') (hv : (Int16.ofInt i).toInt32 = v) (k : Go W EL Z a0 own p l e R s m args below meth c F h cells slots (mkF m pc' ls (.int v :: st))) : Go W EL Z a0 own p l e R s m args below meth c F h cells slots (mkF m pc ls st) := by
  subst hp hv
  exact go_pure (fun T ha hx target hr => XS.sipush ha hx rfl hd hr) k
theorem go_aconst_null  (hd : decode c.code pc = .ok (.aconst_null, 1)) (hp : pc + 1 = pc')  (k : Go W EL Z a0 own p l e R s m args below meth c F h cells slots (mkF m pc' ls (.null :: st))) : Go W EL Z a0 own p l e R s m args below meth c F h cells slots (mkF m pc ls (st)) := by
  subst hp
  exact go_pure (fun T ha hx target hr => XS.aconstNull ha hx rfl hd hr) k
theorem go_aload_n {i : Fin 4} {v : Value} (hd : decode c.code pc = .ok (.aload_n i, 1)) (hp : pc + 1 = pc') (hl : ls[i.val]? = some (.val v)) (hv : v.isRef = true) (k : Go W EL Z a0 own p l e R s m args below meth c F h cells slots (mkF m pc' ls (v :: st))) : Go W EL Z a0 own p l e R s m args below meth c F h cells slots (mkF m pc ls (st)) := by
  subst hp
  exact go_pure (fun T ha hx target hr => XS.aloadN ha hx rfl hd hl hv hr) k
theorem go_aload {i : Nat} {v : Value} (hd : decode c.code pc = .ok (.aload i, 2)) (hp : pc + 2 = pc') (hl : ls[i]? = some (.val v)) (hv : v.isRef = true) (k : Go W EL Z a0 own p l e R s m args below meth c F h cells slots (mkF m pc' ls (v :: st))) : Go W EL Z a0 own p l e R s m args below meth c F h cells slots (mkF m pc ls (st)) := by
  subst hp
  exact go_pure (fun T ha hx target hr => XS.aload ha hx rfl hd hl hv hr) k
theorem go_iload_n {i : Fin 4} {v : Int32} (hd : decode c.code pc = .ok (.iload_n i, 1)) (hp : pc + 1 = pc') (hl : ls[i.val]? = some (.val (.int v))) (k : Go W EL Z a0 own p l e R s m args below meth c F h cells slots (mkF m pc' ls (.int v :: st))) : Go W EL Z a0 own p l e R s m args below meth c F h cells slots (mkF m pc ls (st)) := by
  subst hp
  exact go_pure (fun T ha hx target hr => XS.iloadN ha hx rfl hd hl hr) k
theorem go_iload {i : Nat} {v : Int32} (hd : decode c.code pc = .ok (.iload i, 2)) (hp : pc + 2 = pc') (hl : ls[i]? = some (.val (.int v))) (k : Go W EL Z a0 own p l e R s m args below meth c F h cells slots (mkF m pc' ls (.int v :: st))) : Go W EL Z a0 own p l e R s m args below meth c F h cells slots (mkF m pc ls (st)) := by
  subst hp
  exact go_pure (fun T ha hx target hr => XS.iload ha hx rfl hd hl hr) k
theorem go_istore_n {i : Fin 4} {v : Int32} (hd : decode c.code pc = .ok (.istore_n i, 1)) (hp : pc + 1 = pc') (hl : storeLocals ls i.val (.int v) = some ls') (k : Go W EL Z a0 own p l e R s m args below meth c F h cells slots (mkF m pc' ls' (st))) : Go W EL Z a0 own p l e R s m args below meth c F h cells slots (mkF m pc ls (.int v :: st)) := by
  subst hp
  exact go_pure (fun T ha hx target hr => XS.istoreN ha hx rfl hd rfl hl hr) k
theorem go_istore {i : Nat} {v : Int32} (hd : decode c.code pc = .ok (.istore i, 2)) (hp : pc + 2 = pc') (hl : storeLocals ls i (.int v) = some ls') (k : Go W EL Z a0 own p l e R s m args below meth c F h cells slots (mkF m pc' ls' (st))) : Go W EL Z a0 own p l e R s m args below meth c F h cells slots (mkF m pc ls (.int v :: st)) := by
  subst hp
  exact go_pure (fun T ha hx target hr => XS.istore ha hx rfl hd rfl hl hr) k
theorem go_astore {i : Nat} {v : Value} (hd : decode c.code pc = .ok (.astore i, 2)) (hp : pc + 2 = pc') (hv : v.isRef = true) (hl : storeLocals ls i v = some ls') (k : Go W EL Z a0 own p l e R s m args below meth c F h cells slots (mkF m pc' ls' (st))) : Go W EL Z a0 own p l e R s m args below meth c F h cells slots (mkF m pc ls (v :: st)) := by
  subst hp
  exact go_pure (fun T ha hx target hr => XS.astore ha hx rfl hd rfl hv hl hr) k
theorem go_iadd {x y z : Int32} (hd : decode c.code pc = .ok (.iadd, 1)) (hp : pc + 1 = pc') (hz : x + y = z) (k : Go W EL Z a0 own p l e R s m args below meth c F h cells slots (mkF m pc' ls (.int z :: st))) : Go W EL Z a0 own p l e R s m args below meth c F h cells slots (mkF m pc ls (.int y :: .int x :: st)) := by
  subst hp hz
  exact go_pure (fun T ha hx target hr => XS.iadd ha hx rfl hd rfl hr) k
theorem go_isub {x y z : Int32} (hd : decode c.code pc = .ok (.isub, 1)) (hp : pc + 1 = pc') (hz : x - y = z) (k : Go W EL Z a0 own p l e R s m args below meth c F h cells slots (mkF m pc' ls (.int z :: st))) : Go W EL Z a0 own p l e R s m args below meth c F h cells slots (mkF m pc ls (.int y :: .int x :: st)) := by
  subst hp hz
  exact go_pure (fun T ha hx target hr => XS.isub ha hx rfl hd rfl hr) k
theorem go_iand {x y z : Int32} (hd : decode c.code pc = .ok (.iand, 1)) (hp : pc + 1 = pc') (hz : x &&& y = z) (k : Go W EL Z a0 own p l e R s m args below meth c F h cells slots (mkF m pc' ls (.int z :: st))) : Go W EL Z a0 own p l e R s m args below meth c F h cells slots (mkF m pc ls (.int y :: .int x :: st)) := by
  subst hp hz
  exact go_pure (fun T ha hx target hr => XS.iand ha hx rfl hd rfl hr) k
theorem go_irem {x y z : Int32} (hd : decode c.code pc = .ok (.irem, 1)) (hp : pc + 1 = pc') (hy : y ≠ 0) (hz : x % y = z) (k : Go W EL Z a0 own p l e R s m args below meth c F h cells slots (mkF m pc' ls (.int z :: st))) : Go W EL Z a0 own p l e R s m args below meth c F h cells slots (mkF m pc ls (.int y :: .int x :: st)) := by
  subst hp hz
  intro T P
  obtain ⟨t, o, h1, h2⟩ := k T P
  obtain ⟨vm0, k0, locs, -, X, -, hx, -⟩ := P
  exact ⟨t, o, iremM X hx rfl hd rfl hy h1, h2⟩
theorem go_i2c {x : Int32} {z : Int32} (hd : decode c.code pc = .ok (.i2c, 1)) (hp : pc + 1 = pc') (hz : x.toUInt32.toUInt16.toUInt32.toInt32 = z) (k : Go W EL Z a0 own p l e R s m args below meth c F h cells slots (mkF m pc' ls (.int z :: st))) : Go W EL Z a0 own p l e R s m args below meth c F h cells slots (mkF m pc ls (.int x :: st)) := by
  subst hp hz
  exact go_pure (fun T ha hx target hr => XT.i2c ha hx rfl hd rfl hr) k
theorem go_dup {v : Value} (hd : decode c.code pc = .ok (.dup, 1)) (hp : pc + 1 = pc') (hc : v.category = 1) (k : Go W EL Z a0 own p l e R s m args below meth c F h cells slots (mkF m pc' ls (v :: v :: st))) : Go W EL Z a0 own p l e R s m args below meth c F h cells slots (mkF m pc ls (v :: st)) := by
  subst hp
  exact go_pure (fun T ha hx target hr => XS.dup ha hx rfl hd rfl hc hr) k
theorem go_pop {v : Value} (hd : decode c.code pc = .ok (.pop, 1)) (hp : pc + 1 = pc') (hc : v.category = 1) (k : Go W EL Z a0 own p l e R s m args below meth c F h cells slots (mkF m pc' ls (st))) : Go W EL Z a0 own p l e R s m args below meth c F h cells slots (mkF m pc ls (v :: st)) := by
  subst hp
  exact go_pure (fun T ha hx target hr => XT.pop ha hx rfl hd rfl hc hr) k
theorem go_goto {o : Int} (hd : decode c.code pc = .ok (.goto o, 3)) (ho : 0 ≤ (pc : Int) + o) (hp : ((pc : Int) + o).toNat = pc') (k : Go W EL Z a0 own p l e R s m args below meth c F h cells slots (mkF m pc' ls st)) : Go W EL Z a0 own p l e R s m args below meth c F h cells slots (mkF m pc ls st) :=
  go_pure (fun T ha hx target hr => XS.goto ha hx rfl rfl hd ho hp hr) k
theorem go_ifT {o : Int} {cd : ClassFile.Cond} {x : Int32} (hd : decode c.code pc = .ok (.ifCond cd o, 3)) (ho : 0 ≤ (pc : Int) + o) (hp : ((pc : Int) + o).toNat = pc') (hc : ifCond.holds cd x = true) (k : Go W EL Z a0 own p l e R s m args below meth c F h cells slots (mkF m pc' ls st)) : Go W EL Z a0 own p l e R s m args below meth c F h cells slots (mkF m pc ls (.int x :: st)) :=
  go_pure (fun T ha hx target hr => XS.ifYes ha hx rfl rfl hd rfl hc ho hp hr) k
theorem go_ifF {o : Int} {cd : ClassFile.Cond} {x : Int32} (hd : decode c.code pc = .ok (.ifCond cd o, 3)) (hp : pc + 3 = pc') (hc : ifCond.holds cd x = false) (k : Go W EL Z a0 own p l e R s m args below meth c F h cells slots (mkF m pc' ls st)) : Go W EL Z a0 own p l e R s m args below meth c F h cells slots (mkF m pc ls (.int x :: st)) := by
  subst hp
  exact go_pure (fun T ha hx target hr => XS.ifNo ha hx rfl hd rfl hc hr) k
theorem go_icT {o : Int} {cd : ClassFile.Cond} {x y : Int32} (hd : decode c.code pc = .ok (.if_icmp cd o, 3)) (ho : 0 ≤ (pc : Int) + o) (hp : ((pc : Int) + o).toNat = pc') (hc : if_icmp.holds cd x y = true) (k : Go W EL Z a0 own p l e R s m args below meth c F h cells slots (mkF m pc' ls st)) : Go W EL Z a0 own p l e R s m args below meth c F h cells slots (mkF m pc ls (.int y :: .int x :: st)) :=
  go_pure (fun T ha hx target hr => XS.icmpYes ha hx rfl rfl hd rfl hc ho hp hr) k
theorem go_icF {o : Int} {cd : ClassFile.Cond} {x y : Int32} (hd : decode c.code pc = .ok (.if_icmp cd o, 3)) (hp : pc + 3 = pc') (hc : if_icmp.holds cd x y = false) (k : Go W EL Z a0 own p l e R s m args below meth c F h cells slots (mkF m pc' ls st)) : Go W EL Z a0 own p l e R s m args below meth c F h cells slots (mkF m pc ls (.int y :: .int x :: st)) := by
  subst hp
  exact go_pure (fun T ha hx target hr => XS.icmpNo ha hx rfl hd rfl hc hr) k
theorem go_acF {o : Int} {cd : ClassFile.ACond} {x y : Value} (hd : decode c.code pc = .ok (.if_acmp cd o, 3)) (hp : pc + 3 = pc') (hx1 : x.isRef = true) (hy1 : y.isRef = true) (hc : XT.acmp cd x y = false) (k : Go W EL Z a0 own p l e R s m args below meth c F h cells slots (mkF m pc' ls st)) : Go W EL Z a0 own p l e R s m args below meth c F h cells slots (mkF m pc ls (y :: x :: st)) := by
  subst hp
  exact go_pure (fun T ha hx target hr => XT.acmpNo ha hx rfl hd rfl hx1 hy1 hc hr) k
theorem go_getF {a : Addr} {v : Value} {R0 O n d : String} {index : Nat} (w : (Jvm.Cond.fieldLink own index R0 n d).before a0 Z = true) (via : Via Z R0 O n d) (F0 : Fld Z h a O n d v) (hd : decode c.code pc = .ok (.getfield index, 3)) (hp : pc + 3 = pc') (k : Go W EL Z a0 own p l e R s m args below meth c F h cells slots (mkF m pc' ls (v :: st))) : Go W EL Z a0 own p l e R s m args below meth c F h cells slots (mkF m pc ls (.ref a :: st)) := by
  subst hp
  intro T P
  obtain ⟨vm0, k0, locs, hWf, X, eT, hx, hZ, hown, hS, hk, hEL, hC, hN, hO⟩ := P
  obtain ⟨T', X', e', st'⟩ := getF X hx hZ hown (host := "") (Or.inl w) via eT F0 (g := mkF m pc ls (.ref a :: st)) rfl rfl hd
  obtain ⟨t, o, h1, h2⟩ := k T' ⟨vm0, k0, locs, hWf, X', e', hx, hZ, hown, hS, hk, hEL, hC, hN, hO⟩
  exact ⟨t, o, st' _ h1, h2⟩
theorem go_getS {v : Value} {O n d : String} {index : Nat} (w : (Jvm.Cond.fieldLink own index O n d).before a0 Z = true) (F0 : Sta Z h O n d v) (hd : decode c.code pc = .ok (.getstatic index, 3)) (hp : pc + 3 = pc') (k : Go W EL Z a0 own p l e R s m args below meth c F h cells slots (mkF m pc' ls (v :: st))) : Go W EL Z a0 own p l e R s m args below meth c F h cells slots (mkF m pc ls st) := by
  subst hp
  intro T P
  obtain ⟨vm0, k0, locs, hWf, X, eT, hx, hZ, hown, hS, hk, hEL, hC, hN, hO⟩ := P
  obtain ⟨T', X', e', st'⟩ := getS X hx hZ hown (host := "") w Via.refl eT F0 (g := mkF m pc ls st) rfl hd
  obtain ⟨t, o, h1, h2⟩ := k T' ⟨vm0, k0, locs, hWf, X', e', hx, hZ, hown, hS, hk, hEL, hC, hN, hO⟩
  exact ⟨t, o, st' _ h1, h2⟩
theorem safe_of {vm : Vm} {a : Addr} {C : String} (hal : Z.vm.Alike vm) (E : Exa Z h a C) (hs : (C ≠ "java/lang/String" ∧ C ≠ "[B") ∨ EL = []) : Safe Z EL vm h a := by
  rcases hs with hs | rfl
  · exact Safe.exa hal E hs.1 hs.2
  · exact safe_nil
theorem go_putF {a : Addr} {v v' old : Value} {R0 O n d C : String} {index kk : Nat} {ty : FieldType} (w : (Jvm.Cond.fieldLink own index R0 n d).before a0 Z = true) (via : Via Z R0 O n d) (F0 : Fld Z h a O n d old) (E : Exa Z h a C) (L : (Jvm.Cond.lays C O n d).before a0 Z = true ∨ ((Jvm.Cond.laysFinal C O n d).before a0 Z = true ∧ own = O ∧ meth.name = "<init>")) (wi : (Jvm.Cond.instantiable C kk).before a0 Z = true)
    (hty : parseFieldDescriptor d = some ty) (hn : narrow ty v = v') (hf : fits ty v' = true) (ha : Z.heap.size ≤ a) (hs : (C ≠ "java/lang/String" ∧ C ≠ "[B") ∨ EL = []) (hd : decode c.code pc = .ok (.putfield index, 3)) (hp : pc + 3 = pc')
    (k : ∀ h', Wr h h' a (Jvm.RoadKit.slotOf Z O n d) v' → Go W EL Z a0 own p l e R s m args below meth c F h' cells slots (mkF m pc' ls st)) : Go W EL Z a0 own p l e R s m args below meth c F h cells slots (mkF m pc ls (v :: .ref a :: st)) := by
  subst hp
  intro T P
  obtain ⟨vm0, k0, locs, hWf, X, eT, hx, hZ, hown, hS, hk, hEL, hC, hN, hO⟩ := P
  obtain ⟨T', h', X', e', W', st'⟩ := putFN X hx hZ hown w via eT F0 E L wi hty hn hf (g := mkF m pc ls (v :: .ref a :: st)) rfl rfl hd
  have S0 : Safe Z EL vm0 h a := safe_of hZ.alike E hs
  obtain ⟨t, o, h1, h2⟩ := k h' W' T' ⟨vm0, k0, _, hWf, X', e', hx, hZ, hown, hS, by rw [W'.size]; exact hk, hEL, hC.trans (CHr.wr W' S0 hC.1), Fr.snoc X' hN ha, hO.wr W' ha⟩
  exact ⟨t, o, st' _ h1, h2⟩
theorem go_newO {C : String} {index n : Nat} (w : (Jvm.Cond.classLink own index C).before a0 Z = true) (wi : (Jvm.Cond.instantiable C n).before a0 Z = true) (wz : (Jvm.Cond.initialized C).before a0 Z = true) (hd : decode c.code pc = .ok (.new index, 3)) (hp : pc + 3 = pc') (hcl : cells + 1 = cells') (hsl : slots + n = slots') (hc : cells' ≤ R.cells) (hl : slots' ≤ R.slots)
    (k : ∀ (h' : Heap) (a : Addr), h.size = a → Ext h h' → Exa Z h' a C → (∀ {O nm d : String} {ty : FieldType}, Laid Z a0 C O nm d → parseFieldDescriptor d = some ty → Fld Z h' a O nm d (defaultValue ty)) → Unt h' a → Go W EL Z a0 own p l e R s m args below meth c F h' cells' slots' (mkF m pc' ls (.ref a :: st))) : Go W EL Z a0 own p l e R s m args below meth c F h cells slots (mkF m pc ls st) := by
  subst hp hcl hsl
  intro T P
  obtain ⟨vm0, k0, locs, hWf, X, eT, hx, hZ, hown, hS, hk, hEL, hC, hN, hO⟩ := P
  obtain ⟨T', h', X', e', E', A', D', U', st'⟩ := newO X hx hZ hown w wi wz eT (g := mkF m pc ls st) rfl hd hc hl
  obtain ⟨t, o, h1, h2⟩ := k h' h.size rfl E' A' D' U' T' ⟨vm0, k0, _, hWf, X', e', hx, hZ, hown, hS, Nat.le_trans hk E'.1, hEL, hC.trans (CHr.ext E' hC.1), hN, hO.ext E'⟩
  exact ⟨t, o, st' _ h1, h2⟩
theorem go_newP {aty : ArrayType} {n : Int32} {cap : Nat} {vs : List Value} {ty : FieldType} {dv : Value} (w : (Jvm.Cond.arrayClass ty).before a0 Z = true) (hty : newarray.typeOf aty = ty) (hdv : defaultValue ty = dv) (hd : decode c.code pc = .ok (.newarray aty, 2)) (hp : pc + 2 = pc') (hn : ¬ n < 0) (hcap : n.toNatClampNeg = cap) (hb : cap * 8 ≤ 536870912) (hvs : List.replicate cap dv = vs) (hcl : cells + 1 = cells') (hsl : slots + cap = slots') (hc : cells' ≤ R.cells) (hl : slots' ≤ R.slots)
    (k : ∀ (h' : Heap) (a : Addr) (kA : ClassId), h.size = a → Ext h h' → Arv Z h' a kA ty n vs dv → Go W EL Z a0 own p l e R s m args below meth c F h' cells' slots' (mkF m pc' ls (.ref a :: st))) : Go W EL Z a0 own p l e R s m args below meth c F h cells slots (mkF m pc ls (.int n :: st)) := by
  subst hp hcl hsl hty hdv hvs
  intro T P
  obtain ⟨vm0, k0, locs, hWf, X, eT, hx, hZ, hown, hS, hk, hEL, hC, hN, hO⟩ := P
  obtain ⟨T', h', kA, X', e', E', A', st'⟩ := newP X hx hZ w eT (g := mkF m pc ls (.int n :: st)) rfl hd rfl hn (cap := cap) (Nat.le_of_eq hcap) hb hc hl
  have V : Arv Z h' h.size kA (newarray.typeOf aty) n (List.replicate cap (defaultValue (newarray.typeOf aty))) (defaultValue (newarray.typeOf aty)) := by
    have q := (Arv.new A' hn).pad (pad_rep [] (defaultValue (newarray.typeOf aty)) cap)
    simpa using q
  obtain ⟨t, o, h1, h2⟩ := k h' h.size kA rfl E' V T' ⟨vm0, k0, _, hWf, X', e', hx, hZ, hown, hS, Nat.le_trans hk E'.1, hEL, hC.trans (CHr.ext E' hC.1), hN, hO.ext E'⟩
  exact ⟨t, o, st' _ h1, h2⟩
theorem go_stC {a : Addr} {kA : ClassId} {z j x x' : Int32} {vs vs' : List Value} {dv : Value} {i : Nat} (A : Arv Z h a kA .char z vs dv) (ha : Z.heap.size ≤ a) (hj0 : ¬ j < 0) (hjz : j < z) (hji : j.toNatClampNeg = i) (hi : i < vs.length) (hx' : x.toUInt32.toUInt16.toUInt32.toInt32 = x') (hvs : vs.set i (.int x') = vs') (hd : decode c.code pc = .ok (.castore, 1)) (hp : pc + 1 = pc')
    (k : ∀ h', Wr h h' a i (.int x') → Arv Z h' a kA .char z vs' dv → Go W EL Z a0 own p l e R s m args below meth c F h' cells slots (mkF m pc' ls st)) : Go W EL Z a0 own p l e R s m args below meth c F h cells slots (mkF m pc ls (.int x :: .int j :: .ref a :: st)) := by
  subst hp hx' hvs hji
  intro T P
  obtain ⟨vm0, k0, locs, hWf, X, eT, hx, hZ, hown, hS, hk, hEL, hC, hN, hO⟩ := P
  obtain ⟨cl, Ar, q1, S1, N1, H1, G1⟩ := A
  obtain ⟨T', h', X', e', W', st'⟩ := stC X hx hZ eT Ar (j := j) (inb_of S1 ⟨hj0, hjz⟩) (g := mkF m pc ls (.int x :: .int j :: .ref a :: st)) rfl rfl hd
  have S0 : Safe Z EL vm0 h a := Safe.arr hZ.alike Ar (by decide)
  obtain ⟨t, o, h1, h2⟩ := k h' W' (Arv.set Ar q1 S1 N1 H1 G1 (fits_nar_char _) W' _ rfl hi) T' ⟨vm0, k0, _, hWf, X', e', hx, hZ, hown, hS, by rw [W'.size]; exact hk, hEL, hC.trans (CHr.wr W' S0 hC.1), Fr.snoc X' hN ha, hO.wr W' ha⟩
  exact ⟨t, o, st' _ h1, h2⟩
theorem go_caload {a : Addr} {kA : ClassId} {z j : Int32} {vs : List Value} {dv v : Value} {i : Nat} (A : Arv Z h a kA .char z vs dv) (hj0 : ¬ j < 0) (hjz : j < z) (hji : j.toNatClampNeg = i) (hv : vs.getD i dv = v) (hd : decode c.code pc = .ok (.caload, 1)) (hp : pc + 1 = pc')
    (k : Go W EL Z a0 own p l e R s m args below meth c F h cells slots (mkF m pc' ls (v :: st))) : Go W EL Z a0 own p l e R s m args below meth c F h cells slots (mkF m pc ls (.int j :: .ref a :: st)) := by
  subst hp hv hji
  intro T P
  obtain ⟨t, o, h1, h2⟩ := k T P
  obtain ⟨vm0, k0, locs, hWf, X, eT, hx, hZ, hown, hS, hk, hEL, hC, hN, hO⟩ := P
  obtain ⟨cl, Ar, q1, S1, N1, H1, G1⟩ := A
  have hin := inb_of S1 ⟨hj0, hjz⟩
  exact ⟨t, o, X.caload hx (by rw [eT]; exact Ar.1) (State.isArrayOf_alike hZ.alike Ar.2.1) Ar.2.2 hin (H1.at hin rfl) (g := mkF m pc ls (.int j :: .ref a :: st)) rfl rfl hd _ h1, h2⟩
theorem go_arraylength {a : Addr} {kA : ClassId} {z : Int32} {vs : List Value} {dv : Value} {ty : FieldType} (A : Arv Z h a kA ty z vs dv) (hd : decode c.code pc = .ok (.arraylength, 1)) (hp : pc + 1 = pc')
    (k : Go W EL Z a0 own p l e R s m args below meth c F h cells slots (mkF m pc' ls (.int z :: st))) : Go W EL Z a0 own p l e R s m args below meth c F h cells slots (mkF m pc ls (.ref a :: st)) := by
  subst hp
  intro T P
  obtain ⟨t, o, h1, h2⟩ := k T P
  obtain ⟨vm0, k0, locs, hWf, X, eT, hx, hZ, hown, hS, hk, hEL, hC, hN, hO⟩ := P
  obtain ⟨cl, Ar, q1, S1, N1, H1, G1⟩ := A
  refine ⟨t, o, X.arraylength hx (by rw [eT]; exact Ar.1) (State.isArrayOf_alike hZ.alike Ar.2.1) (g := mkF m pc ls (.ref a :: st)) rfl rfl hd _ ?_, h2⟩
  rw [len_of S1 N1]
  exact h1
theorem go_ldcI {v : Int32} {index : Nat} (w : (Jvm.Cond.constant own index v).before a0 Z = true) (hd : decode c.code pc = .ok (.ldc index, 2)) (hp : pc + 2 = pc') (k : Go W EL Z a0 own p l e R s m args below meth c F h cells slots (mkF m pc' ls (.int v :: st))) : Go W EL Z a0 own p l e R s m args below meth c F h cells slots (mkF m pc ls st) := by
  subst hp
  intro T P
  obtain ⟨t, o, h1, h2⟩ := k T P
  obtain ⟨vm0, k0, locs, hWf, X, eT, hx, hZ, hown, hS, hk, hEL, hC, hN, hO⟩ := P
  exact ⟨t, o, X.ldcInt hx hown (mvT hZ w) (g := mkF m pc ls st) rfl hd _ h1, h2⟩
theorem go_ldcH {text : String} {index n : Nat} {vs : List Value} {z : Int32} (hWt : W = true) (hmem : (own, index) ∈ EL) (w : (Jvm.Cond.stringLink own index text).before a0 Z = true) (wS : ∀ a ∈ Bundle.stringAtoms, a.before a0 Z = true) (ht : (∀ c ∈ text.toList, c.toNat < 256) ∧ text.toList.map (fun c => Value.int (Jvm.Lit.byteI c.toNat.toUInt16)) = vs) (hz : ¬ z < 0) (hlz : z.toNatClampNeg = vs.length) (hn : 4 * text.toList.length ≤ n) (hbig : n ≤ 536870912) (hd : decode c.code pc = .ok (.ldc index, 2)) (hp : pc + 2 = pc') (hcl : cells + 2 = cells') (hsl : slots + (n + 4) = slots') (hc : cells' ≤ R.cells) (hl : slots' ≤ R.slots)
    (k : ∀ (h' : Heap) (a b : Addr) (kb : ClassId), Ext h h' → Exa Z h' a "java/lang/String" → Fld Z h' a "java/lang/String" "coder" "B" (.int 0) → Fld Z h' a "java/lang/String" "value" "[B" (.ref b) → Arv Z h' b kb .byte z vs (.int 0) → Go W EL Z a0 own p l e R s m args below meth c F h' cells' slots' (mkF m pc' ls (.ref a :: st))) : Go W EL Z a0 own p l e R s m args below meth c F h cells slots (mkF m pc ls st) := by
  subst hp hcl hsl hWt
  intro T P
  obtain ⟨vm0, k0, locs, hWf, X, eT, hx, hZ, hown, hS, hk, hEL, hC, hN, hO⟩ := P
  obtain ⟨a, T', h', k1, b, kb, X', e', E', hS', hk', hZ', hown', q1, q2, q3, q4, -, -, hC', -, -, st'⟩ := ldcCH X hx hZ hown w wS eT hS hk hEL hmem hC.1 ht hz hlz (g := mkF m pc ls st) rfl hd hn hbig hc hl
  obtain ⟨t, o, h1, h2⟩ := k h' a b kb E' q1 q2 q3 q4 T' ⟨T'.vm, k1, _, (fun q => nomatch q), X', e', hx, hZ', hown', hS', hk', hEL, hC.trans hC', hN, hO.ext E'⟩
  exact ⟨t, o, st' _ h1, h2⟩
theorem go_initO {a : Addr} {idx Wd : Nat} (w1 : (Jvm.Cond.methodLink own idx Lib.objectInit).before a0 Z = true) (w2 : (Jvm.Cond.instanceMethod Lib.objectInit).before a0 Z = true) (w3 : (Jvm.Cond.code Lib.objectInit ⟨#[0xb1]⟩ 1 none).before a0 Z = true) (hsize : ls.size = c.maxLocals) (hW : 2 * 0 + (st.map fun v => v.category).sum ≤ Wd) (hf : 1 ≤ R.frames) (hl : Wd + 12 ≤ R.locals) (hd : decode c.code pc = .ok (.invokespecial idx, 3)) (hp : pc + 3 = pc') (k : Go W EL Z a0 own p l e R s m args below meth c F h cells slots (mkF m pc' ls st)) : Go W EL Z a0 own p l e R s m args below meth c F h cells slots (mkF m pc ls (.ref a :: st)) := by
  subst hp
  intro T P
  obtain ⟨vm0, k0, locs, hWf, X, eT, hx, hZ, hown, hS, hk, hEL, hC, hN, hO⟩ := P
  obtain ⟨T', X', e', st'⟩ := initO X hx hZ hown w1 w2 w3 eT (g := mkF m pc ls (.ref a :: st)) rfl hsize rfl hd hf (W := Wd) hW hl
  obtain ⟨t, o, h1, h2⟩ := k T' ⟨vm0, k0, locs, hWf, X', e', hx, hZ, hown, hS, hk, hEL, hC, hN, hO⟩
  exact ⟨t, o, st' _ h1, h2⟩
-- calls: what a payment gives back as a point of the caller's walk
theorem pt_back {vm0 vm₁ : Vm} {k0 : Nat} {locs L : List Loc} {T : State} {B : Pt} {ws : List Addr} {dc ds : Nat} (hWf : W = false → vm0 = s.vm) (eT : T.heap = h) (hx : p.tables.exec = Jvm.exec) (hZ : Z.Warmed39 vm0) (hown : vm0.findClass own = some m.cls) (hS : s.Since vm0 k0) (hk : k0 ≤ h.size) (hEL : EW Z a0 EL) (hC : CHr Z EL s.vm s.heap vm0 h) (hN : Fr Z.heap.size locs) (hO : Old Z Z.heap.size h)
    (X : Stand p l e R (s.setVm vm0) m args below meth c B.U B.locs B.cells B.slots) (hL : Fr Z.heap.size L) (K : Keep h B.U.heap ws) (b1 : B.locs = locs ++ L) (b2 : B.cells = cells + dc) (b3 : B.slots = slots + ds) (hws : ∀ x ∈ ws, Z.heap.size ≤ x) (hsf : ∀ vm, Z.vm.Alike vm → ∀ x ∈ ws, Safe Z EL vm h x) (hcl : cells + dc = cells') (hsl : slots + ds = slots') :
    PT W EL Z a0 own p l e R s m args below meth c B.U B.U.heap cells' slots' := by
  subst hcl hsl
  rw [b1, b2, b3] at X
  exact ⟨vm0, k0, _, hWf, X, rfl, hx, hZ, hown, hS, Nat.le_trans hk K.1, hEL, hC.trans (CHr.keep K (hsf _ hZ.alike) hC.1), hN.app hL, hO.keep K hws⟩
theorem pt_backS {vm0 : Vm} {k0 : Nat} {locs L : List Loc} {B : Pt} {ws : List Addr} {dc ds : Nat} (hWt : W = true) (hx : p.tables.exec = Jvm.exec) (hZ : Z.Warmed39 vm0) (hown : vm0.findClass own = some m.cls) (hS : s.Since vm0 k0) (hk : k0 ≤ h.size) (hEL : EW Z a0 EL) (hC : CHr Z EL s.vm s.heap vm0 h) (hN : Fr Z.heap.size locs) (hO : Old Z Z.heap.size h)
    (X : Stand p l e R (s.setVm B.U.vm) m args below meth c B.U B.locs B.cells B.slots) (S2 : (s.setVm vm0).Since B.U.vm B.U.heap.size) (hL : Fr Z.heap.size L) (K : Keep h B.U.heap ws) (b1 : B.locs = locs ++ L) (b2 : B.cells = cells + dc) (b3 : B.slots = slots + ds) (b4 : CHr Z EL vm0 h B.U.vm B.U.heap) (hws : ∀ x ∈ ws, Z.heap.size ≤ x) (hcl : cells + dc = cells') (hsl : slots + ds = slots') :
    PT W EL Z a0 own p l e R s m args below meth c B.U B.U.heap cells' slots' := by
  subst hcl hsl hWt
  rw [b1, b2, b3] at X
  have hZ' : Z.Warmed39 B.U.vm := State.Warmed39.trans (t := s.setVm vm0) (s := Z) hZ S2.1
  have hown' : B.U.vm.findClass own = some m.cls := by
    rw [S2.1.alike.findClass]
    exact hown
  exact ⟨B.U.vm, B.U.heap.size, _, (fun q => nomatch q), X, rfl, hx, hZ', hown', hS.trans S2 (Nat.le_trans hk K.1), Nat.le_refl _, hEL, hC.trans b4, hN.app hL, hO.keep K hws⟩
theorem callS0 {index Wd dc ds : Nat} {y : MethodName} {bytes : ByteArray} {maxL : Nat} {ret : Option FieldType} {argsL rest : List Value} {ws : List Addr} {Q : Option Value → Heap → Prop} {ps : List FieldType} {r : Option FieldType}
    (hK : Pay l R p e below Z y Wd argsL.toArray h dc ds ws Q) (w1 : (Jvm.Cond.methodLink own index y).before a0 Z = true) (w2 : (Jvm.Cond.static y).before a0 Z = true) (w3 : (Jvm.Cond.initialized y.cls).before a0 Z = true) (w4 : (Jvm.Cond.code y bytes maxL ret).before a0 Z = true) 
    (hpd : parseMethodDescriptor y.desc = some ⟨ps, r⟩) (hsize : ls.size = c.maxLocals) (hws : ∀ x ∈ ws, Z.heap.size ≤ x) (hsf : ∀ vm, Z.vm.Alike vm → ∀ x ∈ ws, Safe Z EL vm h x)
    (hd : decode c.code pc = .ok (.invokestatic index, 3)) (k : ∀ (v : Option Value) (h' : Heap), Q v h' → Keep h h' ws → Go W EL Z a0 own p l e R s m args below meth c F h' cells' slots' (mkF m (pc + 3) ls (v.toList ++ rest))) (hy : y.cls ≠ "java/lang/invoke/MethodHandle" ∧ y.cls ≠ "java/lang/invoke/VarHandle" := by decide) (hln : argsL.length = ps.length := by rfl) (hst : st = argsL.reverse ++ rest := by rfl) (hW : 2 * 0 + (rest.map fun v => v.category).sum ≤ Wd := by exact nb rfl) (hcl : cells + dc = cells' := by rfl) (hsl : slots + ds = slots' := by rfl) (hc : cells' ≤ R.cells := by decide) (hs : slots' ≤ R.slots := by decide) : Go W EL Z a0 own p l e R s m args below meth c F h cells slots (mkF m pc ls st) := by
  intro T P
  obtain ⟨vm0, k0, locs, hWf, X, eT, hx, hZ, hown, hS, hk, hEL, hC, hN, hO⟩ := P
  obtain ⟨v, vm₁, B, -, X', ⟨L, ⟨q1, q2, q3⟩, b1, b2, b3⟩, st'⟩ := Jvm.LawKit.callS X hx hown (mvT hZ w1) (mvT hZ w2) (mvT hZ w3) (mvT hZ w4) hy (hK _ _ hZ) (g := mkF m pc ls st) rfl hsize (lenOf hpd hln) hst hW hd (fun _ _ => ⟨rfl, eT, by rw [hcl]; exact hc, by rw [hsl]; exact hs⟩)
  obtain ⟨t, o, h1, h2⟩ := k v _ q1 q3 B.U (pt_back (vm₁ := vm₁) hWf eT hx hZ hown hS hk hEL hC hN hO X' q2 q3 b1 b2 b3 hws hsf hcl hsl)
  exact ⟨t, o, st' _ h1, h2⟩
theorem callSW0 {index Wd dc ds : Nat} {y : MethodName} {bytes : ByteArray} {maxL : Nat} {ret : Option FieldType} {argsL rest : List Value} {ws : List Addr} {Q : Option Value → Heap → Prop} {ps : List FieldType} {r : Option FieldType} (hWt : W = true)
    (hK : PayW EL l R p e below Z y Wd argsL.toArray h dc ds ws Q) (w1 : (Jvm.Cond.methodLink own index y).before a0 Z = true) (w2 : (Jvm.Cond.static y).before a0 Z = true) (w3 : (Jvm.Cond.initialized y.cls).before a0 Z = true) (w4 : (Jvm.Cond.code y bytes maxL ret).before a0 Z = true) 
    (hpd : parseMethodDescriptor y.desc = some ⟨ps, r⟩) (hsize : ls.size = c.maxLocals) (hws : ∀ x ∈ ws, Z.heap.size ≤ x)
    (hd : decode c.code pc = .ok (.invokestatic index, 3)) (k : ∀ (v : Option Value) (h' : Heap), Q v h' → Keep h h' ws → Go W EL Z a0 own p l e R s m args below meth c F h' cells' slots' (mkF m (pc + 3) ls (v.toList ++ rest))) (hy : y.cls ≠ "java/lang/invoke/MethodHandle" ∧ y.cls ≠ "java/lang/invoke/VarHandle" := by decide) (hln : argsL.length = ps.length := by rfl) (hst : st = argsL.reverse ++ rest := by rfl) (hW : 2 * 0 + (rest.map fun v => v.category).sum ≤ Wd := by exact nb rfl) (hcl : cells + dc = cells' := by rfl) (hsl : slots + ds = slots' := by rfl) (hc : cells' ≤ R.cells := by decide) (hs : slots' ≤ R.slots := by decide) : Go W EL Z a0 own p l e R s m args below meth c F h cells slots (mkF m pc ls st) := by
  intro T P
  obtain ⟨vm0, k0, locs, hWf, X, eT, hx, hZ, hown, hS, hk, hEL, hC, hN, hO⟩ := P
  obtain ⟨v, vm₁, B, -, X', S2, -, ⟨L, ⟨q1, q2, q3⟩, b1, b2, b3, b4⟩, st'⟩ := callSS X hx hown (mvT hZ w1) (mvT hZ w2) (mvT hZ w3) (mvT hZ w4) hy (hK s vm0 _ hZ hC.1) (g := mkF m pc ls st) rfl hsize (lenOf hpd hln) hst hW hd (fun _ _ => ⟨rfl, eT, by rw [hcl]; exact hc, by rw [hsl]; exact hs⟩)
  obtain ⟨t, o, h1, h2⟩ := k v _ q1 q3 B.U (pt_backS hWt hx hZ hown hS hk hEL hC hN hO X' S2 q2 q3 b1 b2 b3 b4 hws hcl hsl)
  exact ⟨t, o, st'.trans h1, h2⟩
theorem callI0 {index Wd dc ds : Nat} {y : MethodName} {bytes : ByteArray} {maxL : Nat} {a : Addr} {argsL rest : List Value} {ws : List Addr} {Q : Option Value → Heap → Prop} {ps : List FieldType} {r : Option FieldType}
    (hK : Pay l R p e below Z y Wd (.ref a :: argsL).toArray h dc ds ws Q) (hy1 : y.name = "<init>") (w1 : (Jvm.Cond.methodLink own index y).before a0 Z = true) (w2 : (Jvm.Cond.instanceMethod y).before a0 Z = true) (w4 : (Jvm.Cond.code y bytes maxL none).before a0 Z = true) 
    (hpd : parseMethodDescriptor y.desc = some ⟨ps, r⟩) (hsize : ls.size = c.maxLocals) (hws : ∀ x ∈ ws, Z.heap.size ≤ x) (hsf : ∀ vm, Z.vm.Alike vm → ∀ x ∈ ws, Safe Z EL vm h x)
    (hd : decode c.code pc = .ok (.invokespecial index, 3)) (k : ∀ (v : Option Value) (h' : Heap), Q v h' → Keep h h' ws → Go W EL Z a0 own p l e R s m args below meth c F h' cells' slots' (mkF m (pc + 3) ls (v.toList ++ rest))) (hy : y.cls ≠ "java/lang/invoke/MethodHandle" ∧ y.cls ≠ "java/lang/invoke/VarHandle" := by decide) (hln : argsL.length = ps.length := by rfl) (hst : st = argsL.reverse ++ .ref a :: rest := by rfl) (hW : 2 * 0 + (rest.map fun v => v.category).sum ≤ Wd := by exact nb rfl) (hcl : cells + dc = cells' := by rfl) (hsl : slots + ds = slots' := by rfl) (hc : cells' ≤ R.cells := by decide) (hs : slots' ≤ R.slots := by decide) : Go W EL Z a0 own p l e R s m args below meth c F h cells slots (mkF m pc ls st) := by
  intro T P
  obtain ⟨vm0, k0, locs, hWf, X, eT, hx, hZ, hown, hS, hk, hEL, hC, hN, hO⟩ := P
  obtain ⟨v, vm₁, B, -, X', ⟨L, ⟨q1, q2, q3⟩, b1, b2, b3⟩, st'⟩ := X.specialBack hx hy1 hown (mvT hZ w1) (mvT hZ w2) (mvT hZ w4) hy (hK _ _ hZ) (g := mkF m pc ls st) rfl hsize (Steps.refl _) (lenOf hpd hln) hst hW hd (fun _ _ => ⟨rfl, eT, by rw [hcl]; exact hc, by rw [hsl]; exact hs⟩)
  obtain ⟨t, o, h1, h2⟩ := k v _ q1 q3 B.U (pt_back (vm₁ := vm₁) hWf eT hx hZ hown hS hk hEL hC hN hO X' q2 q3 b1 b2 b3 hws hsf hcl hsl)
  exact ⟨t, o, st'.trans h1, h2⟩
theorem callIW0 {index Wd dc ds : Nat} {y : MethodName} {bytes : ByteArray} {maxL : Nat} {a : Addr} {argsL rest : List Value} {ws : List Addr} {Q : Option Value → Heap → Prop} {ps : List FieldType} {r : Option FieldType} (hWt : W = true)
    (hK : PayW EL l R p e below Z y Wd (.ref a :: argsL).toArray h dc ds ws Q) (hy1 : y.name = "<init>") (w1 : (Jvm.Cond.methodLink own index y).before a0 Z = true) (w2 : (Jvm.Cond.instanceMethod y).before a0 Z = true) (w4 : (Jvm.Cond.code y bytes maxL none).before a0 Z = true) 
    (hpd : parseMethodDescriptor y.desc = some ⟨ps, r⟩) (hsize : ls.size = c.maxLocals) (hws : ∀ x ∈ ws, Z.heap.size ≤ x)
    (hd : decode c.code pc = .ok (.invokespecial index, 3)) (k : ∀ (v : Option Value) (h' : Heap), Q v h' → Keep h h' ws → Go W EL Z a0 own p l e R s m args below meth c F h' cells' slots' (mkF m (pc + 3) ls (v.toList ++ rest))) (hy : y.cls ≠ "java/lang/invoke/MethodHandle" ∧ y.cls ≠ "java/lang/invoke/VarHandle" := by decide) (hln : argsL.length = ps.length := by rfl) (hst : st = argsL.reverse ++ .ref a :: rest := by rfl) (hW : 2 * 0 + (rest.map fun v => v.category).sum ≤ Wd := by exact nb rfl) (hcl : cells + dc = cells' := by rfl) (hsl : slots + ds = slots' := by rfl) (hc : cells' ≤ R.cells := by decide) (hs : slots' ≤ R.slots := by decide) : Go W EL Z a0 own p l e R s m args below meth c F h cells slots (mkF m pc ls st) := by
  intro T P
  obtain ⟨vm0, k0, locs, hWf, X, eT, hx, hZ, hown, hS, hk, hEL, hC, hN, hO⟩ := P
  obtain ⟨v, vm₁, B, -, X', S2, -, ⟨L, ⟨q1, q2, q3⟩, b1, b2, b3, b4⟩, st'⟩ := X.specialBackS hx hy1 hown (mvT hZ w1) (mvT hZ w2) (mvT hZ w4) hy (hK s vm0 _ hZ hC.1) (g := mkF m pc ls st) rfl hsize (Steps.refl _) (lenOf hpd hln) hst hW hd (fun _ _ => ⟨rfl, eT, by rw [hcl]; exact hc, by rw [hsl]; exact hs⟩)
  obtain ⟨t, o, h1, h2⟩ := k v _ q1 q3 B.U (pt_backS hWt hx hZ hown hS hk hEL hC hN hO X' S2 q2 q3 b1 b2 b3 b4 hws hcl hsl)
  exact ⟨t, o, st'.trans h1, h2⟩
theorem callV0 {index Wd dc ds : Nat} {y z : MethodName} {C C' : String} {a : Addr} {argsL rest : List Value} {ws : List Addr} {Q : Option Value → Heap → Prop} {ps : List FieldType} {r : Option FieldType}
    (hK : Pay l R p e below Z z Wd (.ref a :: argsL).toArray h dc ds ws Q) (E : Exa Z h a C) (w1 : (Jvm.Cond.methodLink own index y).before a0 Z = true) (w2 : (Jvm.Cond.declares y).before a0 Z = true) (w3 : (Jvm.Cond.selects C' y y).before a0 Z = true) (w5 : (Jvm.Cond.selects C y z).before a0 Z = true) (w4 : (Jvm.Cond.instanceMethod z).before a0 Z = true) 
    (hpd : parseMethodDescriptor y.desc = some ⟨ps, r⟩) (hsize : ls.size = c.maxLocals) (hws : ∀ x ∈ ws, Z.heap.size ≤ x) (hsf : ∀ vm, Z.vm.Alike vm → ∀ x ∈ ws, Safe Z EL vm h x)
    (hd : decode c.code pc = .ok (.invokevirtual index, 3)) (k : ∀ (v : Option Value) (h' : Heap), Q v h' → Keep h h' ws → Go W EL Z a0 own p l e R s m args below meth c F h' cells' slots' (mkF m (pc + 3) ls (v.toList ++ rest))) (hy : y.cls ≠ "java/lang/invoke/MethodHandle" ∧ y.cls ≠ "java/lang/invoke/VarHandle" := by decide) (hln : argsL.length = ps.length := by rfl) (hst : st = argsL.reverse ++ .ref a :: rest := by rfl) (hW : 2 * 0 + (rest.map fun v => v.category).sum ≤ Wd := by exact nb rfl) (hcl : cells + dc = cells' := by rfl) (hsl : slots + ds = slots' := by rfl) (hc : cells' ≤ R.cells := by decide) (hs : slots' ≤ R.slots := by decide) : Go W EL Z a0 own p l e R s m args below meth c F h cells slots (mkF m pc ls st) := by
  intro T P
  obtain ⟨vm0, k0, locs, hWf, X, eT, hx, hZ, hown, hS, hk, hEL, hC, hN, hO⟩ := P
  obtain ⟨cB, kB, i1, i2, i3⟩ := isOf (T := T) (s := s.setVm vm0) hZ eT E
  obtain ⟨v, vm₁, B, -, X', ⟨L, ⟨q1, q2, q3⟩, b1, b2, b3⟩, st'⟩ := X.virtualBack hx (y := y) (z := z) hown (mvT hZ w1) (mvT hZ w2) (notFace_of_selects (args := #[]) (mvT hZ w3)) (mvT hZ w5) (mvT hZ w4) hy (hK _ _ hZ) i1 i3 (g := mkF m pc ls st) rfl hsize (Steps.refl _) (lenOf hpd hln) hst hW hd (fun _ _ => ⟨rfl, eT, by rw [hcl]; exact hc, by rw [hsl]; exact hs⟩)
  obtain ⟨t, o, h1, h2⟩ := k v _ q1 q3 B.U (pt_back (vm₁ := vm₁) hWf eT hx hZ hown hS hk hEL hC hN hO X' q2 q3 b1 b2 b3 hws hsf hcl hsl)
  exact ⟨t, o, st'.trans h1, h2⟩
theorem callVW0 {index Wd dc ds : Nat} {y z : MethodName} {C C' : String} {a : Addr} {argsL rest : List Value} {ws : List Addr} {Q : Option Value → Heap → Prop} {ps : List FieldType} {r : Option FieldType} (hWt : W = true)
    (hK : PayW EL l R p e below Z z Wd (.ref a :: argsL).toArray h dc ds ws Q) (E : Exa Z h a C) (w1 : (Jvm.Cond.methodLink own index y).before a0 Z = true) (w2 : (Jvm.Cond.declares y).before a0 Z = true) (w3 : (Jvm.Cond.selects C' y y).before a0 Z = true) (w5 : (Jvm.Cond.selects C y z).before a0 Z = true) (w4 : (Jvm.Cond.instanceMethod z).before a0 Z = true) 
    (hpd : parseMethodDescriptor y.desc = some ⟨ps, r⟩) (hsize : ls.size = c.maxLocals) (hws : ∀ x ∈ ws, Z.heap.size ≤ x)
    (hd : decode c.code pc = .ok (.invokevirtual index, 3)) (k : ∀ (v : Option Value) (h' : Heap), Q v h' → Keep h h' ws → Go W EL Z a0 own p l e R s m args below meth c F h' cells' slots' (mkF m (pc + 3) ls (v.toList ++ rest))) (hy : y.cls ≠ "java/lang/invoke/MethodHandle" ∧ y.cls ≠ "java/lang/invoke/VarHandle" := by decide) (hln : argsL.length = ps.length := by rfl) (hst : st = argsL.reverse ++ .ref a :: rest := by rfl) (hW : 2 * 0 + (rest.map fun v => v.category).sum ≤ Wd := by exact nb rfl) (hcl : cells + dc = cells' := by rfl) (hsl : slots + ds = slots' := by rfl) (hc : cells' ≤ R.cells := by decide) (hs : slots' ≤ R.slots := by decide) : Go W EL Z a0 own p l e R s m args below meth c F h cells slots (mkF m pc ls st) := by
  intro T P
  obtain ⟨vm0, k0, locs, hWf, X, eT, hx, hZ, hown, hS, hk, hEL, hC, hN, hO⟩ := P
  obtain ⟨cB, kB, i1, i2, i3⟩ := isOf (T := T) (s := s.setVm vm0) hZ eT E
  obtain ⟨v, vm₁, B, -, X', S2, -, ⟨L, ⟨q1, q2, q3⟩, b1, b2, b3, b4⟩, st'⟩ := X.virtualBackS hx (y := y) (z := z) hown (mvT hZ w1) (mvT hZ w2) (notFace_of_selects (args := #[]) (mvT hZ w3)) (mvT hZ w5) (mvT hZ w4) hy (hK s vm0 _ hZ hC.1) i1 i3 (g := mkF m pc ls st) rfl hsize (Steps.refl _) (lenOf hpd hln) hst hW hd (fun _ _ => ⟨rfl, eT, by rw [hcl]; exact hc, by rw [hsl]; exact hs⟩)
  obtain ⟨t, o, h1, h2⟩ := k v _ q1 q3 B.U (pt_backS hWt hx hZ hown hS hk hEL hC hN hO X' S2 q2 q3 b1 b2 b3 b4 hws hcl hsl)
  exact ⟨t, o, st'.trans h1, h2⟩
theorem k_v {ws : List Addr} {QV : Value → Heap → Prop} {rest : List Value} (hp : pc + 3 = pc') (k : ∀ (x : Value) (h' : Heap), QV x h' → Keep h h' ws → Go W EL Z a0 own p l e R s m args below meth c F h' cells' slots' (mkF m pc' ls (x :: rest))) : ∀ (v : Option Value) (h' : Heap), rvl QV v h' → Keep h h' ws → Go W EL Z a0 own p l e R s m args below meth c F h' cells' slots' (mkF m (pc + 3) ls (v.toList ++ rest)) := by
  subst hp
  rintro _ h' ⟨x, rfl, q⟩ K
  exact k x h' q K
theorem k_n {ws : List Addr} {QN : Heap → Prop} {rest : List Value} (hp : pc + 3 = pc') (k : ∀ (h' : Heap), QN h' → Keep h h' ws → Go W EL Z a0 own p l e R s m args below meth c F h' cells' slots' (mkF m pc' ls rest)) : ∀ (v : Option Value) (h' : Heap), rno QN v h' → Keep h h' ws → Go W EL Z a0 own p l e R s m args below meth c F h' cells' slots' (mkF m (pc + 3) ls (v.toList ++ rest)) := by
  subst hp
  rintro _ h' ⟨rfl, q⟩ K
  exact k h' q K
-- the end
theorem fin_of {vm0 : Vm} {k0 : Nat} {locs : List Loc} {T : State} {h0 : Heap} {ws : List Addr} {Q : Option Value → Heap → Prop} {dc ds : Nat} {v : Option Value} (hlk : meth.locks = false) (hWf : W = false → vm0 = s.vm) (X : Stand p l e R (s.setVm vm0) m args below meth c T locs cells slots) (eT : T.heap = h) (hZ : Z.Warmed39 vm0) (hS : s.Since vm0 k0) (hk : k0 ≤ h.size) (hEL : EW Z a0 EL) (hC : CHr Z EL s.vm s.heap vm0 h) (hN : Fr Z.heap.size locs) (hv : meth.sig.returnType = none → v = none) (hq : Q v h) (K : Keep h0 h ws) (hc : cells ≤ dc) (hs : slots ≤ ds) :
    ∃ fs, (∀ (f : JFrame) (acts : List Action), f.method = m → f.locked = none → f.entered = [] → (doReturn e (T.setTop f) acts v).1 = T.setFrames fs) ∧ (T.setFrames fs).status = .running ∧ Ended (T.setFrames fs) below (.returned v) ∧ Fend W EL Z s h0 ws Q dc ds (.returned v) (T.setFrames fs) := by
  cases W
  · obtain rfl := hWf rfl
    obtain ⟨fs, hr, hrun, hended, hW, hsame⟩ := X.leave (v := v) hv hlk
    exact ⟨fs, hr, hrun, hended, v, locs, rfl, ⟨by rw [show (T.setFrames fs).heap = h from eT]; exact hq, hN, by rw [show (T.setFrames fs).heap = h from eT]; exact K⟩, (fun q => nomatch q), fun _ => ⟨⟨v, rfl⟩, hW, hsame.mono hc hs⟩⟩
  · obtain ⟨fs, hr, hrun, hended, q1, q2, q3, q4⟩ := X.leaveW hS (by rw [eT]; exact hk) (v := v) hv hlk
    exact ⟨fs, hr, hrun, hended, v, locs, rfl, ⟨by rw [show (T.setFrames fs).heap = h from eT]; exact hq, hN, by rw [show (T.setFrames fs).heap = h from eT]; exact K⟩, fun _ => ⟨by rw [show (T.setFrames fs).heap = h from eT]; exact hC.trans (show CHr Z EL vm0 h T.vm h from CHv.at X hZ hEL hC.1), q1, q2, q3, q4.mono hc hs⟩, (fun q => nomatch q)⟩
theorem go_areturn {v : Value} {t : FieldType} {h0 : Heap} {ws : List Addr} {Q : Option Value → Heap → Prop} {dc ds : Nat} (hret : meth.sig.returnType = some t) (hlk : meth.locks = false) (ht : t.isReference = true) (hv : v.isRef = true) (hd : decode c.code pc = .ok (.areturn, 1)) (hc : cells ≤ dc) (hs : slots ≤ ds) (hq : Q (some v) h) (K : Keep h0 h ws) :
    Go W EL Z a0 own p l e R s m args below meth c (Fend W EL Z s h0 ws Q dc ds) h cells slots (mkF m pc ls [v]) := by
  intro T P
  obtain ⟨vm0, k0, locs, hWf, X, eT, hx, hZ, hown, hS, hk, hEL, hC, hN, hO⟩ := P
  obtain ⟨fs, hr, q1, q2, q3⟩ := fin_of hlk hWf X eT hZ hS hk hEL hC hN (v := some v) (fun q => by rw [hret] at q; cases q) hq K hc hs
  exact ⟨_, _, X.areturnOut hx hv hret ht hd hr, q1, q2, q3⟩
theorem go_return {h0 : Heap} {ws : List Addr} {Q : Option Value → Heap → Prop} {dc ds : Nat} (hret : meth.sig.returnType = none) (hlk : meth.locks = false) (hd : decode c.code pc = .ok (.return_, 1)) (hc : cells ≤ dc) (hs : slots ≤ ds) (hq : Q none h) (K : Keep h0 h ws) :
    Go W EL Z a0 own p l e R s m args below meth c (Fend W EL Z s h0 ws Q dc ds) h cells slots (mkF m pc ls []) := by
  intro T P
  obtain ⟨vm0, k0, locs, hWf, X, eT, hx, hZ, hown, hS, hk, hEL, hC, hN, hO⟩ := P
  obtain ⟨fs, hr, q1, q2, q3⟩ := fin_of hlk hWf X eT hZ hS hk hEL hC hN (v := none) (fun _ => rfl) hq K hc hs
  exact ⟨_, _, X.returnOut hx hret hd hr, q1, q2, q3⟩
theorem go_ireturn {x : Int32} {t : FieldType} {h0 : Heap} {ws : List Addr} {Q : Option Value → Heap → Prop} {dc ds : Nat} (hret : meth.sig.returnType = some t) (hlk : meth.locks = false) (hn : narrow t (.int x) = .int x) (hti : t = .int ∨ t = .boolean ∨ t = .byte ∨ t = .char ∨ t = .short) (hd : decode c.code pc = .ok (.ireturn, 1)) (hc : cells ≤ dc) (hs : slots ≤ ds) (hq : Q (some (.int x)) h) (K : Keep h0 h ws) :
    Go W EL Z a0 own p l e R s m args below meth c (Fend W EL Z s h0 ws Q dc ds) h cells slots (mkF m pc ls [.int x]) := by
  intro T P
  obtain ⟨vm0, k0, locs, hWf, X, eT, hx, hZ, hown, hS, hk, hEL, hC, hN, hO⟩ := P
  obtain ⟨fs, hr, q1, q2, q3⟩ := fin_of hlk hWf X eT hZ hS hk hEL hC hN (v := some (.int x)) (fun q => by rw [hret] at q; cases q) hq K hc hs
  exact ⟨_, _, X.ireturnOut hx hret hn hti hd hr, q1, q2, q3⟩
theorem go_acopy {a b : Addr} {kA kB : ClassId} {ty : FieldType} {z z' sp dp nn : Int32} {vs vd vd' : List Value} {dv dd : Value} {index Wd : Nat} (w1 : (Jvm.Cond.methodLink own index Jvm.Stand.acN).before a0 Z = true) (w2 : (Jvm.Cond.native Jvm.Stand.acN).before a0 Z = true) (w3 : (Jvm.Cond.static Jvm.Stand.acN).before a0 Z = true) (w4 : (Jvm.Cond.initialized "java/lang/System").before a0 Z = true) (hE : EL = []) (A : Arv Z h a kA ty z vs dv) (B : Arv Z h b kB ty z' vd dd) (hty : refKind ty = false)
    (h1 : ¬ sp < 0) (h2 : ¬ dp < 0) (h3 : ¬ nn < 0) (h4 : sp.toNatClampNeg + nn.toNatClampNeg ≤ z.toNatClampNeg) (h5 : dp.toNatClampNeg + nn.toNatClampNeg ≤ z'.toNatClampNeg) (hl : dp.toNatClampNeg + nn.toNatClampNeg ≤ vd.length) (hb : Z.heap.size ≤ b) (hvd : vd.take dp.toNatClampNeg ++ ((List.range nn.toNatClampNeg).map fun i => vs.getD (sp.toNatClampNeg + i) dv) ++ vd.drop (dp.toNatClampNeg + nn.toNatClampNeg) = vd')
    (hsize : ls.size = c.maxLocals) (hW : 2 * 0 + (st.map fun v => v.category).sum ≤ Wd) (hf : 1 ≤ R.frames) (hlo : Wd + 18 ≤ R.locals) (hd : decode c.code pc = .ok (.invokestatic index, 3)) (hp : pc + 3 = pc')
    (k : ∀ h', Keep h h' [b] → Arv Z h' b kB ty z' vd' dd → Go W EL Z a0 own p l e R s m args below meth c F h' cells slots (mkF m pc' ls st)) : Go W EL Z a0 own p l e R s m args below meth c F h cells slots (mkF m pc ls (.int nn :: .int dp :: .ref b :: .int sp :: .ref a :: st)) := by
  subst hp hvd hE
  intro T P
  obtain ⟨vm0, k0, locs, hWf, X, eT, hx, hZ, hown, hS, hk, hEL, hC, hN, hO⟩ := P
  obtain ⟨T', h', L, X', e', N', K', A', st'⟩ := cpA X hx hZ hown w1 w2 w3 w4 eT A B (Or.inl ⟨rfl, hty⟩) h1 h2 h3 h4 h5 rfl hl hN hb (g := mkF m pc ls (.int nn :: .int dp :: .ref b :: .int sp :: .ref a :: st)) rfl hsize rfl hd hf (W := Wd) hW hlo
  obtain ⟨t, o, g1, g2⟩ := k h' K' A' T' ⟨vm0, k0, L, hWf, X', e', hx, hZ, hown, hS, Nat.le_trans hk K'.1, hEL, hC.trans (CHr.keep K' (fun _ _ => safe_nil) hC.1), N', hO.keep K' (allS hb all0)⟩
  exact ⟨t, o, st' _ g1, g2⟩
end Own
abbrev EL1 : List (String × Nat) := [("com/example/hew/hew/MethodKindNounPinLaw", 61), ("com/example/hew/hew/MethodKindNounPinLaw", 63), ("com/example/hew/hew/MethodKindNounPinLaw", 65), ("com/example/hew/hew/MethodKindNounPinLaw", 67), ("com/example/hew/hew/MethodKindNounPinLaw", 69), ("com/example/hew/hew/MethodKindNounPinLaw", 71), ("java/lang/String", 7), ("java/lang/StringLatin1", 151)]
def GH (Z : State) (a0 : Array Value) : Prop := (∀ d ∈ tables_1, d.before a0 Z = true) ∧ (∀ d ∈ jdkStatics_1, d.before a0 Z = true) ∧ EW Z a0 EL1 ∧ (narrow_1.value a0 Z none Z [] = some true) ∧ Fit Z
theorem wk {Z : State} {a0 : Array Value} (G : GH Z a0) (k : Nat) {d : Jvm.Cond} (q : tables_1[k]? = some d := by rfl) : d.before a0 Z = true := G.1 _ (List.mem_of_getElem? q)
theorem jk {Z : State} {a0 : Array Value} (G : GH Z a0) (k : Nat) {d : Jvm.Cond} (q : jdkStatics_1[k]? = some d) : d.before a0 Z = true := G.2.1 _ (List.mem_of_getElem? q)
theorem ew1 {Z : State} {a0 : Array Value} (G : GH Z a0) : EW Z a0 EL1 := G.2.2.1
theorem wS {Z : State} {a0 : Array Value} (G : GH Z a0) : ∀ a ∈ Bundle.stringAtoms, a.before a0 Z = true := fun a ha => G.1 a ((by decide +kernel : ∀ d ∈ Bundle.stringAtoms, d ∈ tables_1) a ha)
theorem cs_of {Z : State} {a0 : Array Value} (G : GH Z a0) : ∃ z, Sta Z Z.heap "java/lang/String" "COMPACT_STRINGS" "Z" (.int z) ∧ ¬ z = 0 := by
  obtain ⟨z, e1⟩ := is_v (Cond.before_iff.mp (jk G 1 rfl))
  exact ⟨z, Sta.start e1 (Or.inl (jk G 0 rfl)), gotF (Cond.eq_ints e1 (Term.int_eval (0))) (not_v (Cond.before_iff.mp (jk G 2 rfl)))⟩
theorem sf_of {Z : State} {a0 : Array Value} (G : GH Z a0) : ∃ v, Sta Z Z.heap "jdk/internal/util/Preconditions" "SIOOBE_FORMATTER" "Ljava/util/function/BiFunction;" v ∧ v.isRef = true := by
  obtain ⟨v, e1, r1⟩ := isR_v (Cond.before_iff.mp (jk G 8 rfl))
  exact ⟨v, Sta.start e1 (Or.inl (jk G 7 rfl)), r1⟩
theorem conN {l : Launch} {Z : State} {a0 : Array Value} {ls : Array Slot} {h : Heap} {y : MethodName} {bytes : ByteArray} {maxL : Nat} {ret : Option FieldType} {wl : List Jvm.Cond} {rm : Room} {as' : Array Value} {ws : List Addr} {Q : Option Value → Heap → Prop} (G : GH Z a0) (hname : plainFor y = true) (hO : Old Z Z.heap.size h) (hef : ∀ m, entryFrame m as' maxL = mkF m 0 ls [])
    (body : ∀ (p : Program) (e : Env) (s : State) (m : MethodId) (below : List Frame) (meth : Method) (c : Code), (∀ {pc : Nat} {r : Except DecodeError (Instr × Nat)}, decode bytes pc = r → decode c.code pc = r) → c.maxLocals = maxL → meth.sig.returnType = ret → meth.locks = false → meth.name = y.name → Go false [] Z a0 y.cls p l e rm s m as' below meth c (Fend false [] Z s h ws Q rm.cells rm.slots) h 0 0 (mkF m 0 ls [])) :
    Con false [] l Z y bytes maxL ret wl rm as' h ws Q := con_of hname (fun _ => rfl) EW.nil hO hef body
theorem conW {l : Launch} {Z : State} {a0 : Array Value} {ls : Array Slot} {h : Heap} {y : MethodName} {bytes : ByteArray} {maxL : Nat} {ret : Option FieldType} {wl : List Jvm.Cond} {rm : Room} {as' : Array Value} {ws : List Addr} {Q : Option Value → Heap → Prop} (G : GH Z a0) (hname : plainFor y = true) (hO : Old Z Z.heap.size h) (hef : ∀ m, entryFrame m as' maxL = mkF m 0 ls [])
    (body : ∀ (p : Program) (e : Env) (s : State) (m : MethodId) (below : List Frame) (meth : Method) (c : Code), (∀ {pc : Nat} {r : Except DecodeError (Instr × Nat)}, decode bytes pc = r → decode c.code pc = r) → c.maxLocals = maxL → meth.sig.returnType = ret → meth.locks = false → meth.name = y.name → Go true EL1 Z a0 y.cls p l e rm s m as' below meth c (Fend true EL1 Z s h ws Q rm.cells rm.slots) h 0 0 (mkF m 0 ls [])) :
    Con true EL1 l Z y bytes maxL ret wl rm as' h ws Q := con_of hname (fun q => nomatch q) (ew1 G) hO hef body
theorem held_of {s : State} {q : String × Nat} (h : Jvm.Pilot.@@N@@.Jvm.D.constHeld s q.1 q.2) : Jvm.Lit.constHeld s q.1 q.2 := h
theorem nar_c8 {c : Int32} (q : ¬ c < 0 ∧ ¬ (255 : Int32) < c) : narrow .char (.int c) = .int c := by
  show Value.int (nar .char c) = _
  rw [show nar .char c = c.toUInt32.toUInt16.toUInt32.toInt32 from rfl]
  have r := c_i2c c
  obtain ⟨q1, q2⟩ := q
  rw [Int32.lt_iff_toInt_lt] at q1 q2
  have e1 : (255 : Int32).toInt = 255 := by decide
  have e0 : (0 : Int32).toInt = 0 := by decide
  congr 1
  apply Int32.toInt_inj.mp
  omega
section OwnStr
variable {W : Bool} {EL : List (String × Nat)} {Z : State} {a0 : Array Value} {own : String} {p : Program} {l : Launch} {e : Env} {R : Room} {below : List Frame} {h h' : Heap} {x b : Addr} {cs ds : List Int32}
abbrev C8 (c : Int32) : Prop := ¬ c < 0 ∧ ¬ (255 : Int32) < c
theorem c8n : ∀ c ∈ ([] : List Int32), C8 c := fun _ q => nomatch q
theorem c8c {y : Int32} {L : List Int32} (q : C8 y) (r : ∀ c ∈ L, C8 c) : ∀ c ∈ y :: L, C8 c := fun c hc => by
  rcases List.mem_cons.mp hc with rfl | hc
  · exact q
  · exact r c hc
theorem c8_m (y : Int32) : C8 (y &&& 255) := by
  have q := c_and y 255 (by decide)
  have e1 : (255 : Int32).toInt = 255 := by decide
  have e0 : (0 : Int32).toInt = 0 := by decide
  constructor <;> (intro r; rw [Int32.lt_iff_toInt_lt] at r; omega)
theorem c8_up {c : Int32} (q : C8 c) : ¬ c < 0 ∧ ¬ (65535 : Int32) < c := ⟨q.1, fun r => q.2 (by
  rw [Int32.lt_iff_toInt_lt] at r ⊢
  have e1 : (65535 : Int32).toInt = 65535 := by decide
  have e2 : (255 : Int32).toInt = 255 := by decide
  omega)⟩
theorem i2c_c16 {c : Int32} (q : ¬ c < 0 ∧ ¬ (65535 : Int32) < c) : c.toUInt32.toUInt16.toUInt32.toInt32 = c := by
  have r := c_i2c c
  obtain ⟨q1, q2⟩ := q
  rw [Int32.lt_iff_toInt_lt] at q1 q2
  have e1 : (65535 : Int32).toInt = 65535 := by decide
  have e0 : (0 : Int32).toInt = 0 := by decide
  apply Int32.toInt_inj.mp
  omega
theorem i2c_c8 {c : Int32} (q : C8 c) : c.toUInt32.toUInt16.toUInt32.toInt32 = c := i2c_c16 (c8_up q)
def Str (Z : State) (h : Heap) (a : Addr) (cs : List Int32) : Prop := ∃ (t : Addr) (kb : ClassId), Exa Z h a "java/lang/String" ∧ Fld Z h a "java/lang/String" "value" "[B" (.ref t) ∧ Fld Z h a "java/lang/String" "coder" "B" (.int 0) ∧ Arv Z h t kb .byte (Int32.ofNat cs.length) ((cs.map fun c => c.toInt8.toInt32).map Value.int) (.int 0) ∧ (∀ c ∈ cs, C8 c) ∧ cs.length ≤ 4000
theorem Str.exa (S : Str Z h x cs) : Exa Z h x "java/lang/String" := by obtain ⟨t, k, q, -⟩ := S; exact q
theorem Str.keep (S : Str Z h x cs) (K : Keep h h' []) : Str Z h' x cs := by
  obtain ⟨t, k, q1, q2, q3, q4, q5, q6⟩ := S
  exact ⟨t, k, q1.keep K, q2.keep K nin0, q3.keep K nin0, q4.keep K nin0, q5, q6⟩
theorem Str.ext (S : Str Z h x cs) (E : Ext h h') : Str Z h' x cs := S.keep ((Keep.refl h []).ext E)
theorem safe_null {vm : Vm} (hal : Z.vm.Alike vm) (E : Exa Z h x "java/lang/String") (V : Fld Z h x "java/lang/String" "value" "[B" .null) : Safe Z EL vm h x := fun B => by
  obtain ⟨cell, k, e1, e2, e3, -, -⟩ := E
  obtain ⟨cell', cf, k', i, f, v1, v2, v3, v4, v5, v6, v7⟩ := V
  cases e1.symm.trans v1
  obtain ⟨p, -, u, a, -, q, -, F, rfl | rfl⟩ := B
  · cases (show h[q.sa]? = some q.sC from F.ha).symm.trans e1
    obtain ⟨cS, ⟨⟨s1, s2, s3, ⟨cv, kv, iv, s4, s4'⟩, s5, s6, s7, s8, s9⟩, -, -⟩, -⟩ := F
    obtain ⟨kz, z4⟩ := ff_back (U := Wst Z vm h) hal s4
    cases z4.symm.trans v2
    rw [s8] at v7
    cases v7
  · cases (show h[q.sd]? = some q.SA from F.hd).symm.trans e1
    obtain ⟨cS, -, -, fB, -⟩ := F
    have f' : vm.findClass "[B" = some q.SA.cls := fB
    rw [hal.findClass] at f'
    obtain ⟨k1, q1, q2⟩ := Vm.findClass_spec f'
    obtain ⟨k2, q3, q4⟩ := Vm.findClass_spec e2
    cases q1.symm.trans q3
    exact absurd (q2.symm.trans q4) (by decide)
theorem go_empty {W : Bool} {s : State} {m : MethodId} {args : Array Value} {meth : Method} {c : Code} {F : Outcome → State → Prop} {cells slots : Nat} {ls : Array Slot} {a : Addr} (G : GH Z a0) (hWt : W = true) (hmem : ("java/lang/String", 7) ∈ EL) (hnm : meth.name = "<init>") (hls : ls[0]? = some (.val (.ref a)))
    (w1 : (Jvm.Cond.stringLink "java/lang/String" 7 "").before a0 Z = true) (w2 : (Jvm.Cond.fieldLink "java/lang/String" 9 "java/lang/String" "value" "[B").before a0 Z = true) (w3 : (Jvm.Cond.fieldLink "java/lang/String" 15 "java/lang/String" "coder" "B").before a0 Z = true) (w4 : (Jvm.Cond.laysFinal "java/lang/String" "java/lang/String" "value" "[B").before a0 Z = true) (w5 : (Jvm.Cond.laysFinal "java/lang/String" "java/lang/String" "coder" "B").before a0 Z = true) (wi : (Jvm.Cond.instantiable "java/lang/String" 4).before a0 Z = true)
    (E : Exa Z h a "java/lang/String") (V : Fld Z h a "java/lang/String" "value" "[B" .null) (Cd : Fld Z h a "java/lang/String" "coder" "B" (.int 0)) (za : Z.heap.size ≤ a)
    (d8 : decode c.code 8 = .ok (.aload_n 0, 1)) (d9 : decode c.code 9 = .ok (.ldc 7, 2)) (d11 : decode c.code 11 = .ok (.getfield 9, 3)) (d14 : decode c.code 14 = .ok (.putfield 9, 3)) (d17 : decode c.code 17 = .ok (.aload_n 0, 1)) (d18 : decode c.code 18 = .ok (.ldc 7, 2)) (d20 : decode c.code 20 = .ok (.getfield 15, 3)) (d23 : decode c.code 23 = .ok (.putfield 15, 3))
    (hc : cells + 4 ≤ R.cells) (hl : slots + 8 ≤ R.slots)
    (k : ∀ h', Str Z h' a [] → Keep h h' [a] → Go W EL Z a0 "java/lang/String" p l e R s m args below meth c F h' (cells + 4) (slots + 8) (mkF m 26 ls [])) : Go W EL Z a0 "java/lang/String" p l e R s m args below meth c F h cells slots (mkF m 8 ls []) := by
  subst hWt
  intro T P
  obtain ⟨vm0, k0, locs, hWf, X, eT, hx, hZ, hown, hS, hk, hEL, hC, hN, hO⟩ := P
  have hal0 : h.size > a := E.lt
  have S0 : Safe Z EL vm0 h a := safe_null hZ.alike E V
  obtain ⟨a1, T1, h1, k1, b1, kb1, X1, e1, E1, hS1, hk1, hZ1, hown1, q1, q2, q3, q4, -, -, hC1, -, ne1, st1⟩ := ldcCH X hx hZ hown w1 (wS G) eT hS hk hEL hmem hC.1 (vs := []) (z := 0) (by decide) (by decide) (by decide) (g := mkF m 9 ls [.ref a]) rfl d9 (n := 0) (by decide) (by decide) (by omega) (by omega)
  have hZ1 : Z.Warmed39 T1.vm := hZ1
  have S1 : Safe Z EL T1.vm h1 a := hC1.safe hal0 S0
  obtain ⟨T2, X2, e2, st2⟩ := getF X1 hx hZ1 hown1 (host := "") (Or.inl w2) Via.refl e1 q3 (g := mkF m 11 ls [.ref a1, .ref a]) rfl rfl d11
  obtain ⟨T3, h3, X3, e3, W3, st3⟩ := putFN X2 hx hZ1 hown1 w2 Via.refl e2 (V.ext E1) (E.ext E1) (Or.inr ⟨w4, rfl, hnm⟩) wi (ty := .array .byte) (v' := .ref b1) (by decide) rfl rfl (g := mkF m 14 ls [.ref b1, .ref a]) rfl rfl d14
  have hC3 : CHr Z EL vm0 h T1.vm h3 := hC1.trans (CHr.wr W3 S1 hC1.1)
  have S3 : Safe Z EL T1.vm h3 a := Safe.wr W3 S1 hC1.1 S1
  have A3 := q4.other W3 (Ne.symm (ne1 a S1).2)
  have V3 := (V.ext E1).same W3
  have C3 := (Cd.ext E1).other W3 (Or.inr (slot_ne (t := .byte) (t' := .array .byte) (Or.inr w5) (Or.inr w4) (by decide) (by decide) (by decide)))
  have X3' : Exa Z h3 a "java/lang/String" := (E.ext E1).wr W3
  have hk3 : k1 ≤ h3.size := by rw [W3.size]; exact hk1
  obtain ⟨a4, T4, h4, k4, b4, kb4, X4, e4, E4, hS4, hk4, hZ4, hown4, r1, r2, r3, r4, -, -, hC4, -, ne4, st4⟩ := ldcCH X3 hx hZ1 hown1 w1 (wS G) e3 hS1 hk3 hEL hmem hC3.1 (vs := []) (z := 0) (by decide) (by decide) (by decide) (g := mkF m 18 ls [.ref a]) rfl d18 (n := 0) (by decide) (by decide) (by omega) (by omega)
  have hZ4 : Z.Warmed39 T4.vm := hZ4
  have S4 : Safe Z EL T4.vm h4 a := hC4.safe X3'.lt S3
  obtain ⟨T5, X5, e5, st5⟩ := getF X4 hx hZ4 hown4 (host := "") (Or.inl w3) Via.refl e4 r2 (g := mkF m 20 ls [.ref a4, .ref a]) rfl rfl d20
  obtain ⟨T6, h6, X6, e6, W6, st6⟩ := putFN X5 hx hZ4 hown4 w3 Via.refl e5 (C3.ext E4) (X3'.ext E4) (Or.inr ⟨w5, rfl, hnm⟩) wi (ty := .byte) (v' := .int 0) (by decide) rfl rfl (g := mkF m 23 ls [.int 0, .ref a]) rfl rfl d23
  have ext4 : Exa Z h4 a "java/lang/String" := X3'.ext E4
  have nb : b1 ≠ a := Ne.symm (ne1 a S1).2
  have KK : Keep h h6 [a] := ((((Keep.refl h [a]).ext E1).wr W3 (Or.inl (by simp))).ext E4).wr W6 (Or.inl (by simp))
  have SS : Str Z h6 a [] := ⟨b1, kb1, ext4.wr W6, (V3.ext E4).other W6 (Or.inr (slot_ne (t := .array .byte) (t' := .byte) (Or.inr w4) (Or.inr w5) (by decide) (by decide) (by decide))), (C3.ext E4).same W6, (A3.ext E4).other W6 nb, c8n, by decide⟩
  have O6 : Old Z Z.heap.size h6 := (((hO.ext E1).wr W3 za).ext E4).wr W6 za
  obtain ⟨t, o, z1, z2⟩ := k h6 SS KK T6 ⟨T4.vm, k4, _, (fun q => nomatch q), X6, e6, hx, hZ4, hown4, hS4, by rw [W6.size]; exact hk4, hEL, hC.trans (hC3.trans (hC4.trans (CHr.wr W6 S4 hC4.1))), Fr.snoc X6 (Fr.snoc X3 hN za) za, O6⟩
  refine ⟨t, o, ?_, z2⟩
  refine XS.aloadN X.here hx rfl d8 hls rfl ?_
  refine st1 _ ?_
  refine st2 _ ?_
  refine st3 _ ?_
  refine XS.aloadN X3.here hx rfl d17 hls rfl ?_
  refine st4 _ ?_
  refine st5 _ ?_
  exact st6 _ z1
theorem pay_new (G : GH Z a0) (O : Old Z Z.heap.size h) {kC : ClassId} {d v0 c0 : Value} {N : Int32} {n Wd : Nat} (hx0 : Z.heap.size ≤ x) (E : Exa Z h x "java/lang/String") (V : Fld Z h x "java/lang/String" "value" "[B" v0) (C : Fld Z h x "java/lang/String" "coder" "B" c0) (K : Arv Z h b kC .char N (cs.map Value.int) d) (hn : cs.length = n) (hN : N = Int32.ofNat n) (l0 : 0 < n) (l2 : n ≤ 4000) (hp : ∀ c ∈ cs, C8 c) (hfr : 4 ≤ R.frames) (hlo : Wd + 65 ≤ R.locals) :
    Pay l R p e below Z (⟨"java/lang/String", "<init>", "([C)V"⟩ : MethodName) Wd #[.ref x, .ref b] h 1 n [x] (rno fun h' => Str Z h' x cs) := by
  intro s args hZ
  obtain ⟨z, hS, hz⟩ := cs_of G
  refine (StrChars.Road.backV (W := Wd) hZ (fun d hd => G.1 d ((by decide +kernel : ∀ d ∈ StrChars.Road.words, d ∈ tables_1) d hd)) (kI := 4) (wk G 13 rfl) hx0 O.2.1 E V C K (hS.ext O.2) hz hn hN l0 l2 hp rfl hfr hlo).mono (fun _ _ q => q) ?_
  rintro A a v B - ⟨L, ⟨rfl, q1, q2, q3, q4, t, kb, q5, q6, q7, q8, q9⟩, b1, b2, b3⟩
  subst hn hN
  exact ⟨L, ⟨⟨rfl, t, kb, q3, q8, q4, q9, hp, l2⟩, q1, q2⟩, b1, b2, b3⟩
theorem pay_len (G : GH Z a0) (O : Old Z Z.heap.size h) {n : Int32} {Wd : Nat} (S : Str Z h x cs) (hn : Int32.ofNat cs.length = n) (hfr : 2 ≤ R.frames) (hlo : Wd + 25 ≤ R.locals) :
    Pay l R p e below Z (⟨"java/lang/String", "length", "()I"⟩ : MethodName) Wd #[.ref x] h 0 0 [] (rvl fun v h' => .int n = v ∧ h = h') := by
  intro s args hZ
  obtain ⟨z, hS, hz⟩ := cs_of G
  obtain ⟨t, kb, q1, q2, q3, q4, q5, q6⟩ := S
  refine (StrChars.Road.lenW (W := Wd) hZ (fun d hd => G.1 d ((by decide +kernel : ∀ d ∈ StrChars.Road.wordsLen, d ∈ tables_1) d hd)) (kI := 4) (wk G 13 rfl) q1 q2 q3 q4 (StrChars.Road.codOf rfl fun c hc => (q5 c hc).2) (fun c hc => c8_up (q5 c hc)) (hS.ext O.2) hz q6 hfr hlo).mono (fun _ _ q => q) ?_
  rintro A a v B - ⟨L, ⟨rfl, rfl, e1⟩, b1, b2, b3⟩
  subst hn
  exact ⟨[], ⟨⟨_, rfl, rfl, e1.symm⟩, Fr.nil _, by rw [e1]; exact Keep.refl _ _⟩, b1, b2, b3⟩
theorem pay_chr (G : GH Z a0) (O : Old Z Z.heap.size h) {i : Nat} {j c : Int32} {Wd : Nat} (S : Str Z h x cs) (hj : j = Int32.ofNat i) (hi : i < cs.length) (hc : cs.getD i 0 = c) (hfr : 4 ≤ R.frames) (hlo : Wd + 53 ≤ R.locals) :
    Pay l R p e below Z (⟨"java/lang/String", "charAt", "(I)C"⟩ : MethodName) Wd #[.ref x, .int j] h 0 0 [] (rvl fun v h' => .int c = v ∧ h = h') := by
  intro s args hZ
  obtain ⟨z, hS, hz⟩ := cs_of G
  obtain ⟨fm, hF, rf⟩ := sf_of G
  obtain ⟨t, kb, q1, q2, q3, q4, q5, q6⟩ := S
  refine (StrChars.Road.chN (W := Wd) hZ (fun d hd => G.1 d ((by decide +kernel : ∀ d ∈ StrChars.Road.wordsChN, d ∈ tables_1) d hd)) (kI := 4) (wk G 13 rfl) q1 q2 q3 q4 (StrChars.Road.codOf rfl fun c hc => (q5 c hc).2) (fun c hc => c8_up (q5 c hc)) (hS.ext O.2) hz (hF.ext O.2) rf q6 hi hj hfr hlo).mono (fun _ _ q => q) ?_
  rintro A a v B - ⟨L, ⟨rfl, rfl, e1⟩, b1, b2, b3⟩
  subst hc
  exact ⟨[], ⟨⟨_, rfl, rfl, e1.symm⟩, Fr.nil _, by rw [e1]; exact Keep.refl _ _⟩, b1, b2, b3⟩
theorem pay_eq (G : GH Z a0) (O : Old Z Z.heap.size h) {Wd : Nat} (S : Str Z h x cs) (S' : Str Z h b ds) (hfr : 2 ≤ R.frames) (hlo : Wd + 28 ≤ R.locals) :
    Pay l R p e below Z (⟨"java/lang/String", "equals", "(Ljava/lang/Object;)Z"⟩ : MethodName) Wd #[.ref x, .ref b] h 0 0 [] (rvl fun v h' => (.int 1 = v ∧ cs = ds ∧ h = h') ∨ (.int 0 = v ∧ ¬ cs = ds ∧ h = h')) := by
  intro s args hZ
  obtain ⟨z, hS, hz⟩ := cs_of G
  obtain ⟨t, kb, q1, q2, q3, q4, q5, q6⟩ := S
  obtain ⟨t', kb', r1, r2, r3, r4, r5, r6⟩ := S'
  refine (StrChars.Road.eqW (W := Wd) hZ (fun d hd => G.1 d ((by decide +kernel : ∀ d ∈ StrChars.Road.wordsEq, d ∈ tables_1) d hd)) (kI := 4) (wk G 13 rfl) q1 q2 q3 q4 (StrChars.Road.codOf rfl fun c hc => (q5 c hc).2) (fun c hc => c8_up (q5 c hc)) q6 r1 r2 r3 r4 (StrChars.Road.codOf rfl fun c hc => (r5 c hc).2) (fun c hc => c8_up (r5 c hc)) r6 (hS.ext O.2) hz hfr hlo).mono (fun _ _ q => q) ?_
  rintro A a v B - ⟨L, ⟨⟨rfl, q⟩ | ⟨rfl, q⟩, rfl, e1⟩, b1, b2, b3⟩
  · exact ⟨[], ⟨⟨_, rfl, Or.inl ⟨rfl, q, e1.symm⟩⟩, Fr.nil _, by rw [e1]; exact Keep.refl _ _⟩, b1, b2, b3⟩
  · exact ⟨[], ⟨⟨_, rfl, Or.inr ⟨rfl, q, e1.symm⟩⟩, Fr.nil _, by rw [e1]; exact Keep.refl _ _⟩, b1, b2, b3⟩
end OwnStr
def sa (Z : State) (C n d : String) : Addr := (((Term.static C n d).eval #[] Z none [] Z).bind refO).getD 0
theorem sta_ref {Z : State} {a0 : Array Value} {C n d K : String} (q : (Jvm.Cond.exactly (.static C n d) K).value a0 Z none Z [] = some true) (hi : (Jvm.Cond.initialized C).before a0 Z = true ∧ (Jvm.Cond.laysStatic C n d).before a0 Z = true) : Sta Z Z.heap C n d (.ref (sa Z C n d)) ∧ Exa Z Z.heap (sa Z C n d) K := by
  obtain ⟨y, e1⟩ := exa_v q
  have r : sa Z C n d = y := by
    unfold sa
    rw [show (Term.static C n d).eval #[] Z none [] Z = some (.ref y) from e1]
    rfl
  rw [r]
  exact ⟨Sta.start e1 (Or.inr hi), Exa.start e1 q⟩
def s_LIST (Z : State) : Addr := sa Z "com/example/hew/hew/MethodKind" "LIST" "Lcom/example/hew/hew/MethodKind;"
theorem se_LIST {Z : State} {a0 : Array Value} (G : GH Z a0) : Sta Z Z.heap "com/example/hew/hew/MethodKind" "LIST" "Lcom/example/hew/hew/MethodKind;" (.ref (s_LIST Z)) ∧ Exa Z Z.heap (s_LIST Z) "com/example/hew/hew/MethodKind" := sta_ref ((and_e G.2.2.2.1).1) ⟨(wk G 6 rfl), (wk G 7 rfl)⟩
def s_UPDATE (Z : State) : Addr := sa Z "com/example/hew/hew/MethodKind" "UPDATE" "Lcom/example/hew/hew/MethodKind;"
theorem se_UPDATE {Z : State} {a0 : Array Value} (G : GH Z a0) : Sta Z Z.heap "com/example/hew/hew/MethodKind" "UPDATE" "Lcom/example/hew/hew/MethodKind;" (.ref (s_UPDATE Z)) ∧ Exa Z Z.heap (s_UPDATE Z) "com/example/hew/hew/MethodKind" := sta_ref ((and_e (and_e (and_e (and_e (and_e (and_e G.2.2.2.1).2).2).2).2).2).1) ⟨(wk G 6 rfl), (wk G 142 rfl)⟩
def s_CREATE (Z : State) : Addr := sa Z "com/example/hew/hew/MethodKind" "CREATE" "Lcom/example/hew/hew/MethodKind;"
theorem se_CREATE {Z : State} {a0 : Array Value} (G : GH Z a0) : Sta Z Z.heap "com/example/hew/hew/MethodKind" "CREATE" "Lcom/example/hew/hew/MethodKind;" (.ref (s_CREATE Z)) ∧ Exa Z Z.heap (s_CREATE Z) "com/example/hew/hew/MethodKind" := sta_ref ((and_e (and_e (and_e (and_e (and_e (and_e (and_e (and_e (and_e (and_e (and_e G.2.2.2.1).2).2).2).2).2).2).2).2).2).2).1) ⟨(wk G 6 rfl), (wk G 147 rfl)⟩
def s_DELETE (Z : State) : Addr := sa Z "com/example/hew/hew/MethodKind" "DELETE" "Lcom/example/hew/hew/MethodKind;"
theorem se_DELETE {Z : State} {a0 : Array Value} (G : GH Z a0) : Sta Z Z.heap "com/example/hew/hew/MethodKind" "DELETE" "Lcom/example/hew/hew/MethodKind;" (.ref (s_DELETE Z)) ∧ Exa Z Z.heap (s_DELETE Z) "com/example/hew/hew/MethodKind" := sta_ref ((and_e (and_e (and_e (and_e (and_e (and_e (and_e (and_e (and_e (and_e (and_e (and_e (and_e (and_e (and_e (and_e G.2.2.2.1).2).2).2).2).2).2).2).2).2).2).2).2).2).2).2).1) ⟨(wk G 6 rfl), (wk G 150 rfl)⟩
def s_GET (Z : State) : Addr := sa Z "com/example/hew/hew/MethodKind" "GET" "Lcom/example/hew/hew/MethodKind;"
theorem se_GET {Z : State} {a0 : Array Value} (G : GH Z a0) : Sta Z Z.heap "com/example/hew/hew/MethodKind" "GET" "Lcom/example/hew/hew/MethodKind;" (.ref (s_GET Z)) ∧ Exa Z Z.heap (s_GET Z) "com/example/hew/hew/MethodKind" := sta_ref ((and_e (and_e (and_e (and_e (and_e (and_e (and_e (and_e (and_e (and_e (and_e (and_e (and_e (and_e (and_e (and_e (and_e (and_e (and_e (and_e (and_e G.2.2.2.1).2).2).2).2).2).2).2).2).2).2).2).2).2).2).2).2).2).2).2).2).1) ⟨(wk G 6 rfl), (wk G 153 rfl)⟩
def s_CUSTOM (Z : State) : Addr := sa Z "com/example/hew/hew/MethodKind" "CUSTOM" "Lcom/example/hew/hew/MethodKind;"
theorem se_CUSTOM {Z : State} {a0 : Array Value} (G : GH Z a0) : Sta Z Z.heap "com/example/hew/hew/MethodKind" "CUSTOM" "Lcom/example/hew/hew/MethodKind;" (.ref (s_CUSTOM Z)) ∧ Exa Z Z.heap (s_CUSTOM Z) "com/example/hew/hew/MethodKind" := sta_ref ((and_e (and_e (and_e (and_e (and_e (and_e (and_e (and_e (and_e (and_e (and_e (and_e (and_e (and_e (and_e (and_e (and_e (and_e (and_e (and_e (and_e (and_e (and_e (and_e (and_e (and_e G.2.2.2.1).2).2).2).2).2).2).2).2).2).2).2).2).2).2).2).2).2).2).2).2).2).2).2).2).2).1) ⟨(wk G 6 rfl), (wk G 156 rfl)⟩
theorem len_lt {args : Array Value} {first s : State} {o : Option Outcome} {idx : List Nat} {t : Term} {y : Addr} {cl : Cell} {n : Int32} (ht : t.eval args first o idx s = some (.ref y)) (ha : s.arrayAt? y = some cl) (q : (Term.length t).eval args first o idx s = some (.int n)) : cl.slots.size < 2 ^ 31 ∧ cl.slots.size.toInt32 = n := by
  by_cases r : cl.slots.size < 2 ^ 31
  · rw [len_f ht ha r] at q
    cases q
    exact ⟨r, rfl⟩
  · simp [Term.eval, ht, ha, r] at q
theorem ev_ref {Z : State} {a0 : Array Value} {C n d K : String} (q : (Jvm.Cond.exactly (.static C n d) K).value a0 Z none Z [] = some true) : (Term.static C n d).eval a0 Z none [] Z = some (.ref (sa Z C n d)) := by
  obtain ⟨y, e1⟩ := exa_v q
  have r : sa Z C n d = y := by
    unfold sa
    rw [show (Term.static C n d).eval #[] Z none [] Z = some (.ref y) from e1]
    rfl
  rw [r]; exact e1
theorem and_nn (y k : Int32) (q : 0 ≤ k.toInt) : 0 ≤ (y &&& k).toInt := (c_and y k q).1
theorem rem6 (y : Int32) (q : 0 ≤ y.toInt) : y % (6 : Int32) = (0 : Int32) ∨ y % (6 : Int32) = (1 : Int32) ∨ y % (6 : Int32) = (2 : Int32) ∨ y % (6 : Int32) = (3 : Int32) ∨ y % (6 : Int32) = (4 : Int32) ∨ y % (6 : Int32) = (5 : Int32) := by
  have r := (c_irem y 6 6 (by decide)).1 q
  have e0 : (0 : Int32).toInt = 0 := by decide
  have e1 : (1 : Int32).toInt = 1 := by decide
  have e2 : (2 : Int32).toInt = 2 := by decide
  have e3 : (3 : Int32).toInt = 3 := by decide
  have e4 : (4 : Int32).toInt = 4 := by decide
  have e5 : (5 : Int32).toInt = 5 := by decide
  have : (y % (6 : Int32)).toInt = 0 ∨ (y % (6 : Int32)).toInt = 1 ∨ (y % (6 : Int32)).toInt = 2 ∨ (y % (6 : Int32)).toInt = 3 ∨ (y % (6 : Int32)).toInt = 4 ∨ (y % (6 : Int32)).toInt = 5 := by omega
  rcases this with h | h | h | h | h | h
  · exact (Or.inl (Int32.toInt_inj.mp (by rw [h, e0])))
  · exact (Or.inr (Or.inl (Int32.toInt_inj.mp (by rw [h, e1]))))
  · exact (Or.inr (Or.inr (Or.inl (Int32.toInt_inj.mp (by rw [h, e2])))))
  · exact (Or.inr (Or.inr (Or.inr (Or.inl (Int32.toInt_inj.mp (by rw [h, e3]))))))
  · exact (Or.inr (Or.inr (Or.inr (Or.inr (Or.inl (Int32.toInt_inj.mp (by rw [h, e4])))))))
  · exact (Or.inr (Or.inr (Or.inr (Or.inr (Or.inr (Int32.toInt_inj.mp (by rw [h, e5])))))))
theorem and4 (y : Int32) : (y &&& (3 : Int32)) = (0 : Int32) ∨ (y &&& (3 : Int32)) = (1 : Int32) ∨ (y &&& (3 : Int32)) = (2 : Int32) ∨ (y &&& (3 : Int32)) = (3 : Int32) := by
  have r := c_and y 3 (by decide)
  have e0 : (0 : Int32).toInt = 0 := by decide
  have e1 : (1 : Int32).toInt = 1 := by decide
  have e2 : (2 : Int32).toInt = 2 := by decide
  have e3 : (3 : Int32).toInt = 3 := by decide
  have : (y &&& (3 : Int32)).toInt = 0 ∨ (y &&& (3 : Int32)).toInt = 1 ∨ (y &&& (3 : Int32)).toInt = 2 ∨ (y &&& (3 : Int32)).toInt = 3 := by omega
  rcases this with h | h | h | h
  · exact Or.inl (Int32.toInt_inj.mp (by rw [h, e0]))
  · exact Or.inr (Or.inl (Int32.toInt_inj.mp (by rw [h, e1])))
  · exact Or.inr (Or.inr (Or.inl (Int32.toInt_inj.mp (by rw [h, e2]))))
  · exact Or.inr (Or.inr (Or.inr (Int32.toInt_inj.mp (by rw [h, e3]))))
def unb (v : Value) : Int32 := match v with | .int x => if x < 0 then x + 256 else x | _ => 0
theorem unb_ok {v : Value} (q : fits .byte v = true) : C8 (unb v) ∧ Value.int ((unb v).toInt8.toInt32) = v := by
  cases v with
  | int x =>
    have q' : (decide ((-128 : Int32) ≤ x) && decide (x ≤ (127 : Int32))) = true := q
    rw [Bool.and_eq_true, decide_eq_true_eq, decide_eq_true_eq] at q'
    obtain ⟨q1, q2⟩ := q'
    rw [Int32.le_iff_toInt_le] at q1 q2
    have e1 : (-128 : Int32).toInt = -128 := by decide
    have e2 : (127 : Int32).toInt = 127 := by decide
    have e3 : (256 : Int32).toInt = 256 := by decide
    have e4 : (0 : Int32).toInt = 0 := by decide
    have e5 : (255 : Int32).toInt = 255 := by decide
    have ra := c_iadd x 256
    have rb := rng32 (x + 256)
    have key : (unb (.int x)).toInt = x.toInt ∨ (unb (.int x)).toInt = x.toInt + 256 := by
      show (if x < 0 then x + 256 else x).toInt = _ ∨ (if x < 0 then x + 256 else x).toInt = _
      by_cases h : x < 0
      · rw [if_pos h]; right; omega
      · rw [if_neg h]; left; rfl
    have pos : 0 ≤ (unb (.int x)).toInt := by
      show 0 ≤ (if x < 0 then x + 256 else x).toInt
      by_cases h : x < 0
      · rw [if_pos h]; omega
      · rw [if_neg h]; rw [Int32.lt_iff_toInt_lt] at h; omega
    have up : (unb (.int x)).toInt ≤ 255 := by
      show (if x < 0 then x + 256 else x).toInt ≤ 255
      by_cases h : x < 0
      · rw [if_pos h]; rw [Int32.lt_iff_toInt_lt] at h; omega
      · rw [if_neg h]; omega
    refine ⟨⟨fun r => ?_, fun r => ?_⟩, ?_⟩
    · rw [Int32.lt_iff_toInt_lt] at r; omega
    · rw [Int32.lt_iff_toInt_lt] at r; omega
    · have rc := c_i2b (unb (.int x))
      congr 1
      apply Int32.toInt_inj.mp
      omega
  | _ => exact Bool.noConfusion (show false = true from q)
theorem str_any {Z : State} {a0 : Array Value} (hf : Fit Z) {t : Term} {w : Addr} (ev : t.eval a0 Z none [] Z = some (.ref w)) (x1 : (Jvm.Cond.exactly t "java/lang/String").value a0 Z none Z [] = some true) (x2 : (Jvm.Cond.eq (.field t "java/lang/String" "coder" "B") (.int 0)).value a0 Z none Z [] = some true) (x3 : (Jvm.Cond.arrayOf (.field t "java/lang/String" "value" "[B") .byte).value a0 Z none Z [] = some true) {n : Int32} (x4 : (Jvm.Cond.eq (.length (.field t "java/lang/String" "value" "[B")) (.int n)).value a0 Z none Z [] = some true) (hn : ¬ n < 0) (hs : n.toNatClampNeg ≤ 4000) : ∃ cs : List Int32, cs.length = n.toNatClampNeg ∧ Str Z Z.heap w cs := by
  obtain ⟨b, eb⟩ := arr_v x3
  obtain ⟨cl, A⟩ := Arr.start eb x3
  have ha : Z.arrayAt? b = some cl := A.fin (Vm.Alike.refl _)
  obtain ⟨l1, l2⟩ := len_lt eb ha (eqv_i (Term.int_eval n) x4)
  have S : cl.slots.size = n.toNatClampNeg := by rw [← l2]; simp only [Int32.toNatClampNeg, len_toInt l1]; rfl
  have fq : ∀ i, (hi : i < cl.slots.size) → fits .byte cl.slots[i] = true := fun i hi => by
    have e1 : (Nat.toInt32 i).toNatClampNeg = i := by simp only [Int32.toNatClampNeg, len_toInt (Nat.lt_trans hi l1)]; rfl
    obtain ⟨v, h1, h2⟩ := elem_fit (j := Nat.toInt32 i) hf A (idx_in hi l1)
    rw [e1, Array.getElem?_eq_getElem hi] at h1
    cases h1
    exact h2
  have fm : ∀ v ∈ cl.slots.toList, fits .byte v = true := fun v hv => by
    obtain ⟨i, hi, rfl⟩ := List.getElem_of_mem hv
    rw [Array.getElem_toList]
    exact fq i (by simpa using hi)
  have vseq : ((cl.slots.toList.map unb).map fun c => c.toInt8.toInt32).map Value.int = cl.slots.toList := by
    rw [List.map_map, List.map_map]
    refine Eq.trans (List.map_congr_left (g := id) fun v hv => ?_) (List.map_id _)
    exact (unb_ok (fm v hv)).2
  have ec := eqv_i (Term.int_eval 0) x2
  rw [fld_at ev] at ec
  rw [fld_at ev] at eb
  have len : (cl.slots.toList.map unb).length = cl.slots.size := by simp
  refine ⟨cl.slots.toList.map unb, by rw [len, S], b, cl.cls, Exa.start ev x1, Fld.start eb, Fld.start ec, ?_, ?_, by rw [len, S]; exact hs⟩
  · rw [vseq, len, show Int32.ofNat cl.slots.size = n from l2]
    refine ⟨cl, A, rfl, S, hn, fun k hk => ?_, fun k hk => ?_⟩
    · simp [Array.getElem?_eq_getElem hk, List.getD_eq_getElem?_getD]
    · rw [show cl.slots.toList.getD k (.int 0) = cl.slots[k] from by simp [Array.getElem?_eq_getElem hk, List.getD_eq_getElem?_getD]]
      exact fq k hk
  · intro c hc
    obtain ⟨v, hv, rfl⟩ := List.mem_map.mp hc
    exact (unb_ok (fm v hv)).1
theorem len_0 {cs : List Int32} (q : cs.length = 0) : cs = [] := List.length_eq_zero_iff.mp q
theorem len_3 {cs : List Int32} (q : cs.length = 3) : ∃ y0 y1 y2, cs = [y0, y1, y2] := by
  match cs, q with
  | [y0, y1, y2], _ => exact ⟨y0, y1, y2, rfl⟩
theorem len_4 {cs : List Int32} (q : cs.length = 4) : ∃ y0 y1 y2 y3, cs = [y0, y1, y2, y3] := by
  match cs, q with
  | [y0, y1, y2, y3], _ => exact ⟨y0, y1, y2, y3, rfl⟩
theorem len_6 {cs : List Int32} (q : cs.length = 6) : ∃ y0 y1 y2 y3 y4 y5, cs = [y0, y1, y2, y3, y4, y5] := by
  match cs, q with
  | [y0, y1, y2, y3, y4, y5], _ => exact ⟨y0, y1, y2, y3, y4, y5, rfl⟩
def w_LIST (Z : State) : Addr := (((Term.field (Term.static "com/example/hew/hew/MethodKind" "LIST" "Lcom/example/hew/hew/MethodKind;") "com/example/hew/hew/MethodKind" "prefix" "Ljava/lang/String;").eval #[] Z none [] Z).bind refO).getD 0
theorem pf_LIST {Z : State} {a0 : Array Value} (G : GH Z a0) : ∃ y0 y1 y2 y3, Fld Z Z.heap (s_LIST Z) "com/example/hew/hew/MethodKind" "prefix" "Ljava/lang/String;" (.ref (w_LIST Z)) ∧ Str Z Z.heap (w_LIST Z) [y0, y1, y2, y3] := by
  have hS := ev_ref ((and_e G.2.2.2.1).1)
  obtain ⟨y, e1⟩ := exa_v ((and_e (and_e G.2.2.2.1).2).1)
  have r : w_LIST Z = y := by
    unfold w_LIST
    rw [show (Term.field (Term.static "com/example/hew/hew/MethodKind" "LIST" "Lcom/example/hew/hew/MethodKind;") "com/example/hew/hew/MethodKind" "prefix" "Ljava/lang/String;").eval #[] Z none [] Z = some (.ref y) from e1]
    rfl
  rw [r]
  obtain ⟨cs, l, S⟩ := str_any G.2.2.2.2 e1 ((and_e (and_e G.2.2.2.1).2).1) ((and_e (and_e (and_e (and_e (and_e G.2.2.2.1).2).2).2).2).1) ((and_e (and_e (and_e G.2.2.2.1).2).2).1) ((and_e (and_e (and_e (and_e G.2.2.2.1).2).2).2).1) (by decide) (by decide)
  rw [fld_at hS] at e1
  obtain ⟨y0, y1, y2, y3, rfl⟩ := len_4 l
  exact ⟨y0, y1, y2, y3, Fld.start e1, S⟩
def w_GET (Z : State) : Addr := (((Term.field (Term.static "com/example/hew/hew/MethodKind" "GET" "Lcom/example/hew/hew/MethodKind;") "com/example/hew/hew/MethodKind" "prefix" "Ljava/lang/String;").eval #[] Z none [] Z).bind refO).getD 0
theorem pf_GET {Z : State} {a0 : Array Value} (G : GH Z a0) : ∃ y0 y1 y2, Fld Z Z.heap (s_GET Z) "com/example/hew/hew/MethodKind" "prefix" "Ljava/lang/String;" (.ref (w_GET Z)) ∧ Str Z Z.heap (w_GET Z) [y0, y1, y2] := by
  have hS := ev_ref ((and_e (and_e (and_e (and_e (and_e (and_e (and_e (and_e (and_e (and_e (and_e (and_e (and_e (and_e (and_e (and_e (and_e (and_e (and_e (and_e (and_e G.2.2.2.1).2).2).2).2).2).2).2).2).2).2).2).2).2).2).2).2).2).2).2).2).1)
  obtain ⟨y, e1⟩ := exa_v ((and_e (and_e (and_e (and_e (and_e (and_e (and_e (and_e (and_e (and_e (and_e (and_e (and_e (and_e (and_e (and_e (and_e (and_e (and_e (and_e (and_e (and_e G.2.2.2.1).2).2).2).2).2).2).2).2).2).2).2).2).2).2).2).2).2).2).2).2).2).1)
  have r : w_GET Z = y := by
    unfold w_GET
    rw [show (Term.field (Term.static "com/example/hew/hew/MethodKind" "GET" "Lcom/example/hew/hew/MethodKind;") "com/example/hew/hew/MethodKind" "prefix" "Ljava/lang/String;").eval #[] Z none [] Z = some (.ref y) from e1]
    rfl
  rw [r]
  obtain ⟨cs, l, S⟩ := str_any G.2.2.2.2 e1 ((and_e (and_e (and_e (and_e (and_e (and_e (and_e (and_e (and_e (and_e (and_e (and_e (and_e (and_e (and_e (and_e (and_e (and_e (and_e (and_e (and_e (and_e G.2.2.2.1).2).2).2).2).2).2).2).2).2).2).2).2).2).2).2).2).2).2).2).2).2).1) ((and_e (and_e (and_e (and_e (and_e (and_e (and_e (and_e (and_e (and_e (and_e (and_e (and_e (and_e (and_e (and_e (and_e (and_e (and_e (and_e (and_e (and_e (and_e (and_e (and_e G.2.2.2.1).2).2).2).2).2).2).2).2).2).2).2).2).2).2).2).2).2).2).2).2).2).2).2).2).1) ((and_e (and_e (and_e (and_e (and_e (and_e (and_e (and_e (and_e (and_e (and_e (and_e (and_e (and_e (and_e (and_e (and_e (and_e (and_e (and_e (and_e (and_e (and_e G.2.2.2.1).2).2).2).2).2).2).2).2).2).2).2).2).2).2).2).2).2).2).2).2).2).2).1) ((and_e (and_e (and_e (and_e (and_e (and_e (and_e (and_e (and_e (and_e (and_e (and_e (and_e (and_e (and_e (and_e (and_e (and_e (and_e (and_e (and_e (and_e (and_e (and_e G.2.2.2.1).2).2).2).2).2).2).2).2).2).2).2).2).2).2).2).2).2).2).2).2).2).2).2).1) (by decide) (by decide)
  rw [fld_at hS] at e1
  obtain ⟨y0, y1, y2, rfl⟩ := len_3 l
  exact ⟨y0, y1, y2, Fld.start e1, S⟩
def w_CREATE (Z : State) : Addr := (((Term.field (Term.static "com/example/hew/hew/MethodKind" "CREATE" "Lcom/example/hew/hew/MethodKind;") "com/example/hew/hew/MethodKind" "prefix" "Ljava/lang/String;").eval #[] Z none [] Z).bind refO).getD 0
theorem pf_CREATE {Z : State} {a0 : Array Value} (G : GH Z a0) : ∃ y0 y1 y2 y3 y4 y5, Fld Z Z.heap (s_CREATE Z) "com/example/hew/hew/MethodKind" "prefix" "Ljava/lang/String;" (.ref (w_CREATE Z)) ∧ Str Z Z.heap (w_CREATE Z) [y0, y1, y2, y3, y4, y5] := by
  have hS := ev_ref ((and_e (and_e (and_e (and_e (and_e (and_e (and_e (and_e (and_e (and_e (and_e G.2.2.2.1).2).2).2).2).2).2).2).2).2).2).1)
  obtain ⟨y, e1⟩ := exa_v ((and_e (and_e (and_e (and_e (and_e (and_e (and_e (and_e (and_e (and_e (and_e (and_e G.2.2.2.1).2).2).2).2).2).2).2).2).2).2).2).1)
  have r : w_CREATE Z = y := by
    unfold w_CREATE
    rw [show (Term.field (Term.static "com/example/hew/hew/MethodKind" "CREATE" "Lcom/example/hew/hew/MethodKind;") "com/example/hew/hew/MethodKind" "prefix" "Ljava/lang/String;").eval #[] Z none [] Z = some (.ref y) from e1]
    rfl
  rw [r]
  obtain ⟨cs, l, S⟩ := str_any G.2.2.2.2 e1 ((and_e (and_e (and_e (and_e (and_e (and_e (and_e (and_e (and_e (and_e (and_e (and_e G.2.2.2.1).2).2).2).2).2).2).2).2).2).2).2).1) ((and_e (and_e (and_e (and_e (and_e (and_e (and_e (and_e (and_e (and_e (and_e (and_e (and_e (and_e (and_e G.2.2.2.1).2).2).2).2).2).2).2).2).2).2).2).2).2).2).1) ((and_e (and_e (and_e (and_e (and_e (and_e (and_e (and_e (and_e (and_e (and_e (and_e (and_e G.2.2.2.1).2).2).2).2).2).2).2).2).2).2).2).2).1) ((and_e (and_e (and_e (and_e (and_e (and_e (and_e (and_e (and_e (and_e (and_e (and_e (and_e (and_e G.2.2.2.1).2).2).2).2).2).2).2).2).2).2).2).2).2).1) (by decide) (by decide)
  rw [fld_at hS] at e1
  obtain ⟨y0, y1, y2, y3, y4, y5, rfl⟩ := len_6 l
  exact ⟨y0, y1, y2, y3, y4, y5, Fld.start e1, S⟩
def w_UPDATE (Z : State) : Addr := (((Term.field (Term.static "com/example/hew/hew/MethodKind" "UPDATE" "Lcom/example/hew/hew/MethodKind;") "com/example/hew/hew/MethodKind" "prefix" "Ljava/lang/String;").eval #[] Z none [] Z).bind refO).getD 0
theorem pf_UPDATE {Z : State} {a0 : Array Value} (G : GH Z a0) : ∃ y0 y1 y2 y3 y4 y5, Fld Z Z.heap (s_UPDATE Z) "com/example/hew/hew/MethodKind" "prefix" "Ljava/lang/String;" (.ref (w_UPDATE Z)) ∧ Str Z Z.heap (w_UPDATE Z) [y0, y1, y2, y3, y4, y5] := by
  have hS := ev_ref ((and_e (and_e (and_e (and_e (and_e (and_e G.2.2.2.1).2).2).2).2).2).1)
  obtain ⟨y, e1⟩ := exa_v ((and_e (and_e (and_e (and_e (and_e (and_e (and_e G.2.2.2.1).2).2).2).2).2).2).1)
  have r : w_UPDATE Z = y := by
    unfold w_UPDATE
    rw [show (Term.field (Term.static "com/example/hew/hew/MethodKind" "UPDATE" "Lcom/example/hew/hew/MethodKind;") "com/example/hew/hew/MethodKind" "prefix" "Ljava/lang/String;").eval #[] Z none [] Z = some (.ref y) from e1]
    rfl
  rw [r]
  obtain ⟨cs, l, S⟩ := str_any G.2.2.2.2 e1 ((and_e (and_e (and_e (and_e (and_e (and_e (and_e G.2.2.2.1).2).2).2).2).2).2).1) ((and_e (and_e (and_e (and_e (and_e (and_e (and_e (and_e (and_e (and_e G.2.2.2.1).2).2).2).2).2).2).2).2).2).1) ((and_e (and_e (and_e (and_e (and_e (and_e (and_e (and_e G.2.2.2.1).2).2).2).2).2).2).2).1) ((and_e (and_e (and_e (and_e (and_e (and_e (and_e (and_e (and_e G.2.2.2.1).2).2).2).2).2).2).2).2).1) (by decide) (by decide)
  rw [fld_at hS] at e1
  obtain ⟨y0, y1, y2, y3, y4, y5, rfl⟩ := len_6 l
  exact ⟨y0, y1, y2, y3, y4, y5, Fld.start e1, S⟩
def w_DELETE (Z : State) : Addr := (((Term.field (Term.static "com/example/hew/hew/MethodKind" "DELETE" "Lcom/example/hew/hew/MethodKind;") "com/example/hew/hew/MethodKind" "prefix" "Ljava/lang/String;").eval #[] Z none [] Z).bind refO).getD 0
theorem pf_DELETE {Z : State} {a0 : Array Value} (G : GH Z a0) : ∃ y0 y1 y2 y3 y4 y5, Fld Z Z.heap (s_DELETE Z) "com/example/hew/hew/MethodKind" "prefix" "Ljava/lang/String;" (.ref (w_DELETE Z)) ∧ Str Z Z.heap (w_DELETE Z) [y0, y1, y2, y3, y4, y5] := by
  have hS := ev_ref ((and_e (and_e (and_e (and_e (and_e (and_e (and_e (and_e (and_e (and_e (and_e (and_e (and_e (and_e (and_e (and_e G.2.2.2.1).2).2).2).2).2).2).2).2).2).2).2).2).2).2).2).1)
  obtain ⟨y, e1⟩ := exa_v ((and_e (and_e (and_e (and_e (and_e (and_e (and_e (and_e (and_e (and_e (and_e (and_e (and_e (and_e (and_e (and_e (and_e G.2.2.2.1).2).2).2).2).2).2).2).2).2).2).2).2).2).2).2).2).1)
  have r : w_DELETE Z = y := by
    unfold w_DELETE
    rw [show (Term.field (Term.static "com/example/hew/hew/MethodKind" "DELETE" "Lcom/example/hew/hew/MethodKind;") "com/example/hew/hew/MethodKind" "prefix" "Ljava/lang/String;").eval #[] Z none [] Z = some (.ref y) from e1]
    rfl
  rw [r]
  obtain ⟨cs, l, S⟩ := str_any G.2.2.2.2 e1 ((and_e (and_e (and_e (and_e (and_e (and_e (and_e (and_e (and_e (and_e (and_e (and_e (and_e (and_e (and_e (and_e (and_e G.2.2.2.1).2).2).2).2).2).2).2).2).2).2).2).2).2).2).2).2).1) ((and_e (and_e (and_e (and_e (and_e (and_e (and_e (and_e (and_e (and_e (and_e (and_e (and_e (and_e (and_e (and_e (and_e (and_e (and_e (and_e G.2.2.2.1).2).2).2).2).2).2).2).2).2).2).2).2).2).2).2).2).2).2).2).1) ((and_e (and_e (and_e (and_e (and_e (and_e (and_e (and_e (and_e (and_e (and_e (and_e (and_e (and_e (and_e (and_e (and_e (and_e G.2.2.2.1).2).2).2).2).2).2).2).2).2).2).2).2).2).2).2).2).2).1) ((and_e (and_e (and_e (and_e (and_e (and_e (and_e (and_e (and_e (and_e (and_e (and_e (and_e (and_e (and_e (and_e (and_e (and_e (and_e G.2.2.2.1).2).2).2).2).2).2).2).2).2).2).2).2).2).2).2).2).2).2).1) (by decide) (by decide)
  rw [fld_at hS] at e1
  obtain ⟨y0, y1, y2, y3, y4, y5, rfl⟩ := len_6 l
  exact ⟨y0, y1, y2, y3, y4, y5, Fld.start e1, S⟩
def w_CUSTOM (Z : State) : Addr := (((Term.field (Term.static "com/example/hew/hew/MethodKind" "CUSTOM" "Lcom/example/hew/hew/MethodKind;") "com/example/hew/hew/MethodKind" "prefix" "Ljava/lang/String;").eval #[] Z none [] Z).bind refO).getD 0
theorem pf_CUSTOM {Z : State} {a0 : Array Value} (G : GH Z a0) : Fld Z Z.heap (s_CUSTOM Z) "com/example/hew/hew/MethodKind" "prefix" "Ljava/lang/String;" (.ref (w_CUSTOM Z)) ∧ Str Z Z.heap (w_CUSTOM Z) [] := by
  have hS := ev_ref ((and_e (and_e (and_e (and_e (and_e (and_e (and_e (and_e (and_e (and_e (and_e (and_e (and_e (and_e (and_e (and_e (and_e (and_e (and_e (and_e (and_e (and_e (and_e (and_e (and_e (and_e G.2.2.2.1).2).2).2).2).2).2).2).2).2).2).2).2).2).2).2).2).2).2).2).2).2).2).2).2).2).1)
  obtain ⟨y, e1⟩ := exa_v ((and_e (and_e (and_e (and_e (and_e (and_e (and_e (and_e (and_e (and_e (and_e (and_e (and_e (and_e (and_e (and_e (and_e (and_e (and_e (and_e (and_e (and_e (and_e (and_e (and_e (and_e (and_e G.2.2.2.1).2).2).2).2).2).2).2).2).2).2).2).2).2).2).2).2).2).2).2).2).2).2).2).2).2).2).1)
  have r : w_CUSTOM Z = y := by
    unfold w_CUSTOM
    rw [show (Term.field (Term.static "com/example/hew/hew/MethodKind" "CUSTOM" "Lcom/example/hew/hew/MethodKind;") "com/example/hew/hew/MethodKind" "prefix" "Ljava/lang/String;").eval #[] Z none [] Z = some (.ref y) from e1]
    rfl
  rw [r]
  obtain ⟨cs, l, S⟩ := str_any G.2.2.2.2 e1 ((and_e (and_e (and_e (and_e (and_e (and_e (and_e (and_e (and_e (and_e (and_e (and_e (and_e (and_e (and_e (and_e (and_e (and_e (and_e (and_e (and_e (and_e (and_e (and_e (and_e (and_e (and_e G.2.2.2.1).2).2).2).2).2).2).2).2).2).2).2).2).2).2).2).2).2).2).2).2).2).2).2).2).2).2).1) ((and_e (and_e (and_e (and_e (and_e (and_e (and_e (and_e (and_e (and_e (and_e (and_e (and_e (and_e (and_e (and_e (and_e (and_e (and_e (and_e (and_e (and_e (and_e (and_e (and_e (and_e (and_e (and_e (and_e G.2.2.2.1).2).2).2).2).2).2).2).2).2).2).2).2).2).2).2).2).2).2).2).2).2).2).2).2).2).2).2).2).2) ((and_e (and_e (and_e (and_e (and_e (and_e (and_e (and_e (and_e (and_e (and_e (and_e (and_e (and_e (and_e (and_e (and_e (and_e (and_e (and_e (and_e (and_e (and_e (and_e (and_e (and_e (and_e (and_e G.2.2.2.1).2).2).2).2).2).2).2).2).2).2).2).2).2).2).2).2).2).2).2).2).2).2).2).2).2).2).2).1) ((and_e (and_e (and_e (and_e (and_e (and_e (and_e (and_e (and_e (and_e (and_e (and_e (and_e (and_e (and_e (and_e (and_e (and_e (and_e (and_e (and_e (and_e (and_e (and_e (and_e (and_e (and_e (and_e (and_e G.2.2.2.1).2).2).2).2).2).2).2).2).2).2).2).2).2).2).2).2).2).2).2).2).2).2).2).2).2).2).2).2).1) (by decide) (by decide)
  rw [fld_at hS] at e1
  obtain rfl := len_0 l
  exact ⟨Fld.start e1, S⟩
set_option maxRecDepth 65536
set_option maxHeartbeats 40000000
theorem d1_0 : decode jdk_42_method_66_code 0 = .ok (.aload_n 0, 1) := by decide +kernel
theorem d1_1 : decode jdk_42_method_66_code 1 = .ok (.aload_n 1, 1) := by decide +kernel
theorem d1_2 : decode jdk_42_method_66_code 2 = .ok (.if_acmp .ne 5, 3) := by decide +kernel
theorem d1_5 : decode jdk_42_method_66_code 5 = .ok (.iconst 1, 1) := by decide +kernel
theorem d1_6 : decode jdk_42_method_66_code 6 = .ok (.ireturn, 1) := by decide +kernel
theorem pn1 : plainName "java/lang/String" = true := by first | (simp [plainName, overriddenIn]; done) | decide +kernel
theorem d2_0 : decode jdk_42_method_149_code 0 = .ok (.aload_n 0, 1) := by decide +kernel
theorem d2_1 : decode jdk_42_method_149_code 1 = .ok (.invokespecial 1, 3) := by decide +kernel
theorem d2_4 : decode jdk_42_method_149_code 4 = .ok (.iload_n 3, 1) := by decide +kernel
theorem d2_5 : decode jdk_42_method_149_code 5 = .ok (.ifCond .ne 22, 3) := by decide +kernel
theorem d2_8 : decode jdk_42_method_149_code 8 = .ok (.aload_n 0, 1) := by decide +kernel
theorem d2_9 : decode jdk_42_method_149_code 9 = .ok (.ldc 7, 2) := by decide +kernel
theorem d2_11 : decode jdk_42_method_149_code 11 = .ok (.getfield 9, 3) := by decide +kernel
theorem d2_14 : decode jdk_42_method_149_code 14 = .ok (.putfield 9, 3) := by decide +kernel
theorem d2_17 : decode jdk_42_method_149_code 17 = .ok (.aload_n 0, 1) := by decide +kernel
theorem d2_18 : decode jdk_42_method_149_code 18 = .ok (.ldc 7, 2) := by decide +kernel
theorem d2_20 : decode jdk_42_method_149_code 20 = .ok (.getfield 15, 3) := by decide +kernel
theorem d2_23 : decode jdk_42_method_149_code 23 = .ok (.putfield 15, 3) := by decide +kernel
theorem d2_26 : decode jdk_42_method_149_code 26 = .ok (.return_, 1) := by decide +kernel
theorem d3_0 : decode jdk_42_method_3_code 0 = .ok (.aload_n 0, 1) := by decide +kernel
theorem d3_1 : decode jdk_42_method_3_code 1 = .ok (.aload_n 1, 1) := by decide +kernel
theorem d3_2 : decode jdk_42_method_3_code 2 = .ok (.iconst 0, 1) := by decide +kernel
theorem d3_3 : decode jdk_42_method_3_code 3 = .ok (.aload_n 1, 1) := by decide +kernel
theorem d3_4 : decode jdk_42_method_3_code 4 = .ok (.arraylength, 1) := by decide +kernel
theorem d3_5 : decode jdk_42_method_3_code 5 = .ok (.aconst_null, 1) := by decide +kernel
theorem pd1 : parseMethodDescriptor "([CIILjava/lang/Void;)V" = some ⟨[(.array .char), .int, .int, (.object "java/lang/Void")], none⟩ := by decide +kernel
theorem d3_6 : decode jdk_42_method_3_code 6 = .ok (.invokespecial 27, 3) := by decide +kernel
theorem d3_9 : decode jdk_42_method_3_code 9 = .ok (.return_, 1) := by decide +kernel
theorem d4_0 : decode jdk_42_method_154_code 0 = .ok (.getstatic 38, 3) := by decide +kernel
theorem d4_3 : decode jdk_42_method_154_code 3 = .ok (.ifCond .eq 14, 3) := by decide +kernel
theorem d4_6 : decode jdk_42_method_154_code 6 = .ok (.aload_n 0, 1) := by decide +kernel
theorem d4_7 : decode jdk_42_method_154_code 7 = .ok (.getfield 15, 3) := by decide +kernel
theorem d4_10 : decode jdk_42_method_154_code 10 = .ok (.ifCond .ne 7, 3) := by decide +kernel
theorem d4_13 : decode jdk_42_method_154_code 13 = .ok (.iconst 1, 1) := by decide +kernel
theorem d4_14 : decode jdk_42_method_154_code 14 = .ok (.goto 4, 3) := by decide +kernel
theorem d4_18 : decode jdk_42_method_154_code 18 = .ok (.ireturn, 1) := by decide +kernel
theorem d5_0 : decode jdk_42_method_151_code 0 = .ok (.aload_n 0, 1) := by decide +kernel
theorem d5_1 : decode jdk_42_method_151_code 1 = .ok (.invokespecial 1, 3) := by decide +kernel
theorem d5_4 : decode jdk_42_method_151_code 4 = .ok (.aload_n 0, 1) := by decide +kernel
theorem d5_5 : decode jdk_42_method_151_code 5 = .ok (.aload_n 1, 1) := by decide +kernel
theorem d5_6 : decode jdk_42_method_151_code 6 = .ok (.putfield 9, 3) := by decide +kernel
theorem d5_9 : decode jdk_42_method_151_code 9 = .ok (.aload_n 0, 1) := by decide +kernel
theorem d5_10 : decode jdk_42_method_151_code 10 = .ok (.iload_n 2, 1) := by decide +kernel
theorem d5_11 : decode jdk_42_method_151_code 11 = .ok (.putfield 15, 3) := by decide +kernel
theorem d5_14 : decode jdk_42_method_151_code 14 = .ok (.return_, 1) := by decide +kernel
theorem d6_0 : decode jdk_41_method_12_code 0 = .ok (.iload_n 0, 1) := by decide +kernel
theorem d6_1 : decode jdk_41_method_12_code 1 = .ok (.ifCond .lt 13, 3) := by decide +kernel
theorem d6_4 : decode jdk_41_method_12_code 4 = .ok (.iload_n 0, 1) := by decide +kernel
theorem d6_5 : decode jdk_41_method_12_code 5 = .ok (.iload_n 1, 1) := by decide +kernel
theorem d6_6 : decode jdk_41_method_12_code 6 = .ok (.if_icmp .gt 8, 3) := by decide +kernel
theorem d6_9 : decode jdk_41_method_12_code 9 = .ok (.iload_n 1, 1) := by decide +kernel
theorem d6_10 : decode jdk_41_method_12_code 10 = .ok (.iload_n 2, 1) := by decide +kernel
theorem d6_11 : decode jdk_41_method_12_code 11 = .ok (.if_icmp .le 11, 3) := by decide +kernel
theorem d6_22 : decode jdk_41_method_12_code 22 = .ok (.iload_n 0, 1) := by decide +kernel
theorem d6_23 : decode jdk_41_method_12_code 23 = .ok (.ireturn, 1) := by decide +kernel
theorem pn2 : plainName "jdk/internal/util/Preconditions" = true := by first | (simp [plainName, overriddenIn]; done) | decide +kernel
theorem d7_0 : decode jdk_42_method_158_code 0 = .ok (.iload_n 0, 1) := by decide +kernel
theorem d7_1 : decode jdk_42_method_158_code 1 = .ok (.iload_n 1, 1) := by decide +kernel
theorem d7_2 : decode jdk_42_method_158_code 2 = .ok (.iload_n 2, 1) := by decide +kernel
theorem d7_3 : decode jdk_42_method_158_code 3 = .ok (.getstatic 1053, 3) := by decide +kernel
theorem pd2 : parseMethodDescriptor "(IIILjava/util/function/BiFunction;)I" = some ⟨[.int, .int, .int, (.object "java/util/function/BiFunction")], some .int⟩ := by decide +kernel
theorem d7_6 : decode jdk_42_method_158_code 6 = .ok (.invokestatic 1062, 3) := by decide +kernel
theorem d7_9 : decode jdk_42_method_158_code 9 = .ok (.pop, 1) := by decide +kernel
theorem d7_10 : decode jdk_42_method_158_code 10 = .ok (.return_, 1) := by decide +kernel
theorem d8_0 : decode jdk_65_method_131_code 0 = .ok (.iload_n 1, 1) := by decide +kernel
theorem d8_1 : decode jdk_65_method_131_code 1 = .ok (.iload_n 0, 1) := by decide +kernel
theorem d8_2 : decode jdk_65_method_131_code 2 = .ok (.if_icmp .ge 35, 3) := by decide +kernel
theorem d8_37 : decode jdk_65_method_131_code 37 = .ok (.return_, 1) := by decide +kernel
theorem pn3 : plainName "java/util/Arrays" = true := by first | (simp [plainName, overriddenIn]; done) | decide +kernel
theorem d9_0 : decode method_3_code 0 = .ok (.iload_n 0, 1) := by decide +kernel
theorem d9_1 : decode method_3_code 1 = .ok (.ifCond .ne 7, 3) := by decide +kernel
theorem d9_4 : decode method_3_code 4 = .ok (.getstatic 42, 3) := by decide +kernel
theorem d9_7 : decode method_3_code 7 = .ok (.areturn, 1) := by decide +kernel
theorem pn4 : plainName "com/example/hew/hew/MethodKindNounPinLaw" = true := by first | (simp [plainName, overriddenIn]; done) | decide +kernel
theorem pd3 : parseMethodDescriptor "(I)Lcom/example/hew/hew/MethodKind;" = some ⟨[.int], some (.object "com/example/hew/hew/MethodKind")⟩ := by decide +kernel
theorem d10_0 : decode method_4_code 0 = .ok (.iload_n 0, 1) := by decide +kernel
theorem d10_1 : decode method_4_code 1 = .ok (.ifCond .ne 6, 3) := by decide +kernel
theorem d10_4 : decode method_4_code 4 = .ok (.ldc 61, 2) := by decide +kernel
theorem d10_6 : decode method_4_code 6 = .ok (.areturn, 1) := by decide +kernel
theorem pd4 : parseMethodDescriptor "(I)Ljava/lang/String;" = some ⟨[.int], some (.object "java/lang/String")⟩ := by decide +kernel
theorem d11_0 : decode method_5_code 0 = .ok (.iload_n 2, 1) := by decide +kernel
theorem d11_1 : decode method_5_code 1 = .ok (.aload_n 0, 1) := by decide +kernel
theorem pd5 : parseMethodDescriptor "()I" = some ⟨[], some .int⟩ := by decide +kernel
theorem d11_2 : decode method_5_code 2 = .ok (.invokevirtual 22, 3) := by decide +kernel
theorem d11_5 : decode method_5_code 5 = .ok (.if_icmp .ge 9, 3) := by decide +kernel
theorem d11_8 : decode method_5_code 8 = .ok (.aload_n 0, 1) := by decide +kernel
theorem d11_9 : decode method_5_code 9 = .ok (.iload_n 2, 1) := by decide +kernel
theorem pd6 : parseMethodDescriptor "(I)C" = some ⟨[.int], some .char⟩ := by decide +kernel
theorem d11_10 : decode method_5_code 10 = .ok (.invokevirtual 73, 3) := by decide +kernel
theorem d11_13 : decode method_5_code 13 = .ok (.ireturn, 1) := by decide +kernel
theorem pd7 : parseMethodDescriptor "(Ljava/lang/String;[CI)C" = some ⟨[(.object "java/lang/String"), (.array .char), .int], some .char⟩ := by decide +kernel
theorem d11_14 : decode method_5_code 14 = .ok (.iload_n 2, 1) := by decide +kernel
theorem d11_15 : decode method_5_code 15 = .ok (.aload_n 0, 1) := by decide +kernel
theorem d11_16 : decode method_5_code 16 = .ok (.invokevirtual 22, 3) := by decide +kernel
theorem d11_19 : decode method_5_code 19 = .ok (.isub, 1) := by decide +kernel
theorem d11_20 : decode method_5_code 20 = .ok (.istore_n 3, 1) := by decide +kernel
theorem d11_21 : decode method_5_code 21 = .ok (.iload_n 3, 1) := by decide +kernel
theorem d11_22 : decode method_5_code 22 = .ok (.aload_n 1, 1) := by decide +kernel
theorem d11_23 : decode method_5_code 23 = .ok (.arraylength, 1) := by decide +kernel
theorem d11_24 : decode method_5_code 24 = .ok (.if_icmp .ge 7, 3) := by decide +kernel
theorem d11_27 : decode method_5_code 27 = .ok (.aload_n 1, 1) := by decide +kernel
theorem d11_28 : decode method_5_code 28 = .ok (.iload_n 3, 1) := by decide +kernel
theorem d11_29 : decode method_5_code 29 = .ok (.caload, 1) := by decide +kernel
theorem d11_30 : decode method_5_code 30 = .ok (.ireturn, 1) := by decide +kernel
theorem d11_31 : decode method_5_code 31 = .ok (.bipush 120, 2) := by decide +kernel
theorem d11_33 : decode method_5_code 33 = .ok (.ireturn, 1) := by decide +kernel
theorem d12_0 : decode method_6_code 0 = .ok (.iload_n 1, 1) := by decide +kernel
theorem d12_1 : decode method_6_code 1 = .ok (.ifCond .gt 14, 3) := by decide +kernel
theorem d12_15 : decode method_6_code 15 = .ok (.iload_n 1, 1) := by decide +kernel
theorem d12_16 : decode method_6_code 16 = .ok (.iconst 1, 1) := by decide +kernel
theorem d12_17 : decode method_6_code 17 = .ok (.if_icmp .ne 20, 3) := by decide +kernel
theorem d12_37 : decode method_6_code 37 = .ok (.iload_n 1, 1) := by decide +kernel
theorem d12_38 : decode method_6_code 38 = .ok (.iconst 2, 1) := by decide +kernel
theorem d12_39 : decode method_6_code 39 = .ok (.if_icmp .ne 26, 3) := by decide +kernel
theorem d12_65 : decode method_6_code 65 = .ok (.iload_n 1, 1) := by decide +kernel
theorem d12_66 : decode method_6_code 66 = .ok (.iconst 3, 1) := by decide +kernel
theorem d12_67 : decode method_6_code 67 = .ok (.if_icmp .ne 32, 3) := by decide +kernel
theorem d12_99 : decode method_6_code 99 = .ok (.iload_n 1, 1) := by decide +kernel
theorem d12_100 : decode method_6_code 100 = .ok (.iconst 4, 1) := by decide +kernel
theorem d12_101 : decode method_6_code 101 = .ok (.if_icmp .ne 38, 3) := by decide +kernel
theorem d12_104 : decode method_6_code 104 = .ok (.new 23, 3) := by decide +kernel
theorem d12_107 : decode method_6_code 107 = .ok (.dup, 1) := by decide +kernel
theorem d12_108 : decode method_6_code 108 = .ok (.iconst 4, 1) := by decide +kernel
theorem d12_109 : decode method_6_code 109 = .ok (.newarray .char, 2) := by decide +kernel
theorem d12_111 : decode method_6_code 111 = .ok (.dup, 1) := by decide +kernel
theorem d12_112 : decode method_6_code 112 = .ok (.iconst 0, 1) := by decide +kernel
theorem d12_113 : decode method_6_code 113 = .ok (.aload_n 0, 1) := by decide +kernel
theorem d12_114 : decode method_6_code 114 = .ok (.iconst 0, 1) := by decide +kernel
theorem d12_115 : decode method_6_code 115 = .ok (.caload, 1) := by decide +kernel
theorem d12_116 : decode method_6_code 116 = .ok (.castore, 1) := by decide +kernel
theorem d12_117 : decode method_6_code 117 = .ok (.dup, 1) := by decide +kernel
theorem d12_118 : decode method_6_code 118 = .ok (.iconst 1, 1) := by decide +kernel
theorem d12_119 : decode method_6_code 119 = .ok (.aload_n 0, 1) := by decide +kernel
theorem d12_120 : decode method_6_code 120 = .ok (.iconst 1, 1) := by decide +kernel
theorem d12_121 : decode method_6_code 121 = .ok (.caload, 1) := by decide +kernel
theorem d12_122 : decode method_6_code 122 = .ok (.castore, 1) := by decide +kernel
theorem d12_123 : decode method_6_code 123 = .ok (.dup, 1) := by decide +kernel
theorem d12_124 : decode method_6_code 124 = .ok (.iconst 2, 1) := by decide +kernel
theorem d12_125 : decode method_6_code 125 = .ok (.aload_n 0, 1) := by decide +kernel
theorem d12_126 : decode method_6_code 126 = .ok (.iconst 2, 1) := by decide +kernel
theorem d12_127 : decode method_6_code 127 = .ok (.caload, 1) := by decide +kernel
theorem d12_128 : decode method_6_code 128 = .ok (.castore, 1) := by decide +kernel
theorem d12_129 : decode method_6_code 129 = .ok (.dup, 1) := by decide +kernel
theorem d12_130 : decode method_6_code 130 = .ok (.iconst 3, 1) := by decide +kernel
theorem d12_131 : decode method_6_code 131 = .ok (.aload_n 0, 1) := by decide +kernel
theorem d12_132 : decode method_6_code 132 = .ok (.iconst 3, 1) := by decide +kernel
theorem d12_133 : decode method_6_code 133 = .ok (.caload, 1) := by decide +kernel
theorem d12_134 : decode method_6_code 134 = .ok (.castore, 1) := by decide +kernel
theorem pd8 : parseMethodDescriptor "([C)V" = some ⟨[(.array .char)], none⟩ := by decide +kernel
theorem d12_135 : decode method_6_code 135 = .ok (.invokespecial 77, 3) := by decide +kernel
theorem d12_138 : decode method_6_code 138 = .ok (.areturn, 1) := by decide +kernel
theorem pd9 : parseMethodDescriptor "([CI)Ljava/lang/String;" = some ⟨[(.array .char), .int], some (.object "java/lang/String")⟩ := by decide +kernel
theorem d12_4 : decode method_6_code 4 = .ok (.new 23, 3) := by decide +kernel
theorem d12_7 : decode method_6_code 7 = .ok (.dup, 1) := by decide +kernel
theorem d12_8 : decode method_6_code 8 = .ok (.iconst 0, 1) := by decide +kernel
theorem d12_9 : decode method_6_code 9 = .ok (.newarray .char, 2) := by decide +kernel
theorem d12_11 : decode method_6_code 11 = .ok (.invokespecial 77, 3) := by decide +kernel
theorem d12_14 : decode method_6_code 14 = .ok (.areturn, 1) := by decide +kernel
theorem d13_0 : decode prog_32_method_8_code 0 = .ok (.aload_n 1, 1) := by decide +kernel
theorem d13_1 : decode prog_32_method_8_code 1 = .ok (.aload_n 0, 1) := by decide +kernel
theorem d13_2 : decode prog_32_method_8_code 2 = .ok (.getfield 41, 3) := by decide +kernel
theorem d13_5 : decode prog_32_method_8_code 5 = .ok (.invokevirtual 91, 3) := by decide +kernel
theorem d14_0 : decode jdk_42_method_91_code 0 = .ok (.aload_n 0, 1) := by decide +kernel
theorem d14_1 : decode jdk_42_method_91_code 1 = .ok (.iload_n 1, 1) := by decide +kernel
theorem d14_2 : decode jdk_42_method_91_code 2 = .ok (.aload_n 0, 1) := by decide +kernel
theorem d14_3 : decode jdk_42_method_91_code 3 = .ok (.invokevirtual 505, 3) := by decide +kernel
theorem d15_0 : decode jdk_42_method_92_code 0 = .ok (.aload_n 0, 1) := by decide +kernel
theorem d15_1 : decode jdk_42_method_92_code 1 = .ok (.invokevirtual 505, 3) := by decide +kernel
theorem d15_4 : decode jdk_42_method_92_code 4 = .ok (.istore_n 3, 1) := by decide +kernel
theorem d15_5 : decode jdk_42_method_92_code 5 = .ok (.iload_n 1, 1) := by decide +kernel
theorem d15_6 : decode jdk_42_method_92_code 6 = .ok (.iload_n 2, 1) := by decide +kernel
theorem d15_7 : decode jdk_42_method_92_code 7 = .ok (.iload_n 3, 1) := by decide +kernel
theorem pd10 : parseMethodDescriptor "(III)V" = some ⟨[.int, .int, .int], none⟩ := by decide +kernel
theorem d15_8 : decode jdk_42_method_92_code 8 = .ok (.invokestatic 521, 3) := by decide +kernel
theorem d15_11 : decode jdk_42_method_92_code 11 = .ok (.iload_n 1, 1) := by decide +kernel
theorem d15_12 : decode jdk_42_method_92_code 12 = .ok (.ifCond .ne 10, 3) := by decide +kernel
theorem d15_22 : decode jdk_42_method_92_code 22 = .ok (.iload_n 2, 1) := by decide +kernel
theorem d15_23 : decode jdk_42_method_92_code 23 = .ok (.iload_n 1, 1) := by decide +kernel
theorem d15_24 : decode jdk_42_method_92_code 24 = .ok (.isub, 1) := by decide +kernel
theorem d15_25 : decode jdk_42_method_92_code 25 = .ok (.istore 4, 2) := by decide +kernel
theorem d15_27 : decode jdk_42_method_92_code 27 = .ok (.aload_n 0, 1) := by decide +kernel
theorem pd11 : parseMethodDescriptor "()Z" = some ⟨[], some .boolean⟩ := by decide +kernel
theorem d15_28 : decode jdk_42_method_92_code 28 = .ok (.invokevirtual 492, 3) := by decide +kernel
theorem d15_31 : decode jdk_42_method_92_code 31 = .ok (.ifCond .eq 16, 3) := by decide +kernel
theorem d15_34 : decode jdk_42_method_92_code 34 = .ok (.aload_n 0, 1) := by decide +kernel
theorem d15_35 : decode jdk_42_method_92_code 35 = .ok (.getfield 9, 3) := by decide +kernel
theorem d15_38 : decode jdk_42_method_92_code 38 = .ok (.iload_n 1, 1) := by decide +kernel
theorem d15_39 : decode jdk_42_method_92_code 39 = .ok (.iload 4, 2) := by decide +kernel
theorem d16_0 : decode jdk_43_method_47_code 0 = .ok (.iload_n 2, 1) := by decide +kernel
theorem d16_1 : decode jdk_43_method_47_code 1 = .ok (.ifCond .ne 6, 3) := by decide +kernel
theorem d16_4 : decode jdk_43_method_47_code 4 = .ok (.ldc 151, 2) := by decide +kernel
theorem d16_6 : decode jdk_43_method_47_code 6 = .ok (.areturn, 1) := by decide +kernel
theorem pn5 : plainName "java/lang/StringLatin1" = true := by first | (simp [plainName, overriddenIn]; done) | decide +kernel
theorem pd12 : parseMethodDescriptor "([BII)Ljava/lang/String;" = some ⟨[(.array .byte), .int, .int], some (.object "java/lang/String")⟩ := by decide +kernel
theorem d15_41 : decode jdk_42_method_92_code 41 = .ok (.invokestatic 685, 3) := by decide +kernel
theorem d15_44 : decode jdk_42_method_92_code 44 = .ok (.goto 13, 3) := by decide +kernel
theorem d15_57 : decode jdk_42_method_92_code 57 = .ok (.areturn, 1) := by decide +kernel
theorem pd13 : parseMethodDescriptor "(II)Ljava/lang/String;" = some ⟨[.int, .int], some (.object "java/lang/String")⟩ := by decide +kernel
theorem d14_6 : decode jdk_42_method_91_code 6 = .ok (.invokevirtual 681, 3) := by decide +kernel
theorem d14_9 : decode jdk_42_method_91_code 9 = .ok (.areturn, 1) := by decide +kernel
theorem d13_8 : decode prog_32_method_8_code 8 = .ok (.invokevirtual 102, 3) := by decide +kernel
theorem d13_11 : decode prog_32_method_8_code 11 = .ok (.areturn, 1) := by decide +kernel
theorem pn6 : plainName "com/example/hew/hew/MethodKind" = true := by first | (simp [plainName, overriddenIn]; done) | decide +kernel
theorem pd14 : parseMethodDescriptor "(Ljava/lang/String;)Ljava/lang/String;" = some ⟨[(.object "java/lang/String")], some (.object "java/lang/String")⟩ := by decide +kernel
theorem pd15 : parseMethodDescriptor "(Ljava/lang/Object;)Z" = some ⟨[(.object "java/lang/Object")], some .boolean⟩ := by decide +kernel
theorem d12_139 : decode method_6_code 139 = .ok (.iload_n 1, 1) := by decide +kernel
theorem d12_140 : decode method_6_code 140 = .ok (.iconst 5, 1) := by decide +kernel
theorem d12_141 : decode method_6_code 141 = .ok (.if_icmp .ne 44, 3) := by decide +kernel
theorem d12_144 : decode method_6_code 144 = .ok (.new 23, 3) := by decide +kernel
theorem d12_147 : decode method_6_code 147 = .ok (.dup, 1) := by decide +kernel
theorem d12_148 : decode method_6_code 148 = .ok (.iconst 5, 1) := by decide +kernel
theorem d12_149 : decode method_6_code 149 = .ok (.newarray .char, 2) := by decide +kernel
theorem d12_151 : decode method_6_code 151 = .ok (.dup, 1) := by decide +kernel
theorem d12_152 : decode method_6_code 152 = .ok (.iconst 0, 1) := by decide +kernel
theorem d12_153 : decode method_6_code 153 = .ok (.aload_n 0, 1) := by decide +kernel
theorem d12_154 : decode method_6_code 154 = .ok (.iconst 0, 1) := by decide +kernel
theorem d12_155 : decode method_6_code 155 = .ok (.caload, 1) := by decide +kernel
theorem d12_156 : decode method_6_code 156 = .ok (.castore, 1) := by decide +kernel
theorem d12_157 : decode method_6_code 157 = .ok (.dup, 1) := by decide +kernel
theorem d12_158 : decode method_6_code 158 = .ok (.iconst 1, 1) := by decide +kernel
theorem d12_159 : decode method_6_code 159 = .ok (.aload_n 0, 1) := by decide +kernel
theorem d12_160 : decode method_6_code 160 = .ok (.iconst 1, 1) := by decide +kernel
theorem d12_161 : decode method_6_code 161 = .ok (.caload, 1) := by decide +kernel
theorem d12_162 : decode method_6_code 162 = .ok (.castore, 1) := by decide +kernel
theorem d12_163 : decode method_6_code 163 = .ok (.dup, 1) := by decide +kernel
theorem d12_164 : decode method_6_code 164 = .ok (.iconst 2, 1) := by decide +kernel
theorem d12_165 : decode method_6_code 165 = .ok (.aload_n 0, 1) := by decide +kernel
theorem d12_166 : decode method_6_code 166 = .ok (.iconst 2, 1) := by decide +kernel
theorem d12_167 : decode method_6_code 167 = .ok (.caload, 1) := by decide +kernel
theorem d12_168 : decode method_6_code 168 = .ok (.castore, 1) := by decide +kernel
theorem d12_169 : decode method_6_code 169 = .ok (.dup, 1) := by decide +kernel
theorem d12_170 : decode method_6_code 170 = .ok (.iconst 3, 1) := by decide +kernel
theorem d12_171 : decode method_6_code 171 = .ok (.aload_n 0, 1) := by decide +kernel
theorem d12_172 : decode method_6_code 172 = .ok (.iconst 3, 1) := by decide +kernel
theorem d12_173 : decode method_6_code 173 = .ok (.caload, 1) := by decide +kernel
theorem d12_174 : decode method_6_code 174 = .ok (.castore, 1) := by decide +kernel
theorem d12_175 : decode method_6_code 175 = .ok (.dup, 1) := by decide +kernel
theorem d12_176 : decode method_6_code 176 = .ok (.iconst 4, 1) := by decide +kernel
theorem d12_177 : decode method_6_code 177 = .ok (.aload_n 0, 1) := by decide +kernel
theorem d12_178 : decode method_6_code 178 = .ok (.iconst 4, 1) := by decide +kernel
theorem d12_179 : decode method_6_code 179 = .ok (.caload, 1) := by decide +kernel
theorem d12_180 : decode method_6_code 180 = .ok (.castore, 1) := by decide +kernel
theorem d12_181 : decode method_6_code 181 = .ok (.invokespecial 77, 3) := by decide +kernel
theorem d12_184 : decode method_6_code 184 = .ok (.areturn, 1) := by decide +kernel
theorem d12_20 : decode method_6_code 20 = .ok (.new 23, 3) := by decide +kernel
theorem d12_23 : decode method_6_code 23 = .ok (.dup, 1) := by decide +kernel
theorem d12_24 : decode method_6_code 24 = .ok (.iconst 1, 1) := by decide +kernel
theorem d12_25 : decode method_6_code 25 = .ok (.newarray .char, 2) := by decide +kernel
theorem d12_27 : decode method_6_code 27 = .ok (.dup, 1) := by decide +kernel
theorem d12_28 : decode method_6_code 28 = .ok (.iconst 0, 1) := by decide +kernel
theorem d12_29 : decode method_6_code 29 = .ok (.aload_n 0, 1) := by decide +kernel
theorem d12_30 : decode method_6_code 30 = .ok (.iconst 0, 1) := by decide +kernel
theorem d12_31 : decode method_6_code 31 = .ok (.caload, 1) := by decide +kernel
theorem d12_32 : decode method_6_code 32 = .ok (.castore, 1) := by decide +kernel
theorem d12_33 : decode method_6_code 33 = .ok (.invokespecial 77, 3) := by decide +kernel
theorem d12_36 : decode method_6_code 36 = .ok (.areturn, 1) := by decide +kernel
theorem d16_7 : decode jdk_43_method_47_code 7 = .ok (.new 1, 3) := by decide +kernel
theorem d16_10 : decode jdk_43_method_47_code 10 = .ok (.dup, 1) := by decide +kernel
theorem d16_11 : decode jdk_43_method_47_code 11 = .ok (.aload_n 0, 1) := by decide +kernel
theorem d16_12 : decode jdk_43_method_47_code 12 = .ok (.iload_n 1, 1) := by decide +kernel
theorem d16_13 : decode jdk_43_method_47_code 13 = .ok (.iload_n 1, 1) := by decide +kernel
theorem d16_14 : decode jdk_43_method_47_code 14 = .ok (.iload_n 2, 1) := by decide +kernel
theorem d16_15 : decode jdk_43_method_47_code 15 = .ok (.iadd, 1) := by decide +kernel
theorem d17_0 : decode jdk_65_method_132_code 0 = .ok (.iload_n 1, 1) := by decide +kernel
theorem d17_1 : decode jdk_65_method_132_code 1 = .ok (.ifCond .ne 9, 3) := by decide +kernel
theorem d17_10 : decode jdk_65_method_132_code 10 = .ok (.aload_n 0, 1) := by decide +kernel
theorem d17_11 : decode jdk_65_method_132_code 11 = .ok (.iload_n 1, 1) := by decide +kernel
theorem d17_12 : decode jdk_65_method_132_code 12 = .ok (.iload_n 2, 1) := by decide +kernel
theorem d18_0 : decode jdk_65_method_133_code 0 = .ok (.iload_n 1, 1) := by decide +kernel
theorem d18_1 : decode jdk_65_method_133_code 1 = .ok (.iload_n 2, 1) := by decide +kernel
theorem pd16 : parseMethodDescriptor "(II)V" = some ⟨[.int, .int], none⟩ := by decide +kernel
theorem d18_2 : decode jdk_65_method_133_code 2 = .ok (.invokestatic 343, 3) := by decide +kernel
theorem d18_5 : decode jdk_65_method_133_code 5 = .ok (.iload_n 2, 1) := by decide +kernel
theorem d18_6 : decode jdk_65_method_133_code 6 = .ok (.iload_n 1, 1) := by decide +kernel
theorem d18_7 : decode jdk_65_method_133_code 7 = .ok (.isub, 1) := by decide +kernel
theorem d18_8 : decode jdk_65_method_133_code 8 = .ok (.istore_n 3, 1) := by decide +kernel
theorem d18_9 : decode jdk_65_method_133_code 9 = .ok (.iload_n 3, 1) := by decide +kernel
theorem d18_10 : decode jdk_65_method_133_code 10 = .ok (.newarray .byte, 2) := by decide +kernel
theorem d18_12 : decode jdk_65_method_133_code 12 = .ok (.astore 4, 2) := by decide +kernel
theorem d18_14 : decode jdk_65_method_133_code 14 = .ok (.aload_n 0, 1) := by decide +kernel
theorem d18_15 : decode jdk_65_method_133_code 15 = .ok (.iload_n 1, 1) := by decide +kernel
theorem d18_16 : decode jdk_65_method_133_code 16 = .ok (.aload 4, 2) := by decide +kernel
theorem d18_18 : decode jdk_65_method_133_code 18 = .ok (.iconst 0, 1) := by decide +kernel
theorem d18_19 : decode jdk_65_method_133_code 19 = .ok (.aload_n 0, 1) := by decide +kernel
theorem d18_20 : decode jdk_65_method_133_code 20 = .ok (.arraylength, 1) := by decide +kernel
theorem d18_21 : decode jdk_65_method_133_code 21 = .ok (.iload_n 1, 1) := by decide +kernel
theorem d18_22 : decode jdk_65_method_133_code 22 = .ok (.isub, 1) := by decide +kernel
theorem d18_23 : decode jdk_65_method_133_code 23 = .ok (.iload_n 3, 1) := by decide +kernel
theorem d19_0 : decode jdk_29_method_69_code 0 = .ok (.iload_n 0, 1) := by decide +kernel
theorem d19_1 : decode jdk_29_method_69_code 1 = .ok (.iload_n 1, 1) := by decide +kernel
theorem d19_2 : decode jdk_29_method_69_code 2 = .ok (.if_icmp .gt 7, 3) := by decide +kernel
theorem d19_5 : decode jdk_29_method_69_code 5 = .ok (.iload_n 0, 1) := by decide +kernel
theorem d19_6 : decode jdk_29_method_69_code 6 = .ok (.goto 4, 3) := by decide +kernel
theorem d19_10 : decode jdk_29_method_69_code 10 = .ok (.ireturn, 1) := by decide +kernel
theorem pd17 : parseMethodDescriptor "(II)I" = some ⟨[.int, .int], some .int⟩ := by decide +kernel
theorem d18_24 : decode jdk_65_method_133_code 24 = .ok (.invokestatic 304, 3) := by decide +kernel
theorem d18_27 : decode jdk_65_method_133_code 27 = .ok (.invokestatic 150, 3) := by decide +kernel
theorem d18_30 : decode jdk_65_method_133_code 30 = .ok (.aload 4, 2) := by decide +kernel
theorem d18_32 : decode jdk_65_method_133_code 32 = .ok (.areturn, 1) := by decide +kernel
theorem pd18 : parseMethodDescriptor "([BII)[B" = some ⟨[(.array .byte), .int, .int], some (.array .byte)⟩ := by decide +kernel
theorem d17_13 : decode jdk_65_method_132_code 13 = .ok (.invokestatic 339, 3) := by decide +kernel
theorem d17_16 : decode jdk_65_method_132_code 16 = .ok (.areturn, 1) := by decide +kernel
theorem d16_16 : decode jdk_43_method_47_code 16 = .ok (.invokestatic 232, 3) := by decide +kernel
theorem d16_19 : decode jdk_43_method_47_code 19 = .ok (.iconst 0, 1) := by decide +kernel
theorem pd19 : parseMethodDescriptor "([BB)V" = some ⟨[(.array .byte), .byte], none⟩ := by decide +kernel
theorem d16_20 : decode jdk_43_method_47_code 20 = .ok (.invokespecial 112, 3) := by decide +kernel
theorem d16_23 : decode jdk_43_method_47_code 23 = .ok (.areturn, 1) := by decide +kernel
theorem d12_185 : decode method_6_code 185 = .ok (.iload_n 1, 1) := by decide +kernel
theorem d12_186 : decode method_6_code 186 = .ok (.bipush 6, 2) := by decide +kernel
theorem d12_188 : decode method_6_code 188 = .ok (.if_icmp .ne 51, 3) := by decide +kernel
theorem d12_191 : decode method_6_code 191 = .ok (.new 23, 3) := by decide +kernel
theorem d12_194 : decode method_6_code 194 = .ok (.dup, 1) := by decide +kernel
theorem d12_195 : decode method_6_code 195 = .ok (.bipush 6, 2) := by decide +kernel
theorem d12_197 : decode method_6_code 197 = .ok (.newarray .char, 2) := by decide +kernel
theorem d12_199 : decode method_6_code 199 = .ok (.dup, 1) := by decide +kernel
theorem d12_200 : decode method_6_code 200 = .ok (.iconst 0, 1) := by decide +kernel
theorem d12_201 : decode method_6_code 201 = .ok (.aload_n 0, 1) := by decide +kernel
theorem d12_202 : decode method_6_code 202 = .ok (.iconst 0, 1) := by decide +kernel
theorem d12_203 : decode method_6_code 203 = .ok (.caload, 1) := by decide +kernel
theorem d12_204 : decode method_6_code 204 = .ok (.castore, 1) := by decide +kernel
theorem d12_205 : decode method_6_code 205 = .ok (.dup, 1) := by decide +kernel
theorem d12_206 : decode method_6_code 206 = .ok (.iconst 1, 1) := by decide +kernel
theorem d12_207 : decode method_6_code 207 = .ok (.aload_n 0, 1) := by decide +kernel
theorem d12_208 : decode method_6_code 208 = .ok (.iconst 1, 1) := by decide +kernel
theorem d12_209 : decode method_6_code 209 = .ok (.caload, 1) := by decide +kernel
theorem d12_210 : decode method_6_code 210 = .ok (.castore, 1) := by decide +kernel
theorem d12_211 : decode method_6_code 211 = .ok (.dup, 1) := by decide +kernel
theorem d12_212 : decode method_6_code 212 = .ok (.iconst 2, 1) := by decide +kernel
theorem d12_213 : decode method_6_code 213 = .ok (.aload_n 0, 1) := by decide +kernel
theorem d12_214 : decode method_6_code 214 = .ok (.iconst 2, 1) := by decide +kernel
theorem d12_215 : decode method_6_code 215 = .ok (.caload, 1) := by decide +kernel
theorem d12_216 : decode method_6_code 216 = .ok (.castore, 1) := by decide +kernel
theorem d12_217 : decode method_6_code 217 = .ok (.dup, 1) := by decide +kernel
theorem d12_218 : decode method_6_code 218 = .ok (.iconst 3, 1) := by decide +kernel
theorem d12_219 : decode method_6_code 219 = .ok (.aload_n 0, 1) := by decide +kernel
theorem d12_220 : decode method_6_code 220 = .ok (.iconst 3, 1) := by decide +kernel
theorem d12_221 : decode method_6_code 221 = .ok (.caload, 1) := by decide +kernel
theorem d12_222 : decode method_6_code 222 = .ok (.castore, 1) := by decide +kernel
theorem d12_223 : decode method_6_code 223 = .ok (.dup, 1) := by decide +kernel
theorem d12_224 : decode method_6_code 224 = .ok (.iconst 4, 1) := by decide +kernel
theorem d12_225 : decode method_6_code 225 = .ok (.aload_n 0, 1) := by decide +kernel
theorem d12_226 : decode method_6_code 226 = .ok (.iconst 4, 1) := by decide +kernel
theorem d12_227 : decode method_6_code 227 = .ok (.caload, 1) := by decide +kernel
theorem d12_228 : decode method_6_code 228 = .ok (.castore, 1) := by decide +kernel
theorem d12_229 : decode method_6_code 229 = .ok (.dup, 1) := by decide +kernel
theorem d12_230 : decode method_6_code 230 = .ok (.iconst 5, 1) := by decide +kernel
theorem d12_231 : decode method_6_code 231 = .ok (.aload_n 0, 1) := by decide +kernel
theorem d12_232 : decode method_6_code 232 = .ok (.iconst 5, 1) := by decide +kernel
theorem d12_233 : decode method_6_code 233 = .ok (.caload, 1) := by decide +kernel
theorem d12_234 : decode method_6_code 234 = .ok (.castore, 1) := by decide +kernel
theorem d12_235 : decode method_6_code 235 = .ok (.invokespecial 77, 3) := by decide +kernel
theorem d12_238 : decode method_6_code 238 = .ok (.areturn, 1) := by decide +kernel
theorem d12_42 : decode method_6_code 42 = .ok (.new 23, 3) := by decide +kernel
theorem d12_45 : decode method_6_code 45 = .ok (.dup, 1) := by decide +kernel
theorem d12_46 : decode method_6_code 46 = .ok (.iconst 2, 1) := by decide +kernel
theorem d12_47 : decode method_6_code 47 = .ok (.newarray .char, 2) := by decide +kernel
theorem d12_49 : decode method_6_code 49 = .ok (.dup, 1) := by decide +kernel
theorem d12_50 : decode method_6_code 50 = .ok (.iconst 0, 1) := by decide +kernel
theorem d12_51 : decode method_6_code 51 = .ok (.aload_n 0, 1) := by decide +kernel
theorem d12_52 : decode method_6_code 52 = .ok (.iconst 0, 1) := by decide +kernel
theorem d12_53 : decode method_6_code 53 = .ok (.caload, 1) := by decide +kernel
theorem d12_54 : decode method_6_code 54 = .ok (.castore, 1) := by decide +kernel
theorem d12_55 : decode method_6_code 55 = .ok (.dup, 1) := by decide +kernel
theorem d12_56 : decode method_6_code 56 = .ok (.iconst 1, 1) := by decide +kernel
theorem d12_57 : decode method_6_code 57 = .ok (.aload_n 0, 1) := by decide +kernel
theorem d12_58 : decode method_6_code 58 = .ok (.iconst 1, 1) := by decide +kernel
theorem d12_59 : decode method_6_code 59 = .ok (.caload, 1) := by decide +kernel
theorem d12_60 : decode method_6_code 60 = .ok (.castore, 1) := by decide +kernel
theorem d12_61 : decode method_6_code 61 = .ok (.invokespecial 77, 3) := by decide +kernel
theorem d12_64 : decode method_6_code 64 = .ok (.areturn, 1) := by decide +kernel
theorem d12_239 : decode method_6_code 239 = .ok (.iload_n 1, 1) := by decide +kernel
theorem d12_240 : decode method_6_code 240 = .ok (.bipush 7, 2) := by decide +kernel
theorem d12_242 : decode method_6_code 242 = .ok (.if_icmp .ne 59, 3) := by decide +kernel
theorem d12_245 : decode method_6_code 245 = .ok (.new 23, 3) := by decide +kernel
theorem d12_248 : decode method_6_code 248 = .ok (.dup, 1) := by decide +kernel
theorem d12_249 : decode method_6_code 249 = .ok (.bipush 7, 2) := by decide +kernel
theorem d12_251 : decode method_6_code 251 = .ok (.newarray .char, 2) := by decide +kernel
theorem d12_253 : decode method_6_code 253 = .ok (.dup, 1) := by decide +kernel
theorem d12_254 : decode method_6_code 254 = .ok (.iconst 0, 1) := by decide +kernel
theorem d12_255 : decode method_6_code 255 = .ok (.aload_n 0, 1) := by decide +kernel
theorem d12_256 : decode method_6_code 256 = .ok (.iconst 0, 1) := by decide +kernel
theorem d12_257 : decode method_6_code 257 = .ok (.caload, 1) := by decide +kernel
theorem d12_258 : decode method_6_code 258 = .ok (.castore, 1) := by decide +kernel
theorem d12_259 : decode method_6_code 259 = .ok (.dup, 1) := by decide +kernel
theorem d12_260 : decode method_6_code 260 = .ok (.iconst 1, 1) := by decide +kernel
theorem d12_261 : decode method_6_code 261 = .ok (.aload_n 0, 1) := by decide +kernel
theorem d12_262 : decode method_6_code 262 = .ok (.iconst 1, 1) := by decide +kernel
theorem d12_263 : decode method_6_code 263 = .ok (.caload, 1) := by decide +kernel
theorem d12_264 : decode method_6_code 264 = .ok (.castore, 1) := by decide +kernel
theorem d12_265 : decode method_6_code 265 = .ok (.dup, 1) := by decide +kernel
theorem d12_266 : decode method_6_code 266 = .ok (.iconst 2, 1) := by decide +kernel
theorem d12_267 : decode method_6_code 267 = .ok (.aload_n 0, 1) := by decide +kernel
theorem d12_268 : decode method_6_code 268 = .ok (.iconst 2, 1) := by decide +kernel
theorem d12_269 : decode method_6_code 269 = .ok (.caload, 1) := by decide +kernel
theorem d12_270 : decode method_6_code 270 = .ok (.castore, 1) := by decide +kernel
theorem d12_271 : decode method_6_code 271 = .ok (.dup, 1) := by decide +kernel
theorem d12_272 : decode method_6_code 272 = .ok (.iconst 3, 1) := by decide +kernel
theorem d12_273 : decode method_6_code 273 = .ok (.aload_n 0, 1) := by decide +kernel
theorem d12_274 : decode method_6_code 274 = .ok (.iconst 3, 1) := by decide +kernel
theorem d12_275 : decode method_6_code 275 = .ok (.caload, 1) := by decide +kernel
theorem d12_276 : decode method_6_code 276 = .ok (.castore, 1) := by decide +kernel
theorem d12_277 : decode method_6_code 277 = .ok (.dup, 1) := by decide +kernel
theorem d12_278 : decode method_6_code 278 = .ok (.iconst 4, 1) := by decide +kernel
theorem d12_279 : decode method_6_code 279 = .ok (.aload_n 0, 1) := by decide +kernel
theorem d12_280 : decode method_6_code 280 = .ok (.iconst 4, 1) := by decide +kernel
theorem d12_281 : decode method_6_code 281 = .ok (.caload, 1) := by decide +kernel
theorem d12_282 : decode method_6_code 282 = .ok (.castore, 1) := by decide +kernel
theorem d12_283 : decode method_6_code 283 = .ok (.dup, 1) := by decide +kernel
theorem d12_284 : decode method_6_code 284 = .ok (.iconst 5, 1) := by decide +kernel
theorem d12_285 : decode method_6_code 285 = .ok (.aload_n 0, 1) := by decide +kernel
theorem d12_286 : decode method_6_code 286 = .ok (.iconst 5, 1) := by decide +kernel
theorem d12_287 : decode method_6_code 287 = .ok (.caload, 1) := by decide +kernel
theorem d12_288 : decode method_6_code 288 = .ok (.castore, 1) := by decide +kernel
theorem d12_289 : decode method_6_code 289 = .ok (.dup, 1) := by decide +kernel
theorem d12_290 : decode method_6_code 290 = .ok (.bipush 6, 2) := by decide +kernel
theorem d12_292 : decode method_6_code 292 = .ok (.aload_n 0, 1) := by decide +kernel
theorem d12_293 : decode method_6_code 293 = .ok (.bipush 6, 2) := by decide +kernel
theorem d12_295 : decode method_6_code 295 = .ok (.caload, 1) := by decide +kernel
theorem d12_296 : decode method_6_code 296 = .ok (.castore, 1) := by decide +kernel
theorem d12_297 : decode method_6_code 297 = .ok (.invokespecial 77, 3) := by decide +kernel
theorem d12_300 : decode method_6_code 300 = .ok (.areturn, 1) := by decide +kernel
theorem d12_70 : decode method_6_code 70 = .ok (.new 23, 3) := by decide +kernel
theorem d12_73 : decode method_6_code 73 = .ok (.dup, 1) := by decide +kernel
theorem d12_74 : decode method_6_code 74 = .ok (.iconst 3, 1) := by decide +kernel
theorem d12_75 : decode method_6_code 75 = .ok (.newarray .char, 2) := by decide +kernel
theorem d12_77 : decode method_6_code 77 = .ok (.dup, 1) := by decide +kernel
theorem d12_78 : decode method_6_code 78 = .ok (.iconst 0, 1) := by decide +kernel
theorem d12_79 : decode method_6_code 79 = .ok (.aload_n 0, 1) := by decide +kernel
theorem d12_80 : decode method_6_code 80 = .ok (.iconst 0, 1) := by decide +kernel
theorem d12_81 : decode method_6_code 81 = .ok (.caload, 1) := by decide +kernel
theorem d12_82 : decode method_6_code 82 = .ok (.castore, 1) := by decide +kernel
theorem d12_83 : decode method_6_code 83 = .ok (.dup, 1) := by decide +kernel
theorem d12_84 : decode method_6_code 84 = .ok (.iconst 1, 1) := by decide +kernel
theorem d12_85 : decode method_6_code 85 = .ok (.aload_n 0, 1) := by decide +kernel
theorem d12_86 : decode method_6_code 86 = .ok (.iconst 1, 1) := by decide +kernel
theorem d12_87 : decode method_6_code 87 = .ok (.caload, 1) := by decide +kernel
theorem d12_88 : decode method_6_code 88 = .ok (.castore, 1) := by decide +kernel
theorem d12_89 : decode method_6_code 89 = .ok (.dup, 1) := by decide +kernel
theorem d12_90 : decode method_6_code 90 = .ok (.iconst 2, 1) := by decide +kernel
theorem d12_91 : decode method_6_code 91 = .ok (.aload_n 0, 1) := by decide +kernel
theorem d12_92 : decode method_6_code 92 = .ok (.iconst 2, 1) := by decide +kernel
theorem d12_93 : decode method_6_code 93 = .ok (.caload, 1) := by decide +kernel
theorem d12_94 : decode method_6_code 94 = .ok (.castore, 1) := by decide +kernel
theorem d12_95 : decode method_6_code 95 = .ok (.invokespecial 77, 3) := by decide +kernel
theorem d12_98 : decode method_6_code 98 = .ok (.areturn, 1) := by decide +kernel
theorem d9_8 : decode method_3_code 8 = .ok (.iload_n 0, 1) := by decide +kernel
theorem d9_9 : decode method_3_code 9 = .ok (.iconst 1, 1) := by decide +kernel
theorem d9_10 : decode method_3_code 10 = .ok (.if_icmp .ne 7, 3) := by decide +kernel
theorem d9_13 : decode method_3_code 13 = .ok (.getstatic 46, 3) := by decide +kernel
theorem d9_16 : decode method_3_code 16 = .ok (.areturn, 1) := by decide +kernel
theorem d10_7 : decode method_4_code 7 = .ok (.iload_n 0, 1) := by decide +kernel
theorem d10_8 : decode method_4_code 8 = .ok (.iconst 1, 1) := by decide +kernel
theorem d10_9 : decode method_4_code 9 = .ok (.if_icmp .ne 6, 3) := by decide +kernel
theorem d10_12 : decode method_4_code 12 = .ok (.ldc 63, 2) := by decide +kernel
theorem d10_14 : decode method_4_code 14 = .ok (.areturn, 1) := by decide +kernel
theorem d9_17 : decode method_3_code 17 = .ok (.iload_n 0, 1) := by decide +kernel
theorem d9_18 : decode method_3_code 18 = .ok (.iconst 2, 1) := by decide +kernel
theorem d9_19 : decode method_3_code 19 = .ok (.if_icmp .ne 7, 3) := by decide +kernel
theorem d9_22 : decode method_3_code 22 = .ok (.getstatic 49, 3) := by decide +kernel
theorem d9_25 : decode method_3_code 25 = .ok (.areturn, 1) := by decide +kernel
theorem d10_15 : decode method_4_code 15 = .ok (.iload_n 0, 1) := by decide +kernel
theorem d10_16 : decode method_4_code 16 = .ok (.iconst 2, 1) := by decide +kernel
theorem d10_17 : decode method_4_code 17 = .ok (.if_icmp .ne 6, 3) := by decide +kernel
theorem d10_20 : decode method_4_code 20 = .ok (.ldc 65, 2) := by decide +kernel
theorem d10_22 : decode method_4_code 22 = .ok (.areturn, 1) := by decide +kernel
theorem d12_301 : decode method_6_code 301 = .ok (.iload_n 1, 1) := by decide +kernel
theorem d12_302 : decode method_6_code 302 = .ok (.bipush 8, 2) := by decide +kernel
theorem d12_304 : decode method_6_code 304 = .ok (.if_icmp .ne 67, 3) := by decide +kernel
theorem d12_307 : decode method_6_code 307 = .ok (.new 23, 3) := by decide +kernel
theorem d12_310 : decode method_6_code 310 = .ok (.dup, 1) := by decide +kernel
theorem d12_311 : decode method_6_code 311 = .ok (.bipush 8, 2) := by decide +kernel
theorem d12_313 : decode method_6_code 313 = .ok (.newarray .char, 2) := by decide +kernel
theorem d12_315 : decode method_6_code 315 = .ok (.dup, 1) := by decide +kernel
theorem d12_316 : decode method_6_code 316 = .ok (.iconst 0, 1) := by decide +kernel
theorem d12_317 : decode method_6_code 317 = .ok (.aload_n 0, 1) := by decide +kernel
theorem d12_318 : decode method_6_code 318 = .ok (.iconst 0, 1) := by decide +kernel
theorem d12_319 : decode method_6_code 319 = .ok (.caload, 1) := by decide +kernel
theorem d12_320 : decode method_6_code 320 = .ok (.castore, 1) := by decide +kernel
theorem d12_321 : decode method_6_code 321 = .ok (.dup, 1) := by decide +kernel
theorem d12_322 : decode method_6_code 322 = .ok (.iconst 1, 1) := by decide +kernel
theorem d12_323 : decode method_6_code 323 = .ok (.aload_n 0, 1) := by decide +kernel
theorem d12_324 : decode method_6_code 324 = .ok (.iconst 1, 1) := by decide +kernel
theorem d12_325 : decode method_6_code 325 = .ok (.caload, 1) := by decide +kernel
theorem d12_326 : decode method_6_code 326 = .ok (.castore, 1) := by decide +kernel
theorem d12_327 : decode method_6_code 327 = .ok (.dup, 1) := by decide +kernel
theorem d12_328 : decode method_6_code 328 = .ok (.iconst 2, 1) := by decide +kernel
theorem d12_329 : decode method_6_code 329 = .ok (.aload_n 0, 1) := by decide +kernel
theorem d12_330 : decode method_6_code 330 = .ok (.iconst 2, 1) := by decide +kernel
theorem d12_331 : decode method_6_code 331 = .ok (.caload, 1) := by decide +kernel
theorem d12_332 : decode method_6_code 332 = .ok (.castore, 1) := by decide +kernel
theorem d12_333 : decode method_6_code 333 = .ok (.dup, 1) := by decide +kernel
theorem d12_334 : decode method_6_code 334 = .ok (.iconst 3, 1) := by decide +kernel
theorem d12_335 : decode method_6_code 335 = .ok (.aload_n 0, 1) := by decide +kernel
theorem d12_336 : decode method_6_code 336 = .ok (.iconst 3, 1) := by decide +kernel
theorem d12_337 : decode method_6_code 337 = .ok (.caload, 1) := by decide +kernel
theorem d12_338 : decode method_6_code 338 = .ok (.castore, 1) := by decide +kernel
theorem d12_339 : decode method_6_code 339 = .ok (.dup, 1) := by decide +kernel
theorem d12_340 : decode method_6_code 340 = .ok (.iconst 4, 1) := by decide +kernel
theorem d12_341 : decode method_6_code 341 = .ok (.aload_n 0, 1) := by decide +kernel
theorem d12_342 : decode method_6_code 342 = .ok (.iconst 4, 1) := by decide +kernel
theorem d12_343 : decode method_6_code 343 = .ok (.caload, 1) := by decide +kernel
theorem d12_344 : decode method_6_code 344 = .ok (.castore, 1) := by decide +kernel
theorem d12_345 : decode method_6_code 345 = .ok (.dup, 1) := by decide +kernel
theorem d12_346 : decode method_6_code 346 = .ok (.iconst 5, 1) := by decide +kernel
theorem d12_347 : decode method_6_code 347 = .ok (.aload_n 0, 1) := by decide +kernel
theorem d12_348 : decode method_6_code 348 = .ok (.iconst 5, 1) := by decide +kernel
theorem d12_349 : decode method_6_code 349 = .ok (.caload, 1) := by decide +kernel
theorem d12_350 : decode method_6_code 350 = .ok (.castore, 1) := by decide +kernel
theorem d12_351 : decode method_6_code 351 = .ok (.dup, 1) := by decide +kernel
theorem d12_352 : decode method_6_code 352 = .ok (.bipush 6, 2) := by decide +kernel
theorem d12_354 : decode method_6_code 354 = .ok (.aload_n 0, 1) := by decide +kernel
theorem d12_355 : decode method_6_code 355 = .ok (.bipush 6, 2) := by decide +kernel
theorem d12_357 : decode method_6_code 357 = .ok (.caload, 1) := by decide +kernel
theorem d12_358 : decode method_6_code 358 = .ok (.castore, 1) := by decide +kernel
theorem d12_359 : decode method_6_code 359 = .ok (.dup, 1) := by decide +kernel
theorem d12_360 : decode method_6_code 360 = .ok (.bipush 7, 2) := by decide +kernel
theorem d12_362 : decode method_6_code 362 = .ok (.aload_n 0, 1) := by decide +kernel
theorem d12_363 : decode method_6_code 363 = .ok (.bipush 7, 2) := by decide +kernel
theorem d12_365 : decode method_6_code 365 = .ok (.caload, 1) := by decide +kernel
theorem d12_366 : decode method_6_code 366 = .ok (.castore, 1) := by decide +kernel
theorem d12_367 : decode method_6_code 367 = .ok (.invokespecial 77, 3) := by decide +kernel
theorem d12_370 : decode method_6_code 370 = .ok (.areturn, 1) := by decide +kernel
theorem d12_371 : decode method_6_code 371 = .ok (.new 23, 3) := by decide +kernel
theorem d12_374 : decode method_6_code 374 = .ok (.dup, 1) := by decide +kernel
theorem d12_375 : decode method_6_code 375 = .ok (.bipush 9, 2) := by decide +kernel
theorem d12_377 : decode method_6_code 377 = .ok (.newarray .char, 2) := by decide +kernel
theorem d12_379 : decode method_6_code 379 = .ok (.dup, 1) := by decide +kernel
theorem d12_380 : decode method_6_code 380 = .ok (.iconst 0, 1) := by decide +kernel
theorem d12_381 : decode method_6_code 381 = .ok (.aload_n 0, 1) := by decide +kernel
theorem d12_382 : decode method_6_code 382 = .ok (.iconst 0, 1) := by decide +kernel
theorem d12_383 : decode method_6_code 383 = .ok (.caload, 1) := by decide +kernel
theorem d12_384 : decode method_6_code 384 = .ok (.castore, 1) := by decide +kernel
theorem d12_385 : decode method_6_code 385 = .ok (.dup, 1) := by decide +kernel
theorem d12_386 : decode method_6_code 386 = .ok (.iconst 1, 1) := by decide +kernel
theorem d12_387 : decode method_6_code 387 = .ok (.aload_n 0, 1) := by decide +kernel
theorem d12_388 : decode method_6_code 388 = .ok (.iconst 1, 1) := by decide +kernel
theorem d12_389 : decode method_6_code 389 = .ok (.caload, 1) := by decide +kernel
theorem d12_390 : decode method_6_code 390 = .ok (.castore, 1) := by decide +kernel
theorem d12_391 : decode method_6_code 391 = .ok (.dup, 1) := by decide +kernel
theorem d12_392 : decode method_6_code 392 = .ok (.iconst 2, 1) := by decide +kernel
theorem d12_393 : decode method_6_code 393 = .ok (.aload_n 0, 1) := by decide +kernel
theorem d12_394 : decode method_6_code 394 = .ok (.iconst 2, 1) := by decide +kernel
theorem d12_395 : decode method_6_code 395 = .ok (.caload, 1) := by decide +kernel
theorem d12_396 : decode method_6_code 396 = .ok (.castore, 1) := by decide +kernel
theorem d12_397 : decode method_6_code 397 = .ok (.dup, 1) := by decide +kernel
theorem d12_398 : decode method_6_code 398 = .ok (.iconst 3, 1) := by decide +kernel
theorem d12_399 : decode method_6_code 399 = .ok (.aload_n 0, 1) := by decide +kernel
theorem d12_400 : decode method_6_code 400 = .ok (.iconst 3, 1) := by decide +kernel
theorem d12_401 : decode method_6_code 401 = .ok (.caload, 1) := by decide +kernel
theorem d12_402 : decode method_6_code 402 = .ok (.castore, 1) := by decide +kernel
theorem d12_403 : decode method_6_code 403 = .ok (.dup, 1) := by decide +kernel
theorem d12_404 : decode method_6_code 404 = .ok (.iconst 4, 1) := by decide +kernel
theorem d12_405 : decode method_6_code 405 = .ok (.aload_n 0, 1) := by decide +kernel
theorem d12_406 : decode method_6_code 406 = .ok (.iconst 4, 1) := by decide +kernel
theorem d12_407 : decode method_6_code 407 = .ok (.caload, 1) := by decide +kernel
theorem d12_408 : decode method_6_code 408 = .ok (.castore, 1) := by decide +kernel
theorem d12_409 : decode method_6_code 409 = .ok (.dup, 1) := by decide +kernel
theorem d12_410 : decode method_6_code 410 = .ok (.iconst 5, 1) := by decide +kernel
theorem d12_411 : decode method_6_code 411 = .ok (.aload_n 0, 1) := by decide +kernel
theorem d12_412 : decode method_6_code 412 = .ok (.iconst 5, 1) := by decide +kernel
theorem d12_413 : decode method_6_code 413 = .ok (.caload, 1) := by decide +kernel
theorem d12_414 : decode method_6_code 414 = .ok (.castore, 1) := by decide +kernel
theorem d12_415 : decode method_6_code 415 = .ok (.dup, 1) := by decide +kernel
theorem d12_416 : decode method_6_code 416 = .ok (.bipush 6, 2) := by decide +kernel
theorem d12_418 : decode method_6_code 418 = .ok (.aload_n 0, 1) := by decide +kernel
theorem d12_419 : decode method_6_code 419 = .ok (.bipush 6, 2) := by decide +kernel
theorem d12_421 : decode method_6_code 421 = .ok (.caload, 1) := by decide +kernel
theorem d12_422 : decode method_6_code 422 = .ok (.castore, 1) := by decide +kernel
theorem d12_423 : decode method_6_code 423 = .ok (.dup, 1) := by decide +kernel
theorem d12_424 : decode method_6_code 424 = .ok (.bipush 7, 2) := by decide +kernel
theorem d12_426 : decode method_6_code 426 = .ok (.aload_n 0, 1) := by decide +kernel
theorem d12_427 : decode method_6_code 427 = .ok (.bipush 7, 2) := by decide +kernel
theorem d12_429 : decode method_6_code 429 = .ok (.caload, 1) := by decide +kernel
theorem d12_430 : decode method_6_code 430 = .ok (.castore, 1) := by decide +kernel
theorem d12_431 : decode method_6_code 431 = .ok (.dup, 1) := by decide +kernel
theorem d12_432 : decode method_6_code 432 = .ok (.bipush 8, 2) := by decide +kernel
theorem d12_434 : decode method_6_code 434 = .ok (.aload_n 0, 1) := by decide +kernel
theorem d12_435 : decode method_6_code 435 = .ok (.bipush 8, 2) := by decide +kernel
theorem d12_437 : decode method_6_code 437 = .ok (.caload, 1) := by decide +kernel
theorem d12_438 : decode method_6_code 438 = .ok (.castore, 1) := by decide +kernel
theorem d12_439 : decode method_6_code 439 = .ok (.invokespecial 77, 3) := by decide +kernel
theorem d12_442 : decode method_6_code 442 = .ok (.areturn, 1) := by decide +kernel
theorem d9_26 : decode method_3_code 26 = .ok (.iload_n 0, 1) := by decide +kernel
theorem d9_27 : decode method_3_code 27 = .ok (.iconst 3, 1) := by decide +kernel
theorem d9_28 : decode method_3_code 28 = .ok (.if_icmp .ne 7, 3) := by decide +kernel
theorem d9_31 : decode method_3_code 31 = .ok (.getstatic 52, 3) := by decide +kernel
theorem d9_34 : decode method_3_code 34 = .ok (.areturn, 1) := by decide +kernel
theorem d10_23 : decode method_4_code 23 = .ok (.iload_n 0, 1) := by decide +kernel
theorem d10_24 : decode method_4_code 24 = .ok (.iconst 3, 1) := by decide +kernel
theorem d10_25 : decode method_4_code 25 = .ok (.if_icmp .ne 6, 3) := by decide +kernel
theorem d10_28 : decode method_4_code 28 = .ok (.ldc 67, 2) := by decide +kernel
theorem d10_30 : decode method_4_code 30 = .ok (.areturn, 1) := by decide +kernel
theorem d9_35 : decode method_3_code 35 = .ok (.iload_n 0, 1) := by decide +kernel
theorem d9_36 : decode method_3_code 36 = .ok (.iconst 4, 1) := by decide +kernel
theorem d9_37 : decode method_3_code 37 = .ok (.if_icmp .ne 7, 3) := by decide +kernel
theorem d9_40 : decode method_3_code 40 = .ok (.getstatic 55, 3) := by decide +kernel
theorem d9_43 : decode method_3_code 43 = .ok (.areturn, 1) := by decide +kernel
theorem d10_31 : decode method_4_code 31 = .ok (.iload_n 0, 1) := by decide +kernel
theorem d10_32 : decode method_4_code 32 = .ok (.iconst 4, 1) := by decide +kernel
theorem d10_33 : decode method_4_code 33 = .ok (.if_icmp .ne 6, 3) := by decide +kernel
theorem d10_36 : decode method_4_code 36 = .ok (.ldc 69, 2) := by decide +kernel
theorem d10_38 : decode method_4_code 38 = .ok (.areturn, 1) := by decide +kernel
theorem d9_44 : decode method_3_code 44 = .ok (.getstatic 58, 3) := by decide +kernel
theorem d9_47 : decode method_3_code 47 = .ok (.areturn, 1) := by decide +kernel
theorem d10_39 : decode method_4_code 39 = .ok (.ldc 71, 2) := by decide +kernel
theorem d10_41 : decode method_4_code 41 = .ok (.areturn, 1) := by decide +kernel
theorem d15_15 : decode jdk_42_method_92_code 15 = .ok (.iload_n 2, 1) := by decide +kernel
theorem d15_16 : decode jdk_42_method_92_code 16 = .ok (.iload_n 3, 1) := by decide +kernel
theorem d15_17 : decode jdk_42_method_92_code 17 = .ok (.if_icmp .ne 5, 3) := by decide +kernel
theorem d15_20 : decode jdk_42_method_92_code 20 = .ok (.aload_n 0, 1) := by decide +kernel
theorem d15_21 : decode jdk_42_method_92_code 21 = .ok (.areturn, 1) := by decide +kernel
section CT
variable (l : Launch) {Z : State} {a0 : Array Value}
theorem ef1 (m : MethodId) (v0 v1 : Addr) : entryFrame m #[(.ref v0), (.ref v1)] 3 = mkF m 0 #[.val (.ref v0), .val (.ref v1), .unset] [] := by first | (simp [entryFrame, mkF, argsToLocals, Value.category]; done) | rfl
def Q_eqsame (Z : State) (a : Addr) (h0 : Heap) (xv : Value) (h : Heap) : Prop := (.int 1) = xv ∧ h0 = h
theorem c_eqsame (G : GH Z a0) (a : Addr)  (h0 : Heap) (O0 : Old Z Z.heap.size h0)  : Con false [] l Z (⟨"java/lang/String", "equals", "(Ljava/lang/Object;)Z"⟩ : MethodName) jdk_42_method_66_code 3 (some .boolean) [] (rm4 0 0 0 0) #[(.ref a), (.ref a)] h0 [] (rvl (Q_eqsame Z a h0)) := by
  refine conN G (plainFor_of_name pn1) O0 (fun m => ef1 m a a) ?_
  intro _ _ _ m_ _ _ _ D hml hret hlk hnm
  refine go_aload_n 1 (D d1_0) rfl rfl rfl ?_
  refine go_aload_n 2 (D d1_1) rfl rfl rfl ?_
  refine go_acF 5 (D d1_2) rfl rfl rfl (XT.aa_ne_f rfl) ?_
  refine go_iconst 6 (v := 1) (D d1_5) rfl rfl ?_
  refine go_ireturn hret hlk rfl (by simp) (D d1_6) (by decide) (by decide) ⟨_, rfl, ⟨rfl, rfl⟩⟩ (Keep.refl h0 [])
theorem ef2 (m : MethodId) (v0 v1 : Addr) (v2 v3 : Int32) : entryFrame m #[(.ref v0), (.ref v1), (.int v2), (.int v3), .null] 6 = mkF m 0 #[.val (.ref v0), .val (.ref v1), .val (.int v2), .val (.int v3), .val .null, .unset] [] := by first | (simp [entryFrame, mkF, argsToLocals, Value.category]; done) | rfl
def Q_new0in (Z : State) (a b : Addr) (h0 : Heap) (h : Heap) : Prop := Str Z h a []
theorem c_new0in (G : GH Z a0) (a b : Addr)  (h0 : Heap) (O0 : Old Z Z.heap.size h0) (p1 : Exa Z h0 a "java/lang/String") (p2 : Z.heap.size ≤ a) (p3 : Fld Z h0 a "java/lang/String" "value" "[B" .null) (p4 : Fld Z h0 a "java/lang/String" "coder" "B" (.int 0)) : Con true EL1 l Z (⟨"java/lang/String", "<init>", "([CIILjava/lang/Void;)V"⟩ : MethodName) jdk_42_method_149_code 6 none [] (rm4 1 4 8 12) #[(.ref a), (.ref b), (.int 0), (.int 0), .null] h0 [a] (rno (Q_new0in Z a b h0)) := by
  refine conW G (plainFor_of_name pn1) O0 (fun m => ef2 m a b (0 : Int32) (0 : Int32)) ?_
  intro _ _ _ m_ _ _ _ D hml hret hlk hnm
  refine go_aload_n 1 (D d2_0) rfl rfl rfl ?_
  refine go_initO 4 (Wd := 0) (wk G 69) (wk G 70) (wk G 71) (sz hml) (by decide) (by decide) (by decide) (D d2_1) rfl ?_
  refine go_iload_n 5 (D d2_4) rfl rfl ?_
  refine go_ifF 8 (D d2_5) rfl (by decide) ?_
  refine go_empty G rfl (by decide) hnm rfl (wk G 144) (wk G 28) (wk G 35) (wk G 15) (wk G 16) (wk G 13) p1 p3 p4 p2 (D d2_8) (D d2_9) (D d2_11) (D d2_14) (D d2_17) (D d2_18) (D d2_20) (D d2_23) (by decide) (by decide) (fun h1 S2 K3 => ?_)
  have K4 : Keep h0 h1 [a] := ((Keep.refl h0 [a]).trans K3 (allS (Or.inl (by simp)) all0))
  refine go_return hret hlk (D d2_26) (by decide) (by decide) ⟨rfl, S2⟩ K4
theorem ef3 (m : MethodId) (v0 v1 : Addr) : entryFrame m #[(.ref v0), (.ref v1)] 2 = mkF m 0 #[.val (.ref v0), .val (.ref v1)] [] := by first | (simp [entryFrame, mkF, argsToLocals, Value.category]; done) | rfl
def Q_new0 (Z : State) (a b : Addr) (k : ClassId) (h0 : Heap) (h : Heap) : Prop := Str Z h a []
theorem c_new0 (G : GH Z a0) (a b : Addr) (k : ClassId) (h0 : Heap) (O0 : Old Z Z.heap.size h0) (p1 : Exa Z h0 a "java/lang/String") (p2 : Z.heap.size ≤ a) (p3 : Fld Z h0 a "java/lang/String" "value" "[B" .null) (p4 : Fld Z h0 a "java/lang/String" "coder" "B" (.int 0)) (p5 : Arv Z h0 b k (.char) (0 : Int32) [] (.int 0)) : Con true EL1 l Z (⟨"java/lang/String", "<init>", "([C)V"⟩ : MethodName) jdk_42_method_3_code 2 none [] (rm4 2 4 8 29) #[(.ref a), (.ref b)] h0 [a] (rno (Q_new0 Z a b k h0)) := by
  refine conW G (plainFor_of_name pn1) O0 (fun m => ef3 m a b) ?_
  intro _ _ _ m_ _ _ _ D hml hret hlk hnm
  refine go_aload_n 1 (D d3_0) rfl rfl rfl ?_
  refine go_aload_n 2 (D d3_1) rfl rfl rfl ?_
  refine go_iconst 3 (v := 0) (D d3_2) rfl rfl ?_
  refine go_aload_n 4 (D d3_3) rfl rfl rfl ?_
  refine go_arraylength 5 p5 (D d3_4) rfl ?_
  refine go_aconst_null 6 (D d3_5) rfl ?_
  refine callIW0 rfl (cells' := 4) (slots' := 8) (Wd := 0) (argsL := [(.ref b), (.int 0), (.int 0), .null]) (rest := []) (payW_of (a0 := a0) (c_new0in l G a b h0 O0 p1 p2 p3 p4) (wk G 68) (wk G 12) (ew1 G)) rfl (wk G 65) (wk G 66) (wk G 68) pd1 (sz hml) (allS p2 all0) (D d3_6) (k_n 9 rfl ?_)
  rintro  h1 f3 K2
  have K4 : Keep h0 h1 [a] := ((Keep.refl h0 [a]).trans K2 (allS (Or.inl (by simp)) all0))
  refine go_return hret hlk (D d3_9) (by decide) (by decide) ⟨rfl, f3⟩ K4
theorem ef4 (m : MethodId) (v0 : Addr) : entryFrame m #[(.ref v0)] 1 = mkF m 0 #[.val (.ref v0)] [] := by first | (simp [entryFrame, mkF, argsToLocals, Value.category]; done) | rfl
def Q_islatin (Z : State) (a : Addr) (h0 : Heap) (xv : Value) (h : Heap) : Prop := (.int 1) = xv ∧ h0 = h
theorem c_islatin (G : GH Z a0) (a : Addr)  (h0 : Heap) (O0 : Old Z Z.heap.size h0) (p1 : Fld Z h0 a "java/lang/String" "coder" "B" (.int 0)) : Con false [] l Z (⟨"java/lang/String", "isLatin1", "()Z"⟩ : MethodName) jdk_42_method_154_code 1 (some .boolean) [] (rm4 0 0 0 0) #[(.ref a)] h0 [] (rvl (Q_islatin Z a h0)) := by
  refine conN G (plainFor_of_name pn1) O0 (fun m => ef4 m a) ?_
  intro _ _ _ m_ _ _ _ D hml hret hlk hnm
  obtain ⟨z1, s2, q3⟩ := cs_of G
  refine go_getS 3 (wk G 34) (s2.ext O0.2) (D d4_0) rfl ?_
  refine go_ifF 6 (D d4_3) rfl (XT.i0_eq_f q3) ?_
  refine go_aload_n 7 (D d4_6) rfl rfl rfl ?_
  refine go_getF 10 (wk G 35) Via.refl p1 (D d4_7) rfl ?_
  refine go_ifF 13 (D d4_10) rfl (by decide) ?_
  refine go_iconst 14 (v := 1) (D d4_13) rfl rfl ?_
  refine go_goto 18 (D d4_14) (by decide) rfl ?_
  refine go_ireturn hret hlk rfl (by simp) (D d4_18) (by decide) (by decide) ⟨_, rfl, ⟨rfl, rfl⟩⟩ (Keep.refl h0 [])
theorem ef5 (m : MethodId) (v0 v1 : Addr) (v2 : Int32) : entryFrame m #[(.ref v0), (.ref v1), (.int v2)] 3 = mkF m 0 #[.val (.ref v0), .val (.ref v1), .val (.int v2)] [] := by first | (simp [entryFrame, mkF, argsToLocals, Value.category]; done) | rfl
def Q_strbb (Z : State) (a t : Addr) (h0 : Heap) (h : Heap) : Prop := Fld Z h a "java/lang/String" "value" "[B" (.ref t) ∧ Fld Z h a "java/lang/String" "coder" "B" (.int 0)
theorem c_strbb (G : GH Z a0) (a t : Addr)  (h0 : Heap) (O0 : Old Z Z.heap.size h0) (p1 : Exa Z h0 a "java/lang/String") (p2 : Z.heap.size ≤ a) (p3 : Fld Z h0 a "java/lang/String" "value" "[B" .null) (p4 : Fld Z h0 a "java/lang/String" "coder" "B" (.int 0)) : Con false [] l Z (⟨"java/lang/String", "<init>", "([BB)V"⟩ : MethodName) jdk_42_method_151_code 3 none [] (rm4 1 0 0 12) #[(.ref a), (.ref t), (.int 0)] h0 [a] (rno (Q_strbb Z a t h0)) := by
  refine conN G (plainFor_of_name pn1) O0 (fun m => ef5 m a t (0 : Int32)) ?_
  intro _ _ _ m_ _ _ _ D hml hret hlk hnm
  refine go_aload_n 1 (D d5_0) rfl rfl rfl ?_
  refine go_initO 4 (Wd := 0) (wk G 69) (wk G 70) (wk G 71) (sz hml) (by decide) (by decide) (by decide) (D d5_1) rfl ?_
  refine go_aload_n 5 (D d5_4) rfl rfl rfl ?_
  refine go_aload_n 6 (D d5_5) rfl rfl rfl ?_
  refine go_putF 9 (wk G 28) Via.refl p3 p1 (Or.inr ⟨(wk G 15), rfl, hnm⟩) (wk G 13) (ty := (.array .byte)) (v' := (.ref t)) (by decide) rfl rfl p2 (Or.inr rfl) (D d5_6) rfl (fun h1 W2 => ?_)
  have F3 := Fld.same W2 p3
  refine go_aload_n 10 (D d5_9) rfl rfl rfl ?_
  refine go_iload_n 11 (D d5_10) rfl rfl ?_
  have F4 := (p4.other W2 (Or.inr (slot_ne (t := .byte) (t' := (.array .byte)) (Or.inr (wk G 16)) (Or.inr (wk G 15)) (by decide) (by decide) (by decide))))
  have E5 := (p1.wr W2)
  refine go_putF 14 (wk G 35) Via.refl F4 E5 (Or.inr ⟨(wk G 16), rfl, hnm⟩) (wk G 13) (ty := .byte) (v' := (.int 0)) (by decide) rfl (by decide) p2 (Or.inr rfl) (D d5_11) rfl (fun h6 W7 => ?_)
  have F8 := Fld.same W7 F4
  have K9 : Keep h0 h1 [a] := ((Keep.refl h0 [a]).wr W2 (Or.inl (by simp)))
  have K10 : Keep h0 h6 [a] := (K9.wr W7 (Or.inl (by simp)))
  have F11 := (F3.other W7 (Or.inr (slot_ne (t := (.array .byte)) (t' := .byte) (Or.inr (wk G 15)) (Or.inr (wk G 16)) (by decide) (by decide) (by decide))))
  refine go_return hret hlk (D d5_14) (by decide) (by decide) ⟨rfl, ⟨F11, F8⟩⟩ K10
theorem ef6 (m : MethodId) (v0 v1 v2 : Int32) (v3 : Value) (hc_v3 : v3.isRef = true) : entryFrame m #[(.int v0), (.int v1), (.int v2), v3] 4 = mkF m 0 #[.val (.int v0), .val (.int v1), .val (.int v2), .val v3] [] := by rcases XT.refc hc_v3 with rfl | ⟨_, rfl⟩ <;> first | (simp [entryFrame, mkF, argsToLocals, Value.category]; done) | rfl
def Q_cfti (Z : State) (i j u : Int32) (f : Value) (h0 : Heap) (xv : Value) (h : Heap) : Prop := (.int i) = xv ∧ h0 = h
theorem c_cfti (G : GH Z a0) (i j u : Int32) (f : Value)  (h0 : Heap) (O0 : Old Z Z.heap.size h0) (p1 : f.isRef = true) (p2 : ¬ i < (0 : Int32)) (p3 : ¬ j < i) (p4 : ¬ u < j) : Con false [] l Z (⟨"jdk/internal/util/Preconditions", "checkFromToIndex", "(IIILjava/util/function/BiFunction;)I"⟩ : MethodName) jdk_41_method_12_code 4 (some .int) [] (rm4 0 0 0 0) #[(.int i), (.int j), (.int u), f] h0 [] (rvl (Q_cfti Z i j u f h0)) := by
  refine conN G (plainFor_of_name pn2) O0 (fun m => ef6 m i j u f p1) ?_
  intro _ _ _ m_ _ _ _ D hml hret hlk hnm
  refine go_iload_n 1 (D d6_0) rfl rfl ?_
  refine go_ifF 4 (D d6_1) rfl (XT.i0_lt_f p2) ?_
  refine go_iload_n 5 (D d6_4) rfl rfl ?_
  refine go_iload_n 6 (D d6_5) rfl rfl ?_
  refine go_icF 9 (D d6_6) rfl (XT.ii_gt_f p3) ?_
  refine go_iload_n 10 (D d6_9) rfl rfl ?_
  refine go_iload_n 11 (D d6_10) rfl rfl ?_
  refine go_icT 22 (D d6_11) (by decide) rfl (XT.ii_le_t p4) ?_
  refine go_iload_n 23 (D d6_22) rfl rfl ?_
  refine go_ireturn hret hlk rfl (by simp) (D d6_23) (by decide) (by decide) ⟨_, rfl, ⟨rfl, rfl⟩⟩ (Keep.refl h0 [])
theorem ef7 (m : MethodId) (v0 v1 v2 : Int32) : entryFrame m #[(.int v0), (.int v1), (.int v2)] 3 = mkF m 0 #[.val (.int v0), .val (.int v1), .val (.int v2)] [] := by first | (simp [entryFrame, mkF, argsToLocals, Value.category]; done) | rfl
def Q_cbbe (Z : State) (i j u : Int32) (h0 : Heap) (h : Heap) : Prop := h0 = h
theorem c_cbbe (G : GH Z a0) (i j u : Int32)  (h0 : Heap) (O0 : Old Z Z.heap.size h0) (p1 : ¬ i < (0 : Int32)) (p2 : ¬ j < i) (p3 : ¬ u < j) : Con false [] l Z (⟨"java/lang/String", "checkBoundsBeginEnd", "(III)V"⟩ : MethodName) jdk_42_method_158_code 3 none [] (rm4 1 0 0 15) #[(.int i), (.int j), (.int u)] h0 [] (rno (Q_cbbe Z i j u h0)) := by
  refine conN G (plainFor_of_name pn1) O0 (fun m => ef7 m i j u) ?_
  intro _ _ _ m_ _ _ _ D hml hret hlk hnm
  refine go_iload_n 1 (D d7_0) rfl rfl ?_
  refine go_iload_n 2 (D d7_1) rfl rfl ?_
  refine go_iload_n 3 (D d7_2) rfl rfl ?_
  obtain ⟨v1, s2, q3⟩ := sf_of G
  refine go_getS 6 (wk G 53) (s2.ext O0.2) (D d7_3) rfl ?_
  refine callS0 (cells' := 0) (slots' := 0) (Wd := 0) (argsL := [(.int i), (.int j), (.int u), v1]) (rest := []) (pay_of (a0 := a0) (c_cfti l G i j u v1 h0 O0 q3 p1 p2 p3) (wk G 106) (wk G 54)) (wk G 104) (wk G 105) (wk G 54) (wk G 106) pd2 (sz hml) all0 sf00 (D d7_6) (k_v 9 rfl ?_)
  rintro _ h4 ⟨rfl, rfl⟩ K5
  refine go_pop 10 (D d7_9) rfl rfl ?_
  refine go_return hret hlk (D d7_10) (by decide) (by decide) ⟨rfl, rfl⟩ (Keep.refl h0 [])
theorem ef8 (m : MethodId) (v0 v1 : Int32) : entryFrame m #[(.int v0), (.int v1)] 2 = mkF m 0 #[.val (.int v0), .val (.int v1)] [] := by first | (simp [entryFrame, mkF, argsToLocals, Value.category]; done) | rfl
def Q_chkl (Z : State) (i j : Int32) (h0 : Heap) (h : Heap) : Prop := h0 = h
theorem c_chkl (G : GH Z a0) (i j : Int32)  (h0 : Heap) (O0 : Old Z Z.heap.size h0) (p1 : ¬ j < i) : Con false [] l Z (⟨"java/util/Arrays", "checkLength", "(II)V"⟩ : MethodName) jdk_65_method_131_code 2 none [] (rm4 0 0 0 0) #[(.int i), (.int j)] h0 [] (rno (Q_chkl Z i j h0)) := by
  refine conN G (plainFor_of_name pn3) O0 (fun m => ef8 m i j) ?_
  intro _ _ _ m_ _ _ _ D hml hret hlk hnm
  refine go_iload_n 1 (D d8_0) rfl rfl ?_
  refine go_iload_n 2 (D d8_1) rfl rfl ?_
  refine go_icT 37 (D d8_2) (by decide) rfl (XT.ii_ge_t p1) ?_
  refine go_return hret hlk (D d8_37) (by decide) (by decide) ⟨rfl, rfl⟩ (Keep.refl h0 [])
theorem ef9 (m : MethodId) (v0 v1 v2 v3 v4 : Int32) : entryFrame m #[(.int v0), (.int v1), (.int v2), (.int v3), (.int v4)] maxLocals = mkF m 0 #[.val (.int v0), .val (.int v1), .val (.int v2), .val (.int v3), .val (.int v4), .unset, .unset, .unset, .unset, .unset, .unset, .unset, .unset, .unset] [] := by first | (simp [entryFrame, mkF, argsToLocals, Value.category, maxLocals]; done) | rfl
def Q_law (Z : State) (x0 x1 x2 x3 x4 : Int32) (h0 : Heap) (xv : Value) (h : Heap) : Prop := (.int 1) = xv
theorem ef10 (m : MethodId) (v0 : Int32) : entryFrame m #[(.int v0)] 1 = mkF m 0 #[.val (.int v0)] [] := by first | (simp [entryFrame, mkF, argsToLocals, Value.category]; done) | rfl
def Q_kind0 (Z : State)  (h0 : Heap) (xv : Value) (h : Heap) : Prop := (.ref (s_LIST Z)) = xv ∧ h0 = h
theorem c_kind0 (G : GH Z a0)   (h0 : Heap) (O0 : Old Z Z.heap.size h0)  : Con false [] l Z (⟨"com/example/hew/hew/MethodKindNounPinLaw", "kindOf", "(I)Lcom/example/hew/hew/MethodKind;"⟩ : MethodName) method_3_code 1 (some (.object "com/example/hew/hew/MethodKind")) [] (rm4 0 0 0 0) #[(.int 0)] h0 [] (rvl (Q_kind0 Z h0)) := by
  refine conN G (plainFor_of_name pn4) O0 (fun m => ef10 m (0 : Int32)) ?_
  intro _ _ _ m_ _ _ _ D hml hret hlk hnm
  refine go_iload_n 1 (D d9_0) rfl rfl ?_
  refine go_ifF 4 (D d9_1) rfl (by decide) ?_
  refine go_getS 7 (wk G 5) ((se_LIST G).1.ext O0.2) (D d9_4) rfl ?_
  refine go_areturn hret hlk rfl rfl (D d9_7) (by decide) (by decide) ⟨_, rfl, ⟨rfl, rfl⟩⟩ (Keep.refl h0 [])
def Q_word0 (Z : State)  (h0 : Heap) (xv : Value) (h : Heap) : Prop := ∃ (r : Addr), (.ref r) = xv ∧ Str Z h r [(76 : Int32), (105 : Int32), (115 : Int32), (116 : Int32)]
theorem c_word0 (G : GH Z a0)   (h0 : Heap) (O0 : Old Z Z.heap.size h0)  : Con true EL1 l Z (⟨"com/example/hew/hew/MethodKindNounPinLaw", "wordOf", "(I)Ljava/lang/String;"⟩ : MethodName) method_4_code 1 (some (.object "java/lang/String")) [] (rm4 0 2 20 0) #[(.int 0)] h0 [] (rvl (Q_word0 Z h0)) := by
  refine conW G (plainFor_of_name pn4) O0 (fun m => ef10 m (0 : Int32)) ?_
  intro _ _ _ m_ _ _ _ D hml hret hlk hnm
  refine go_iload_n 1 (D d10_0) rfl rfl ?_
  refine go_ifF 4 (D d10_1) rfl (by decide) ?_
  refine go_ldcH 6 (cells' := 2) (slots' := 20) (n := 16) (vs := (([(76 : Int32), (105 : Int32), (115 : Int32), (116 : Int32)] : List Int32).map fun c => c.toInt8.toInt32).map Value.int) (z := (4 : Int32)) rfl (by decide) (wk G 11) (wS G) (by decide +kernel) (by decide) (by decide) (by decide) (by decide) (D d10_4) rfl rfl rfl (by decide) (by decide) (fun h1 a2 t4 k5 X3 E6 F7 F8 A9 => ?_)
  have S10 : Str Z h1 a2 [(76 : Int32), (105 : Int32), (115 : Int32), (116 : Int32)] := ⟨t4, k5, E6, F8, F7, A9, by decide, by decide⟩
  have K11 : Keep h0 h1 [] := ((Keep.refl h0 []).ext X3)
  refine go_areturn hret hlk rfl rfl (D d10_6) (by decide) (by decide) ⟨_, rfl, ⟨a2, rfl, S10⟩⟩ K11
theorem ef11 (m : MethodId) (v0 v1 : Addr) (v2 : Int32) : entryFrame m #[(.ref v0), (.ref v1), (.int v2)] 4 = mkF m 0 #[.val (.ref v0), .val (.ref v1), .val (.int v2), .unset] [] := by first | (simp [entryFrame, mkF, argsToLocals, Value.category]; done) | rfl
def Q_at4_0 (Z : State) (a b : Addr) (k : ClassId) (c0 c1 c2 c3 e0 e1 e2 : Int32) (h0 : Heap) (xv : Value) (h : Heap) : Prop := (.int c0) = xv ∧ h0 = h
theorem c_at4_0 (G : GH Z a0) (a b : Addr) (k : ClassId) (c0 c1 c2 c3 e0 e1 e2 : Int32) (h0 : Heap) (O0 : Old Z Z.heap.size h0) (p1 : Str Z h0 a [c0, c1, c2, c3]) (p2 : Arv Z h0 b k (.char) (3 : Int32) [(.int e0), (.int e1), (.int e2)] (.int 0)) (p3 : C8 e0) (p4 : C8 e1) (p5 : C8 e2) : Con false [] l Z (⟨"com/example/hew/hew/MethodKindNounPinLaw", "at", "(Ljava/lang/String;[CI)C"⟩ : MethodName) method_5_code 4 (some .char) [] (rm4 4 0 0 53) #[(.ref a), (.ref b), (.int 0)] h0 [] (rvl (Q_at4_0 Z a b k c0 c1 c2 c3 e0 e1 e2 h0)) := by
  refine conN G (plainFor_of_name pn4) O0 (fun m => ef11 m a b (0 : Int32)) ?_
  intro _ _ _ m_ _ _ _ D hml hret hlk hnm
  refine go_iload_n 1 (D d11_0) rfl rfl ?_
  refine go_aload_n 2 (D d11_1) rfl rfl rfl ?_
  refine callV0 (cells' := 0) (slots' := 0) (Wd := 1) (argsL := []) (rest := [(.int 0)]) (pay_len G O0 (n := (4 : Int32)) p1 rfl (by decide) (by decide)) p1.exa (wk G 23) (wk G 24) (wk G 26) (wk G 26) (wk G 25) pd5 (sz hml) all0 sf00 (D d11_2) (k_v 5 rfl ?_)
  rintro _ _ ⟨rfl, rfl⟩ -
  refine go_icF 8 (D d11_5) rfl (by decide) ?_
  refine go_aload_n 9 (D d11_8) rfl rfl rfl ?_
  refine go_iload_n 10 (D d11_9) rfl rfl ?_
  have q1 : C8 c0 := by obtain ⟨_, _, _, _, _, _, q, _⟩ := id p1; exact q _ (by simp)
  refine callV0 (cells' := 0) (slots' := 0) (Wd := 0) (argsL := [(.int 0)]) (rest := []) (pay_chr G O0 (i := 0) (c := c0) p1 rfl (nb rfl) rfl (by decide) (by decide)) p1.exa (wk G 36) (wk G 37) (wk G 39) (wk G 39) (wk G 38) pd6 (sz hml) all0 sf00 (D d11_10) (k_v 13 rfl ?_)
  rintro _ _ ⟨rfl, rfl⟩ -
  refine go_ireturn hret hlk (nar_c8 q1) (by simp) (D d11_13) (by decide) (by decide) ⟨_, rfl, ⟨rfl, rfl⟩⟩ (Keep.refl h0 [])
def Q_at4_1 (Z : State) (a b : Addr) (k : ClassId) (c0 c1 c2 c3 e0 e1 e2 : Int32) (h0 : Heap) (xv : Value) (h : Heap) : Prop := (.int c1) = xv ∧ h0 = h
theorem c_at4_1 (G : GH Z a0) (a b : Addr) (k : ClassId) (c0 c1 c2 c3 e0 e1 e2 : Int32) (h0 : Heap) (O0 : Old Z Z.heap.size h0) (p1 : Str Z h0 a [c0, c1, c2, c3]) (p2 : Arv Z h0 b k (.char) (3 : Int32) [(.int e0), (.int e1), (.int e2)] (.int 0)) (p3 : C8 e0) (p4 : C8 e1) (p5 : C8 e2) : Con false [] l Z (⟨"com/example/hew/hew/MethodKindNounPinLaw", "at", "(Ljava/lang/String;[CI)C"⟩ : MethodName) method_5_code 4 (some .char) [] (rm4 4 0 0 53) #[(.ref a), (.ref b), (.int 1)] h0 [] (rvl (Q_at4_1 Z a b k c0 c1 c2 c3 e0 e1 e2 h0)) := by
  refine conN G (plainFor_of_name pn4) O0 (fun m => ef11 m a b (1 : Int32)) ?_
  intro _ _ _ m_ _ _ _ D hml hret hlk hnm
  refine go_iload_n 1 (D d11_0) rfl rfl ?_
  refine go_aload_n 2 (D d11_1) rfl rfl rfl ?_
  refine callV0 (cells' := 0) (slots' := 0) (Wd := 1) (argsL := []) (rest := [(.int 1)]) (pay_len G O0 (n := (4 : Int32)) p1 rfl (by decide) (by decide)) p1.exa (wk G 23) (wk G 24) (wk G 26) (wk G 26) (wk G 25) pd5 (sz hml) all0 sf00 (D d11_2) (k_v 5 rfl ?_)
  rintro _ _ ⟨rfl, rfl⟩ -
  refine go_icF 8 (D d11_5) rfl (by decide) ?_
  refine go_aload_n 9 (D d11_8) rfl rfl rfl ?_
  refine go_iload_n 10 (D d11_9) rfl rfl ?_
  have q1 : C8 c1 := by obtain ⟨_, _, _, _, _, _, q, _⟩ := id p1; exact q _ (by simp)
  refine callV0 (cells' := 0) (slots' := 0) (Wd := 0) (argsL := [(.int 1)]) (rest := []) (pay_chr G O0 (i := 1) (c := c1) p1 rfl (nb rfl) rfl (by decide) (by decide)) p1.exa (wk G 36) (wk G 37) (wk G 39) (wk G 39) (wk G 38) pd6 (sz hml) all0 sf00 (D d11_10) (k_v 13 rfl ?_)
  rintro _ _ ⟨rfl, rfl⟩ -
  refine go_ireturn hret hlk (nar_c8 q1) (by simp) (D d11_13) (by decide) (by decide) ⟨_, rfl, ⟨rfl, rfl⟩⟩ (Keep.refl h0 [])
def Q_at4_2 (Z : State) (a b : Addr) (k : ClassId) (c0 c1 c2 c3 e0 e1 e2 : Int32) (h0 : Heap) (xv : Value) (h : Heap) : Prop := (.int c2) = xv ∧ h0 = h
theorem c_at4_2 (G : GH Z a0) (a b : Addr) (k : ClassId) (c0 c1 c2 c3 e0 e1 e2 : Int32) (h0 : Heap) (O0 : Old Z Z.heap.size h0) (p1 : Str Z h0 a [c0, c1, c2, c3]) (p2 : Arv Z h0 b k (.char) (3 : Int32) [(.int e0), (.int e1), (.int e2)] (.int 0)) (p3 : C8 e0) (p4 : C8 e1) (p5 : C8 e2) : Con false [] l Z (⟨"com/example/hew/hew/MethodKindNounPinLaw", "at", "(Ljava/lang/String;[CI)C"⟩ : MethodName) method_5_code 4 (some .char) [] (rm4 4 0 0 53) #[(.ref a), (.ref b), (.int 2)] h0 [] (rvl (Q_at4_2 Z a b k c0 c1 c2 c3 e0 e1 e2 h0)) := by
  refine conN G (plainFor_of_name pn4) O0 (fun m => ef11 m a b (2 : Int32)) ?_
  intro _ _ _ m_ _ _ _ D hml hret hlk hnm
  refine go_iload_n 1 (D d11_0) rfl rfl ?_
  refine go_aload_n 2 (D d11_1) rfl rfl rfl ?_
  refine callV0 (cells' := 0) (slots' := 0) (Wd := 1) (argsL := []) (rest := [(.int 2)]) (pay_len G O0 (n := (4 : Int32)) p1 rfl (by decide) (by decide)) p1.exa (wk G 23) (wk G 24) (wk G 26) (wk G 26) (wk G 25) pd5 (sz hml) all0 sf00 (D d11_2) (k_v 5 rfl ?_)
  rintro _ _ ⟨rfl, rfl⟩ -
  refine go_icF 8 (D d11_5) rfl (by decide) ?_
  refine go_aload_n 9 (D d11_8) rfl rfl rfl ?_
  refine go_iload_n 10 (D d11_9) rfl rfl ?_
  have q1 : C8 c2 := by obtain ⟨_, _, _, _, _, _, q, _⟩ := id p1; exact q _ (by simp)
  refine callV0 (cells' := 0) (slots' := 0) (Wd := 0) (argsL := [(.int 2)]) (rest := []) (pay_chr G O0 (i := 2) (c := c2) p1 rfl (nb rfl) rfl (by decide) (by decide)) p1.exa (wk G 36) (wk G 37) (wk G 39) (wk G 39) (wk G 38) pd6 (sz hml) all0 sf00 (D d11_10) (k_v 13 rfl ?_)
  rintro _ _ ⟨rfl, rfl⟩ -
  refine go_ireturn hret hlk (nar_c8 q1) (by simp) (D d11_13) (by decide) (by decide) ⟨_, rfl, ⟨rfl, rfl⟩⟩ (Keep.refl h0 [])
def Q_at4_3 (Z : State) (a b : Addr) (k : ClassId) (c0 c1 c2 c3 e0 e1 e2 : Int32) (h0 : Heap) (xv : Value) (h : Heap) : Prop := (.int c3) = xv ∧ h0 = h
theorem c_at4_3 (G : GH Z a0) (a b : Addr) (k : ClassId) (c0 c1 c2 c3 e0 e1 e2 : Int32) (h0 : Heap) (O0 : Old Z Z.heap.size h0) (p1 : Str Z h0 a [c0, c1, c2, c3]) (p2 : Arv Z h0 b k (.char) (3 : Int32) [(.int e0), (.int e1), (.int e2)] (.int 0)) (p3 : C8 e0) (p4 : C8 e1) (p5 : C8 e2) : Con false [] l Z (⟨"com/example/hew/hew/MethodKindNounPinLaw", "at", "(Ljava/lang/String;[CI)C"⟩ : MethodName) method_5_code 4 (some .char) [] (rm4 4 0 0 53) #[(.ref a), (.ref b), (.int 3)] h0 [] (rvl (Q_at4_3 Z a b k c0 c1 c2 c3 e0 e1 e2 h0)) := by
  refine conN G (plainFor_of_name pn4) O0 (fun m => ef11 m a b (3 : Int32)) ?_
  intro _ _ _ m_ _ _ _ D hml hret hlk hnm
  refine go_iload_n 1 (D d11_0) rfl rfl ?_
  refine go_aload_n 2 (D d11_1) rfl rfl rfl ?_
  refine callV0 (cells' := 0) (slots' := 0) (Wd := 1) (argsL := []) (rest := [(.int 3)]) (pay_len G O0 (n := (4 : Int32)) p1 rfl (by decide) (by decide)) p1.exa (wk G 23) (wk G 24) (wk G 26) (wk G 26) (wk G 25) pd5 (sz hml) all0 sf00 (D d11_2) (k_v 5 rfl ?_)
  rintro _ _ ⟨rfl, rfl⟩ -
  refine go_icF 8 (D d11_5) rfl (by decide) ?_
  refine go_aload_n 9 (D d11_8) rfl rfl rfl ?_
  refine go_iload_n 10 (D d11_9) rfl rfl ?_
  have q1 : C8 c3 := by obtain ⟨_, _, _, _, _, _, q, _⟩ := id p1; exact q _ (by simp)
  refine callV0 (cells' := 0) (slots' := 0) (Wd := 0) (argsL := [(.int 3)]) (rest := []) (pay_chr G O0 (i := 3) (c := c3) p1 rfl (nb rfl) rfl (by decide) (by decide)) p1.exa (wk G 36) (wk G 37) (wk G 39) (wk G 39) (wk G 38) pd6 (sz hml) all0 sf00 (D d11_10) (k_v 13 rfl ?_)
  rintro _ _ ⟨rfl, rfl⟩ -
  refine go_ireturn hret hlk (nar_c8 q1) (by simp) (D d11_13) (by decide) (by decide) ⟨_, rfl, ⟨rfl, rfl⟩⟩ (Keep.refl h0 [])
def Q_at4_4 (Z : State) (a b : Addr) (k : ClassId) (c0 c1 c2 c3 e0 e1 e2 : Int32) (h0 : Heap) (xv : Value) (h : Heap) : Prop := (.int e0) = xv ∧ h0 = h
theorem c_at4_4 (G : GH Z a0) (a b : Addr) (k : ClassId) (c0 c1 c2 c3 e0 e1 e2 : Int32) (h0 : Heap) (O0 : Old Z Z.heap.size h0) (p1 : Str Z h0 a [c0, c1, c2, c3]) (p2 : Arv Z h0 b k (.char) (3 : Int32) [(.int e0), (.int e1), (.int e2)] (.int 0)) (p3 : C8 e0) (p4 : C8 e1) (p5 : C8 e2) : Con false [] l Z (⟨"com/example/hew/hew/MethodKindNounPinLaw", "at", "(Ljava/lang/String;[CI)C"⟩ : MethodName) method_5_code 4 (some .char) [] (rm4 2 0 0 26) #[(.ref a), (.ref b), (.int 4)] h0 [] (rvl (Q_at4_4 Z a b k c0 c1 c2 c3 e0 e1 e2 h0)) := by
  refine conN G (plainFor_of_name pn4) O0 (fun m => ef11 m a b (4 : Int32)) ?_
  intro _ _ _ m_ _ _ _ D hml hret hlk hnm
  refine go_iload_n 1 (D d11_0) rfl rfl ?_
  refine go_aload_n 2 (D d11_1) rfl rfl rfl ?_
  refine callV0 (cells' := 0) (slots' := 0) (Wd := 1) (argsL := []) (rest := [(.int 4)]) (pay_len G O0 (n := (4 : Int32)) p1 rfl (by decide) (by decide)) p1.exa (wk G 23) (wk G 24) (wk G 26) (wk G 26) (wk G 25) pd5 (sz hml) all0 sf00 (D d11_2) (k_v 5 rfl ?_)
  rintro _ _ ⟨rfl, rfl⟩ -
  refine go_icT 14 (D d11_5) (by decide) rfl (by decide) ?_
  refine go_iload_n 15 (D d11_14) rfl rfl ?_
  refine go_aload_n 16 (D d11_15) rfl rfl rfl ?_
  refine callV0 (cells' := 0) (slots' := 0) (Wd := 1) (argsL := []) (rest := [(.int 4)]) (pay_len G O0 (n := (4 : Int32)) p1 rfl (by decide) (by decide)) p1.exa (wk G 23) (wk G 24) (wk G 26) (wk G 26) (wk G 25) pd5 (sz hml) all0 sf00 (D d11_16) (k_v 19 rfl ?_)
  rintro _ _ ⟨rfl, rfl⟩ -
  refine go_isub 20 (z := (0 : Int32)) (D d11_19) rfl (by decide) ?_
  refine go_istore_n 21 (ls' := #[vr a, vr b, vi 4, vi 0]) (D d11_20) rfl rfl ?_
  refine go_iload_n 22 (D d11_21) rfl rfl ?_
  refine go_aload_n 23 (D d11_22) rfl rfl rfl ?_
  refine go_arraylength 24 p2 (D d11_23) rfl ?_
  refine go_icF 27 (D d11_24) rfl (by decide) ?_
  refine go_aload_n 28 (D d11_27) rfl rfl rfl ?_
  refine go_iload_n 29 (D d11_28) rfl rfl ?_
  refine go_caload 30 (i := 0) (v := (.int e0)) p2 (by decide) (by decide) rfl rfl (D d11_29) rfl ?_
  refine go_ireturn hret hlk (nar_c8 p3) (by simp) (D d11_30) (by decide) (by decide) ⟨_, rfl, ⟨rfl, rfl⟩⟩ (Keep.refl h0 [])
def Q_at4_5 (Z : State) (a b : Addr) (k : ClassId) (c0 c1 c2 c3 e0 e1 e2 : Int32) (h0 : Heap) (xv : Value) (h : Heap) : Prop := (.int e1) = xv ∧ h0 = h
theorem c_at4_5 (G : GH Z a0) (a b : Addr) (k : ClassId) (c0 c1 c2 c3 e0 e1 e2 : Int32) (h0 : Heap) (O0 : Old Z Z.heap.size h0) (p1 : Str Z h0 a [c0, c1, c2, c3]) (p2 : Arv Z h0 b k (.char) (3 : Int32) [(.int e0), (.int e1), (.int e2)] (.int 0)) (p3 : C8 e0) (p4 : C8 e1) (p5 : C8 e2) : Con false [] l Z (⟨"com/example/hew/hew/MethodKindNounPinLaw", "at", "(Ljava/lang/String;[CI)C"⟩ : MethodName) method_5_code 4 (some .char) [] (rm4 2 0 0 26) #[(.ref a), (.ref b), (.int 5)] h0 [] (rvl (Q_at4_5 Z a b k c0 c1 c2 c3 e0 e1 e2 h0)) := by
  refine conN G (plainFor_of_name pn4) O0 (fun m => ef11 m a b (5 : Int32)) ?_
  intro _ _ _ m_ _ _ _ D hml hret hlk hnm
  refine go_iload_n 1 (D d11_0) rfl rfl ?_
  refine go_aload_n 2 (D d11_1) rfl rfl rfl ?_
  refine callV0 (cells' := 0) (slots' := 0) (Wd := 1) (argsL := []) (rest := [(.int 5)]) (pay_len G O0 (n := (4 : Int32)) p1 rfl (by decide) (by decide)) p1.exa (wk G 23) (wk G 24) (wk G 26) (wk G 26) (wk G 25) pd5 (sz hml) all0 sf00 (D d11_2) (k_v 5 rfl ?_)
  rintro _ _ ⟨rfl, rfl⟩ -
  refine go_icT 14 (D d11_5) (by decide) rfl (by decide) ?_
  refine go_iload_n 15 (D d11_14) rfl rfl ?_
  refine go_aload_n 16 (D d11_15) rfl rfl rfl ?_
  refine callV0 (cells' := 0) (slots' := 0) (Wd := 1) (argsL := []) (rest := [(.int 5)]) (pay_len G O0 (n := (4 : Int32)) p1 rfl (by decide) (by decide)) p1.exa (wk G 23) (wk G 24) (wk G 26) (wk G 26) (wk G 25) pd5 (sz hml) all0 sf00 (D d11_16) (k_v 19 rfl ?_)
  rintro _ _ ⟨rfl, rfl⟩ -
  refine go_isub 20 (z := (1 : Int32)) (D d11_19) rfl (by decide) ?_
  refine go_istore_n 21 (ls' := #[vr a, vr b, vi 5, vi 1]) (D d11_20) rfl rfl ?_
  refine go_iload_n 22 (D d11_21) rfl rfl ?_
  refine go_aload_n 23 (D d11_22) rfl rfl rfl ?_
  refine go_arraylength 24 p2 (D d11_23) rfl ?_
  refine go_icF 27 (D d11_24) rfl (by decide) ?_
  refine go_aload_n 28 (D d11_27) rfl rfl rfl ?_
  refine go_iload_n 29 (D d11_28) rfl rfl ?_
  refine go_caload 30 (i := 1) (v := (.int e1)) p2 (by decide) (by decide) rfl rfl (D d11_29) rfl ?_
  refine go_ireturn hret hlk (nar_c8 p4) (by simp) (D d11_30) (by decide) (by decide) ⟨_, rfl, ⟨rfl, rfl⟩⟩ (Keep.refl h0 [])
def Q_at4_6 (Z : State) (a b : Addr) (k : ClassId) (c0 c1 c2 c3 e0 e1 e2 : Int32) (h0 : Heap) (xv : Value) (h : Heap) : Prop := (.int e2) = xv ∧ h0 = h
theorem c_at4_6 (G : GH Z a0) (a b : Addr) (k : ClassId) (c0 c1 c2 c3 e0 e1 e2 : Int32) (h0 : Heap) (O0 : Old Z Z.heap.size h0) (p1 : Str Z h0 a [c0, c1, c2, c3]) (p2 : Arv Z h0 b k (.char) (3 : Int32) [(.int e0), (.int e1), (.int e2)] (.int 0)) (p3 : C8 e0) (p4 : C8 e1) (p5 : C8 e2) : Con false [] l Z (⟨"com/example/hew/hew/MethodKindNounPinLaw", "at", "(Ljava/lang/String;[CI)C"⟩ : MethodName) method_5_code 4 (some .char) [] (rm4 2 0 0 26) #[(.ref a), (.ref b), (.int 6)] h0 [] (rvl (Q_at4_6 Z a b k c0 c1 c2 c3 e0 e1 e2 h0)) := by
  refine conN G (plainFor_of_name pn4) O0 (fun m => ef11 m a b (6 : Int32)) ?_
  intro _ _ _ m_ _ _ _ D hml hret hlk hnm
  refine go_iload_n 1 (D d11_0) rfl rfl ?_
  refine go_aload_n 2 (D d11_1) rfl rfl rfl ?_
  refine callV0 (cells' := 0) (slots' := 0) (Wd := 1) (argsL := []) (rest := [(.int 6)]) (pay_len G O0 (n := (4 : Int32)) p1 rfl (by decide) (by decide)) p1.exa (wk G 23) (wk G 24) (wk G 26) (wk G 26) (wk G 25) pd5 (sz hml) all0 sf00 (D d11_2) (k_v 5 rfl ?_)
  rintro _ _ ⟨rfl, rfl⟩ -
  refine go_icT 14 (D d11_5) (by decide) rfl (by decide) ?_
  refine go_iload_n 15 (D d11_14) rfl rfl ?_
  refine go_aload_n 16 (D d11_15) rfl rfl rfl ?_
  refine callV0 (cells' := 0) (slots' := 0) (Wd := 1) (argsL := []) (rest := [(.int 6)]) (pay_len G O0 (n := (4 : Int32)) p1 rfl (by decide) (by decide)) p1.exa (wk G 23) (wk G 24) (wk G 26) (wk G 26) (wk G 25) pd5 (sz hml) all0 sf00 (D d11_16) (k_v 19 rfl ?_)
  rintro _ _ ⟨rfl, rfl⟩ -
  refine go_isub 20 (z := (2 : Int32)) (D d11_19) rfl (by decide) ?_
  refine go_istore_n 21 (ls' := #[vr a, vr b, vi 6, vi 2]) (D d11_20) rfl rfl ?_
  refine go_iload_n 22 (D d11_21) rfl rfl ?_
  refine go_aload_n 23 (D d11_22) rfl rfl rfl ?_
  refine go_arraylength 24 p2 (D d11_23) rfl ?_
  refine go_icF 27 (D d11_24) rfl (by decide) ?_
  refine go_aload_n 28 (D d11_27) rfl rfl rfl ?_
  refine go_iload_n 29 (D d11_28) rfl rfl ?_
  refine go_caload 30 (i := 2) (v := (.int e2)) p2 (by decide) (by decide) rfl rfl (D d11_29) rfl ?_
  refine go_ireturn hret hlk (nar_c8 p5) (by simp) (D d11_30) (by decide) (by decide) ⟨_, rfl, ⟨rfl, rfl⟩⟩ (Keep.refl h0 [])
def Q_at4_7 (Z : State) (a b : Addr) (k : ClassId) (c0 c1 c2 c3 e0 e1 e2 : Int32) (h0 : Heap) (xv : Value) (h : Heap) : Prop := (.int 120) = xv ∧ h0 = h
theorem c_at4_7 (G : GH Z a0) (a b : Addr) (k : ClassId) (c0 c1 c2 c3 e0 e1 e2 : Int32) (h0 : Heap) (O0 : Old Z Z.heap.size h0) (p1 : Str Z h0 a [c0, c1, c2, c3]) (p2 : Arv Z h0 b k (.char) (3 : Int32) [(.int e0), (.int e1), (.int e2)] (.int 0)) (p3 : C8 e0) (p4 : C8 e1) (p5 : C8 e2) : Con false [] l Z (⟨"com/example/hew/hew/MethodKindNounPinLaw", "at", "(Ljava/lang/String;[CI)C"⟩ : MethodName) method_5_code 4 (some .char) [] (rm4 2 0 0 26) #[(.ref a), (.ref b), (.int 7)] h0 [] (rvl (Q_at4_7 Z a b k c0 c1 c2 c3 e0 e1 e2 h0)) := by
  refine conN G (plainFor_of_name pn4) O0 (fun m => ef11 m a b (7 : Int32)) ?_
  intro _ _ _ m_ _ _ _ D hml hret hlk hnm
  refine go_iload_n 1 (D d11_0) rfl rfl ?_
  refine go_aload_n 2 (D d11_1) rfl rfl rfl ?_
  refine callV0 (cells' := 0) (slots' := 0) (Wd := 1) (argsL := []) (rest := [(.int 7)]) (pay_len G O0 (n := (4 : Int32)) p1 rfl (by decide) (by decide)) p1.exa (wk G 23) (wk G 24) (wk G 26) (wk G 26) (wk G 25) pd5 (sz hml) all0 sf00 (D d11_2) (k_v 5 rfl ?_)
  rintro _ _ ⟨rfl, rfl⟩ -
  refine go_icT 14 (D d11_5) (by decide) rfl (by decide) ?_
  refine go_iload_n 15 (D d11_14) rfl rfl ?_
  refine go_aload_n 16 (D d11_15) rfl rfl rfl ?_
  refine callV0 (cells' := 0) (slots' := 0) (Wd := 1) (argsL := []) (rest := [(.int 7)]) (pay_len G O0 (n := (4 : Int32)) p1 rfl (by decide) (by decide)) p1.exa (wk G 23) (wk G 24) (wk G 26) (wk G 26) (wk G 25) pd5 (sz hml) all0 sf00 (D d11_16) (k_v 19 rfl ?_)
  rintro _ _ ⟨rfl, rfl⟩ -
  refine go_isub 20 (z := (3 : Int32)) (D d11_19) rfl (by decide) ?_
  refine go_istore_n 21 (ls' := #[vr a, vr b, vi 7, vi 3]) (D d11_20) rfl rfl ?_
  refine go_iload_n 22 (D d11_21) rfl rfl ?_
  refine go_aload_n 23 (D d11_22) rfl rfl rfl ?_
  refine go_arraylength 24 p2 (D d11_23) rfl ?_
  refine go_icT 31 (D d11_24) (by decide) rfl (by decide) ?_
  refine go_bipush 33 (v := 120) (D d11_31) rfl rfl ?_
  refine go_ireturn hret hlk rfl (by simp) (D d11_33) (by decide) (by decide) ⟨_, rfl, ⟨rfl, rfl⟩⟩ (Keep.refl h0 [])
def Q_at4_8 (Z : State) (a b : Addr) (k : ClassId) (c0 c1 c2 c3 e0 e1 e2 : Int32) (h0 : Heap) (xv : Value) (h : Heap) : Prop := (.int 120) = xv ∧ h0 = h
theorem c_at4_8 (G : GH Z a0) (a b : Addr) (k : ClassId) (c0 c1 c2 c3 e0 e1 e2 : Int32) (h0 : Heap) (O0 : Old Z Z.heap.size h0) (p1 : Str Z h0 a [c0, c1, c2, c3]) (p2 : Arv Z h0 b k (.char) (3 : Int32) [(.int e0), (.int e1), (.int e2)] (.int 0)) (p3 : C8 e0) (p4 : C8 e1) (p5 : C8 e2) : Con false [] l Z (⟨"com/example/hew/hew/MethodKindNounPinLaw", "at", "(Ljava/lang/String;[CI)C"⟩ : MethodName) method_5_code 4 (some .char) [] (rm4 2 0 0 26) #[(.ref a), (.ref b), (.int 8)] h0 [] (rvl (Q_at4_8 Z a b k c0 c1 c2 c3 e0 e1 e2 h0)) := by
  refine conN G (plainFor_of_name pn4) O0 (fun m => ef11 m a b (8 : Int32)) ?_
  intro _ _ _ m_ _ _ _ D hml hret hlk hnm
  refine go_iload_n 1 (D d11_0) rfl rfl ?_
  refine go_aload_n 2 (D d11_1) rfl rfl rfl ?_
  refine callV0 (cells' := 0) (slots' := 0) (Wd := 1) (argsL := []) (rest := [(.int 8)]) (pay_len G O0 (n := (4 : Int32)) p1 rfl (by decide) (by decide)) p1.exa (wk G 23) (wk G 24) (wk G 26) (wk G 26) (wk G 25) pd5 (sz hml) all0 sf00 (D d11_2) (k_v 5 rfl ?_)
  rintro _ _ ⟨rfl, rfl⟩ -
  refine go_icT 14 (D d11_5) (by decide) rfl (by decide) ?_
  refine go_iload_n 15 (D d11_14) rfl rfl ?_
  refine go_aload_n 16 (D d11_15) rfl rfl rfl ?_
  refine callV0 (cells' := 0) (slots' := 0) (Wd := 1) (argsL := []) (rest := [(.int 8)]) (pay_len G O0 (n := (4 : Int32)) p1 rfl (by decide) (by decide)) p1.exa (wk G 23) (wk G 24) (wk G 26) (wk G 26) (wk G 25) pd5 (sz hml) all0 sf00 (D d11_16) (k_v 19 rfl ?_)
  rintro _ _ ⟨rfl, rfl⟩ -
  refine go_isub 20 (z := (4 : Int32)) (D d11_19) rfl (by decide) ?_
  refine go_istore_n 21 (ls' := #[vr a, vr b, vi 8, vi 4]) (D d11_20) rfl rfl ?_
  refine go_iload_n 22 (D d11_21) rfl rfl ?_
  refine go_aload_n 23 (D d11_22) rfl rfl rfl ?_
  refine go_arraylength 24 p2 (D d11_23) rfl ?_
  refine go_icT 31 (D d11_24) (by decide) rfl (by decide) ?_
  refine go_bipush 33 (v := 120) (D d11_31) rfl rfl ?_
  refine go_ireturn hret hlk rfl (by simp) (D d11_33) (by decide) (by decide) ⟨_, rfl, ⟨rfl, rfl⟩⟩ (Keep.refl h0 [])
theorem ef12 (m : MethodId) (v0 : Addr) (v1 : Int32) : entryFrame m #[(.ref v0), (.int v1)] 2 = mkF m 0 #[.val (.ref v0), .val (.int v1)] [] := by first | (simp [entryFrame, mkF, argsToLocals, Value.category]; done) | rfl
def Q_take9_4 (Z : State) (a : Addr) (k : ClassId) (e0 e1 e2 e3 e4 e5 e6 e7 e8 : Int32) (h0 : Heap) (xv : Value) (h : Heap) : Prop := ∃ (r : Addr), (.ref r) = xv ∧ h0.size ≤ r ∧ Str Z h r [e0, e1, e2, e3]
theorem c_take9_4 (G : GH Z a0) (a : Addr) (k : ClassId) (e0 e1 e2 e3 e4 e5 e6 e7 e8 : Int32) (h0 : Heap) (O0 : Old Z Z.heap.size h0) (p1 : Arv Z h0 a k (.char) (9 : Int32) [(.int e0), (.int e1), (.int e2), (.int e3), (.int e4), (.int e5), (.int e6), (.int e7), (.int e8)] (.int 0)) (p2 : C8 e0) (p3 : C8 e1) (p4 : C8 e2) (p5 : C8 e3) : Con false [] l Z (⟨"com/example/hew/hew/MethodKindNounPinLaw", "take", "([CI)Ljava/lang/String;"⟩ : MethodName) method_6_code 2 (some (.object "java/lang/String")) [] (rm4 4 3 12 66) #[(.ref a), (.int 4)] h0 [] (rvl (Q_take9_4 Z a k e0 e1 e2 e3 e4 e5 e6 e7 e8 h0)) := by
  refine conN G (plainFor_of_name pn4) O0 (fun m => ef12 m a (4 : Int32)) ?_
  intro _ _ _ m_ _ _ _ D hml hret hlk hnm
  refine go_iload_n 1 (D d12_0) rfl rfl ?_
  refine go_ifT 15 (D d12_1) (by decide) rfl (by decide) ?_
  refine go_iload_n 16 (D d12_15) rfl rfl ?_
  refine go_iconst 17 (v := 1) (D d12_16) rfl rfl ?_
  refine go_icT 37 (D d12_17) (by decide) rfl (by decide) ?_
  refine go_iload_n 38 (D d12_37) rfl rfl ?_
  refine go_iconst 39 (v := 2) (D d12_38) rfl rfl ?_
  refine go_icT 65 (D d12_39) (by decide) rfl (by decide) ?_
  refine go_iload_n 66 (D d12_65) rfl rfl ?_
  refine go_iconst 67 (v := 3) (D d12_66) rfl rfl ?_
  refine go_icT 99 (D d12_67) (by decide) rfl (by decide) ?_
  refine go_iload_n 100 (D d12_99) rfl rfl ?_
  refine go_iconst 101 (v := 4) (D d12_100) rfl rfl ?_
  refine go_icF 104 (D d12_101) rfl (by decide) ?_
  refine go_newO 107 (cells' := 1) (slots' := 4) (wk G 61) (wk G 13) (wk G 12) (D d12_104) rfl rfl rfl (by decide) (by decide) (fun h1 a2 g3 X4 E5 D6 U7 => ?_)
  refine go_dup 108 (D d12_107) rfl rfl ?_
  refine go_iconst 109 (v := 4) (D d12_108) rfl rfl ?_
  refine go_newP 111 (cells' := 2) (slots' := 8) (cap := 4) (vs := [(.int 0), (.int 0), (.int 0), (.int 0)]) (ty := .char) (dv := .int 0) (wk G 19) rfl rfl (D d12_109) rfl (by decide) rfl (by decide) rfl rfl rfl (by decide) (by decide) (fun h8 a9 k13 g10 X11 A12 => ?_)
  refine go_dup 112 (D d12_111) rfl rfl ?_
  refine go_iconst 113 (v := 0) (D d12_112) rfl rfl ?_
  refine go_aload_n 114 (D d12_113) rfl rfl rfl ?_
  refine go_iconst 115 (v := 0) (D d12_114) rfl rfl ?_
  have K14 : Keep h0 h1 [] := ((Keep.refl h0 []).ext X4)
  have K15 : Keep h0 h8 [] := (K14.ext X11)
  have A16 := (p1.keep K15 nin0)
  refine go_caload 116 (i := 0) (v := (.int e0)) A16 (by decide) (by decide) rfl rfl (D d12_115) rfl ?_
  refine go_stC 117 (i := 0) (x' := e0) (vs' := [(.int e0), (.int 0), (.int 0), (.int 0)]) A12 (Nat.le_trans O0.2.1 (Nat.le_trans K14.1 (Nat.le_of_eq g10))) (by decide) (by decide) rfl (nb rfl) (i2c_c8 p2) rfl (D d12_116) rfl (fun h17 W18 A19 => ?_)
  refine go_dup 118 (D d12_117) rfl rfl ?_
  refine go_iconst 119 (v := 1) (D d12_118) rfl rfl ?_
  refine go_aload_n 120 (D d12_119) rfl rfl rfl ?_
  refine go_iconst 121 (v := 1) (D d12_120) rfl rfl ?_
  have A20 := (A16.other W18 (Nat.ne_of_lt (Nat.lt_of_lt_of_le (Nat.lt_of_lt_of_le p1.lt K14.1) (Nat.le_of_eq g10))))
  refine go_caload 122 (i := 1) (v := (.int e1)) A20 (by decide) (by decide) rfl rfl (D d12_121) rfl ?_
  refine go_stC 123 (i := 1) (x' := e1) (vs' := [(.int e0), (.int e1), (.int 0), (.int 0)]) A19 (Nat.le_trans O0.2.1 (Nat.le_trans K14.1 (Nat.le_of_eq g10))) (by decide) (by decide) rfl (nb rfl) (i2c_c8 p3) rfl (D d12_122) rfl (fun h21 W22 A23 => ?_)
  refine go_dup 124 (D d12_123) rfl rfl ?_
  refine go_iconst 125 (v := 2) (D d12_124) rfl rfl ?_
  refine go_aload_n 126 (D d12_125) rfl rfl rfl ?_
  refine go_iconst 127 (v := 2) (D d12_126) rfl rfl ?_
  have A24 := (A20.other W22 (Nat.ne_of_lt (Nat.lt_of_lt_of_le (Nat.lt_of_lt_of_le p1.lt K14.1) (Nat.le_of_eq g10))))
  refine go_caload 128 (i := 2) (v := (.int e2)) A24 (by decide) (by decide) rfl rfl (D d12_127) rfl ?_
  refine go_stC 129 (i := 2) (x' := e2) (vs' := [(.int e0), (.int e1), (.int e2), (.int 0)]) A23 (Nat.le_trans O0.2.1 (Nat.le_trans K14.1 (Nat.le_of_eq g10))) (by decide) (by decide) rfl (nb rfl) (i2c_c8 p4) rfl (D d12_128) rfl (fun h25 W26 A27 => ?_)
  refine go_dup 130 (D d12_129) rfl rfl ?_
  refine go_iconst 131 (v := 3) (D d12_130) rfl rfl ?_
  refine go_aload_n 132 (D d12_131) rfl rfl rfl ?_
  refine go_iconst 133 (v := 3) (D d12_132) rfl rfl ?_
  have A28 := (A24.other W26 (Nat.ne_of_lt (Nat.lt_of_lt_of_le (Nat.lt_of_lt_of_le p1.lt K14.1) (Nat.le_of_eq g10))))
  refine go_caload 134 (i := 3) (v := (.int e3)) A28 (by decide) (by decide) rfl rfl (D d12_133) rfl ?_
  refine go_stC 135 (i := 3) (x' := e3) (vs' := [(.int e0), (.int e1), (.int e2), (.int e3)]) A27 (Nat.le_trans O0.2.1 (Nat.le_trans K14.1 (Nat.le_of_eq g10))) (by decide) (by decide) rfl (nb rfl) (i2c_c8 p5) rfl (D d12_134) rfl (fun h29 W30 A31 => ?_)
  have K32 : Keep h1 h8 [] := ((Keep.refl h1 []).ext X11)
  have K33 : Keep h1 h17 [] := (K32.wr W18 (Or.inr (Nat.le_of_eq g10)))
  have K34 : Keep h1 h21 [] := (K33.wr W22 (Or.inr (Nat.le_of_eq g10)))
  have K35 : Keep h1 h25 [] := (K34.wr W26 (Or.inr (Nat.le_of_eq g10)))
  have K36 : Keep h1 h29 [] := (K35.wr W30 (Or.inr (Nat.le_of_eq g10)))
  have E37 := (E5.keep K36)
  have F38 := D6 (Or.inr (wk G 15)) (ty := (.array .byte)) (by decide)
  have F39 := (F38.keep K36 nin0)
  have F40 := D6 (Or.inr (wk G 16)) (ty := .byte) (by decide)
  have F41 := (F40.keep K36 nin0)
  refine go_old (fun O42 => ?_)
  refine callI0 (cells' := 3) (slots' := 12) (Wd := 1) (argsL := [(.ref a9)]) (rest := [(.ref a2)]) (pay_new G O42 (cs := [e0, e1, e2, e3]) (n := 4) (Nat.le_trans O0.2.1 (Nat.le_of_eq g3)) E37 F39 F41 A31 rfl rfl (by decide) (by decide) (c8c p2 (c8c p3 (c8c p4 (c8c p5 c8n)))) (by decide) (by decide)) rfl (wk G 62) (wk G 63) (wk G 64) pd8 (sz hml) (allS (Nat.le_trans O0.2.1 (Nat.le_of_eq g3)) all0) (fun _ hal => (sfS safe_nil sf0)) (D d12_135) (k_n 138 rfl ?_)
  rintro h43 S45 K44
  have K46 : Keep h0 h17 [] := (K15.wr W18 (Or.inr (Nat.le_trans K14.1 (Nat.le_of_eq g10))))
  have K47 : Keep h0 h21 [] := (K46.wr W22 (Or.inr (Nat.le_trans K14.1 (Nat.le_of_eq g10))))
  have K48 : Keep h0 h25 [] := (K47.wr W26 (Or.inr (Nat.le_trans K14.1 (Nat.le_of_eq g10))))
  have K49 : Keep h0 h29 [] := (K48.wr W30 (Or.inr (Nat.le_trans K14.1 (Nat.le_of_eq g10))))
  have K50 : Keep h0 h43 [] := (K49.trans K44 (allS (Or.inr (Nat.le_of_eq g3)) all0))
  refine go_areturn hret hlk rfl rfl (D d12_138) (by decide) (by decide) ⟨_, rfl, ⟨a2, rfl, (Nat.le_of_eq g3), S45⟩⟩ K50
def Q_take3_0 (Z : State) (a : Addr) (k : ClassId) (e0 e1 e2 : Int32) (h0 : Heap) (xv : Value) (h : Heap) : Prop := ∃ (r : Addr), (.ref r) = xv ∧ h0.size ≤ r ∧ Str Z h r []
theorem c_take3_0 (G : GH Z a0) (a : Addr) (k : ClassId) (e0 e1 e2 : Int32) (h0 : Heap) (O0 : Old Z Z.heap.size h0) (p1 : Arv Z h0 a k (.char) (3 : Int32) [(.int e0), (.int e1), (.int e2)] (.int 0)) : Con true EL1 l Z (⟨"com/example/hew/hew/MethodKindNounPinLaw", "take", "([CI)Ljava/lang/String;"⟩ : MethodName) method_6_code 2 (some (.object "java/lang/String")) [] (rm4 3 6 12 43) #[(.ref a), (.int 0)] h0 [] (rvl (Q_take3_0 Z a k e0 e1 e2 h0)) := by
  refine conW G (plainFor_of_name pn4) O0 (fun m => ef12 m a (0 : Int32)) ?_
  intro _ _ _ m_ _ _ _ D hml hret hlk hnm
  refine go_iload_n 1 (D d12_0) rfl rfl ?_
  refine go_ifF 4 (D d12_1) rfl (by decide) ?_
  refine go_newO 7 (cells' := 1) (slots' := 4) (wk G 61) (wk G 13) (wk G 12) (D d12_4) rfl rfl rfl (by decide) (by decide) (fun h1 a2 g3 X4 E5 D6 U7 => ?_)
  refine go_dup 8 (D d12_7) rfl rfl ?_
  refine go_iconst 9 (v := 0) (D d12_8) rfl rfl ?_
  refine go_newP 11 (cells' := 2) (slots' := 4) (cap := 0) (vs := []) (ty := .char) (dv := .int 0) (wk G 19) rfl rfl (D d12_9) rfl (by decide) rfl (by decide) rfl rfl rfl (by decide) (by decide) (fun h8 a9 k13 g10 X11 A12 => ?_)
  have K14 : Keep h1 h8 [] := ((Keep.refl h1 []).ext X11)
  have E15 := (E5.keep K14)
  have F16 := D6 (Or.inr (wk G 15)) (ty := (.array .byte)) (by decide)
  have F17 := (F16.keep K14 nin0)
  have F18 := D6 (Or.inr (wk G 16)) (ty := .byte) (by decide)
  have F19 := (F18.keep K14 nin0)
  refine go_old (fun O20 => ?_)
  refine callIW0 rfl (cells' := 6) (slots' := 12) (Wd := 1) (argsL := [(.ref a9)]) (rest := [(.ref a2)]) (payW_of (a0 := a0) (c_new0 l G a2 a9 k13 h8 O20 E15 (Nat.le_trans O0.2.1 (Nat.le_of_eq g3)) F17 F19 A12) (wk G 64) (wk G 12) (ew1 G)) rfl (wk G 62) (wk G 63) (wk G 64) pd8 (sz hml) (allS (Nat.le_trans O0.2.1 (Nat.le_of_eq g3)) all0) (D d12_11) (k_n 14 rfl ?_)
  rintro  h21 f23 K22
  have K24 : Keep h0 h1 [] := ((Keep.refl h0 []).ext X4)
  have K25 : Keep h0 h8 [] := (K24.ext X11)
  have K26 : Keep h0 h21 [] := (K25.trans K22 (allS (Or.inr (Nat.le_of_eq g3)) all0))
  refine go_areturn hret hlk rfl rfl (D d12_14) (by decide) (by decide) ⟨_, rfl, ⟨a2, rfl, (Nat.le_of_eq g3), f23⟩⟩ K26
def Q_noun4_4 (Z : State) (a b p : Addr) (g0 g1 g2 g3 c0 c1 c2 c3 : Int32) (h0 : Heap) (xv : Value) (h : Heap) : Prop := ∃ (r : Addr), (.ref r) = xv ∧ Str Z h r []
def Q_subi4_4 (Z : State) (a : Addr) (c0 c1 c2 c3 : Int32) (h0 : Heap) (xv : Value) (h : Heap) : Prop := ∃ (r : Addr), (.ref r) = xv ∧ Str Z h r []
theorem ef13 (m : MethodId) (v0 : Addr) (v1 v2 : Int32) : entryFrame m #[(.ref v0), (.int v1), (.int v2)] 5 = mkF m 0 #[.val (.ref v0), .val (.int v1), .val (.int v2), .unset, .unset] [] := by first | (simp [entryFrame, mkF, argsToLocals, Value.category]; done) | rfl
def Q_sub4_4_4 (Z : State) (a : Addr) (c0 c1 c2 c3 : Int32) (h0 : Heap) (xv : Value) (h : Heap) : Prop := ∃ (r : Addr), (.ref r) = xv ∧ Str Z h r []
theorem ef14 (m : MethodId) (v0 : Addr) (v1 v2 : Int32) : entryFrame m #[(.ref v0), (.int v1), (.int v2)] 3 = mkF m 0 #[.val (.ref v0), .val (.int v1), .val (.int v2)] [] := by first | (simp [entryFrame, mkF, argsToLocals, Value.category]; done) | rfl
def Q_news4_0_4 (Z : State) (t : Addr) (k : ClassId) (c0 c1 c2 c3 : Int32) (h0 : Heap) (xv : Value) (h : Heap) : Prop := ∃ (r : Addr), (.ref r) = xv ∧ Str Z h r []
theorem c_news4_0_4 (G : GH Z a0) (t : Addr) (k : ClassId) (c0 c1 c2 c3 : Int32) (h0 : Heap) (O0 : Old Z Z.heap.size h0) (p1 : Arv Z h0 t k (.byte) (4 : Int32) [(.int (c0).toInt8.toInt32), (.int (c1).toInt8.toInt32), (.int (c2).toInt8.toInt32), (.int (c3).toInt8.toInt32)] (.int 0)) (p2 : C8 c0) (p3 : C8 c1) (p4 : C8 c2) (p5 : C8 c3) : Con true EL1 l Z (⟨"java/lang/StringLatin1", "newString", "([BII)Ljava/lang/String;"⟩ : MethodName) jdk_43_method_47_code 3 (some (.object "java/lang/String")) [] (rm4 0 2 4 0) #[(.ref t), (.int 4), (.int 0)] h0 [] (rvl (Q_news4_0_4 Z t k c0 c1 c2 c3 h0)) := by
  refine conW G (plainFor_of_name pn5) O0 (fun m => ef14 m t (4 : Int32) (0 : Int32)) ?_
  intro _ _ _ m_ _ _ _ D hml hret hlk hnm
  refine go_iload_n 1 (D d16_0) rfl rfl ?_
  refine go_ifF 4 (D d16_1) rfl (by decide) ?_
  refine go_ldcH 6 (cells' := 2) (slots' := 4) (n := 0) (vs := (([] : List Int32).map fun c => c.toInt8.toInt32).map Value.int) (z := (0 : Int32)) rfl (by decide) (wk G 145) (wS G) (by decide +kernel) (by decide) (by decide) (by decide) (by decide) (D d16_4) rfl rfl rfl (by decide) (by decide) (fun h1 a2 t4 k5 X3 E6 F7 F8 A9 => ?_)
  have S10 : Str Z h1 a2 [] := ⟨t4, k5, E6, F8, F7, A9, by decide, by decide⟩
  have K11 : Keep h0 h1 [] := ((Keep.refl h0 []).ext X3)
  refine go_areturn hret hlk rfl rfl (D d16_6) (by decide) (by decide) ⟨_, rfl, ⟨a2, rfl, S10⟩⟩ K11
theorem c_sub4_4_4 (G : GH Z a0) (a : Addr) (c0 c1 c2 c3 : Int32) (h0 : Heap) (O0 : Old Z Z.heap.size h0) (p1 : Str Z h0 a [c0, c1, c2, c3]) : Con true EL1 l Z (⟨"java/lang/String", "substring", "(II)Ljava/lang/String;"⟩ : MethodName) jdk_42_method_92_code 5 (some (.object "java/lang/String")) [] (rm4 2 2 4 29) #[(.ref a), (.int 4), (.int 4)] h0 [] (rvl (Q_sub4_4_4 Z a c0 c1 c2 c3 h0)) := by
  refine conW G (plainFor_of_name pn1) O0 (fun m => ef13 m a (4 : Int32) (4 : Int32)) ?_
  intro _ _ _ m_ _ _ _ D hml hret hlk hnm
  have q1 : C8 c0 := by obtain ⟨_, _, _, _, _, _, q, _⟩ := id p1; exact q _ (by simp)
  have q2 : C8 c1 := by obtain ⟨_, _, _, _, _, _, q, _⟩ := id p1; exact q _ (by simp)
  have q3 : C8 c2 := by obtain ⟨_, _, _, _, _, _, q, _⟩ := id p1; exact q _ (by simp)
  have q4 : C8 c3 := by obtain ⟨_, _, _, _, _, _, q, _⟩ := id p1; exact q _ (by simp)
  refine go_aload_n 1 (D d15_0) rfl rfl rfl ?_
  refine callV0 (cells' := 0) (slots' := 0) (Wd := 0) (argsL := []) (rest := []) (pay_len G O0 (n := (4 : Int32)) p1 rfl (by decide) (by decide)) p1.exa (wk G 95) (wk G 24) (wk G 26) (wk G 26) (wk G 25) pd5 (sz hml) all0 sf00 (D d15_1) (k_v 4 rfl ?_)
  rintro _ _ ⟨rfl, rfl⟩ -
  refine go_istore_n 5 (ls' := #[vr a, vi 4, vi 4, vi 4, un]) (D d15_4) rfl rfl ?_
  refine go_iload_n 6 (D d15_5) rfl rfl ?_
  refine go_iload_n 7 (D d15_6) rfl rfl ?_
  refine go_iload_n 8 (D d15_7) rfl rfl ?_
  refine callS0 (cells' := 0) (slots' := 0) (Wd := 0) (argsL := [(.int 4), (.int 4), (.int 4)]) (rest := []) (pay_of (a0 := a0) (c_cbbe l G (4 : Int32) (4 : Int32) (4 : Int32) h0 O0 (by decide) (by decide) (by decide)) (wk G 103) (wk G 12)) (wk G 101) (wk G 102) (wk G 12) (wk G 103) pd10 (sz hml) all0 sf00 (D d15_8) (k_n 11 rfl ?_)
  rintro  h5 rfl K6
  refine go_iload_n 12 (D d15_11) rfl rfl ?_
  refine go_ifT 22 (D d15_12) (by decide) rfl (by decide) ?_
  refine go_iload_n 23 (D d15_22) rfl rfl ?_
  refine go_iload_n 24 (D d15_23) rfl rfl ?_
  refine go_isub 25 (z := (0 : Int32)) (D d15_24) rfl (by decide) ?_
  refine go_istore 27 (ls' := #[vr a, vi 4, vi 4, vi 4, vi 0]) (D d15_25) rfl rfl ?_
  refine go_aload_n 28 (D d15_27) rfl rfl rfl ?_
  obtain ⟨t7, k8, E9, F10, F11, A12, B13, L14⟩ := id p1
  refine callV0 (cells' := 0) (slots' := 0) (Wd := 0) (argsL := []) (rest := []) (pay_of (a0 := a0) (c_islatin l G a h0 O0 F11) (wk G 45) (wk G 12)) E9 (wk G 41) (wk G 42) (wk G 44) (wk G 44) (wk G 43) pd11 (sz hml) all0 sf00 (D d15_28) (k_v 31 rfl ?_)
  rintro _ h15 ⟨rfl, rfl⟩ K16
  refine go_ifF 34 (D d15_31) rfl (by decide) ?_
  refine go_aload_n 35 (D d15_34) rfl rfl rfl ?_
  refine go_getF 38 (wk G 28) Via.refl F10 (D d15_35) rfl ?_
  refine go_iload_n 39 (D d15_38) rfl rfl ?_
  refine go_iload 41 (D d15_39) rfl rfl ?_
  refine callSW0 rfl (cells' := 2) (slots' := 4) (Wd := 0) (argsL := [(.ref t7), (.int 4), (.int 0)]) (rest := []) (payW_of (a0 := a0) (c_news4_0_4 l G t7 k8 c0 c1 c2 c3 h0 O0 A12 q1 q2 q3 q4) (wk G 109) (wk G 48) (ew1 G)) (wk G 107) (wk G 108) (wk G 48) (wk G 109) pd12 (sz hml) all0 (D d15_41) (k_v 44 rfl ?_)
  rintro _ h17 ⟨r19, rfl, f20⟩ K18
  refine go_goto 57 (D d15_44) (by decide) rfl ?_
  have K21 : Keep h0 h17 [] := ((Keep.refl h0 []).trans K18 all0)
  refine go_areturn hret hlk rfl rfl (D d15_57) (by decide) (by decide) ⟨_, rfl, ⟨r19, rfl, f20⟩⟩ K21
theorem c_subi4_4 (G : GH Z a0) (a : Addr) (c0 c1 c2 c3 : Int32) (h0 : Heap) (O0 : Old Z Z.heap.size h0) (p1 : Str Z h0 a [c0, c1, c2, c3]) : Con true EL1 l Z (⟨"java/lang/String", "substring", "(I)Ljava/lang/String;"⟩ : MethodName) jdk_42_method_91_code 2 (some (.object "java/lang/String")) [] (rm4 3 2 4 45) #[(.ref a), (.int 4)] h0 [] (rvl (Q_subi4_4 Z a c0 c1 c2 c3 h0)) := by
  refine conW G (plainFor_of_name pn1) O0 (fun m => ef12 m a (4 : Int32)) ?_
  intro _ _ _ m_ _ _ _ D hml hret hlk hnm
  have q1 : C8 c0 := by obtain ⟨_, _, _, _, _, _, q, _⟩ := id p1; exact q _ (by simp)
  have q2 : C8 c1 := by obtain ⟨_, _, _, _, _, _, q, _⟩ := id p1; exact q _ (by simp)
  have q3 : C8 c2 := by obtain ⟨_, _, _, _, _, _, q, _⟩ := id p1; exact q _ (by simp)
  have q4 : C8 c3 := by obtain ⟨_, _, _, _, _, _, q, _⟩ := id p1; exact q _ (by simp)
  refine go_aload_n 1 (D d14_0) rfl rfl rfl ?_
  refine go_iload_n 2 (D d14_1) rfl rfl ?_
  refine go_aload_n 3 (D d14_2) rfl rfl rfl ?_
  refine callV0 (cells' := 0) (slots' := 0) (Wd := 2) (argsL := []) (rest := [(.int 4), (.ref a)]) (pay_len G O0 (n := (4 : Int32)) p1 rfl (by decide) (by decide)) p1.exa (wk G 95) (wk G 24) (wk G 26) (wk G 26) (wk G 25) pd5 (sz hml) all0 sf00 (D d14_3) (k_v 6 rfl ?_)
  rintro _ _ ⟨rfl, rfl⟩ -
  refine callVW0 rfl (cells' := 2) (slots' := 4) (Wd := 0) (argsL := [(.int 4), (.int 4)]) (rest := []) (payW_of (a0 := a0) (c_sub4_4_4 l G a c0 c1 c2 c3 h0 O0 p1) (wk G 100) (wk G 12) (ew1 G)) p1.exa (wk G 96) (wk G 97) (wk G 99) (wk G 99) (wk G 98) pd13 (sz hml) all0 (D d14_6) (k_v 9 rfl ?_)
  rintro _ h5 ⟨r7, rfl, f8⟩ K6
  have K9 : Keep h0 h5 [] := ((Keep.refl h0 []).trans K6 all0)
  refine go_areturn hret hlk rfl rfl (D d14_9) (by decide) (by decide) ⟨_, rfl, ⟨r7, rfl, f8⟩⟩ K9
theorem c_noun4_4 (G : GH Z a0) (a b : Addr) (p : Addr) (g0 g1 g2 g3 c0 c1 c2 c3 : Int32) (h0 : Heap) (O0 : Old Z Z.heap.size h0) (p1 : Fld Z h0 a "com/example/hew/hew/MethodKind" "prefix" "Ljava/lang/String;" (.ref p)) (p2 : Str Z h0 p [g0, g1, g2, g3]) (p3 : Str Z h0 b [c0, c1, c2, c3]) : Con true EL1 l Z (⟨"com/example/hew/hew/MethodKind", "noun", "(Ljava/lang/String;)Ljava/lang/String;"⟩ : MethodName) prog_32_method_8_code 2 (some (.object "java/lang/String")) [] (rm4 4 2 4 58) #[(.ref a), (.ref b)] h0 [] (rvl (Q_noun4_4 Z a b p g0 g1 g2 g3 c0 c1 c2 c3 h0)) := by
  refine conW G (plainFor_of_name pn6) O0 (fun m => ef3 m a b) ?_
  intro _ _ _ m_ _ _ _ D hml hret hlk hnm
  refine go_aload_n 1 (D d13_0) rfl rfl rfl ?_
  refine go_aload_n 2 (D d13_1) rfl rfl rfl ?_
  refine go_getF 5 (wk G 87) Via.refl p1 (D d13_2) rfl ?_
  refine callV0 (cells' := 0) (slots' := 0) (Wd := 1) (argsL := []) (rest := [(.ref b)]) (pay_len G O0 (n := (4 : Int32)) p2 rfl (by decide) (by decide)) p2.exa (wk G 89) (wk G 24) (wk G 26) (wk G 26) (wk G 25) pd5 (sz hml) all0 sf00 (D d13_5) (k_v 8 rfl ?_)
  rintro _ _ ⟨rfl, rfl⟩ -
  refine callVW0 rfl (cells' := 2) (slots' := 4) (Wd := 0) (argsL := [(.int 4)]) (rest := []) (payW_of (a0 := a0) (c_subi4_4 l G b c0 c1 c2 c3 h0 O0 p3) (wk G 94) (wk G 12) (ew1 G)) p3.exa (wk G 90) (wk G 91) (wk G 93) (wk G 93) (wk G 92) pd4 (sz hml) all0 (D d13_8) (k_v 11 rfl ?_)
  rintro _ h1 ⟨r3, rfl, f4⟩ K2
  have K5 : Keep h0 h1 [] := ((Keep.refl h0 []).trans K2 all0)
  refine go_areturn hret hlk rfl rfl (D d13_11) (by decide) (by decide) ⟨_, rfl, ⟨r3, rfl, f4⟩⟩ K5
def Q_take9_5 (Z : State) (a : Addr) (k : ClassId) (e0 e1 e2 e3 e4 e5 e6 e7 e8 : Int32) (h0 : Heap) (xv : Value) (h : Heap) : Prop := ∃ (r : Addr), (.ref r) = xv ∧ h0.size ≤ r ∧ Str Z h r [e0, e1, e2, e3, e4]
theorem c_take9_5 (G : GH Z a0) (a : Addr) (k : ClassId) (e0 e1 e2 e3 e4 e5 e6 e7 e8 : Int32) (h0 : Heap) (O0 : Old Z Z.heap.size h0) (p1 : Arv Z h0 a k (.char) (9 : Int32) [(.int e0), (.int e1), (.int e2), (.int e3), (.int e4), (.int e5), (.int e6), (.int e7), (.int e8)] (.int 0)) (p2 : C8 e0) (p3 : C8 e1) (p4 : C8 e2) (p5 : C8 e3) (p6 : C8 e4) : Con false [] l Z (⟨"com/example/hew/hew/MethodKindNounPinLaw", "take", "([CI)Ljava/lang/String;"⟩ : MethodName) method_6_code 2 (some (.object "java/lang/String")) [] (rm4 4 3 14 66) #[(.ref a), (.int 5)] h0 [] (rvl (Q_take9_5 Z a k e0 e1 e2 e3 e4 e5 e6 e7 e8 h0)) := by
  refine conN G (plainFor_of_name pn4) O0 (fun m => ef12 m a (5 : Int32)) ?_
  intro _ _ _ m_ _ _ _ D hml hret hlk hnm
  refine go_iload_n 1 (D d12_0) rfl rfl ?_
  refine go_ifT 15 (D d12_1) (by decide) rfl (by decide) ?_
  refine go_iload_n 16 (D d12_15) rfl rfl ?_
  refine go_iconst 17 (v := 1) (D d12_16) rfl rfl ?_
  refine go_icT 37 (D d12_17) (by decide) rfl (by decide) ?_
  refine go_iload_n 38 (D d12_37) rfl rfl ?_
  refine go_iconst 39 (v := 2) (D d12_38) rfl rfl ?_
  refine go_icT 65 (D d12_39) (by decide) rfl (by decide) ?_
  refine go_iload_n 66 (D d12_65) rfl rfl ?_
  refine go_iconst 67 (v := 3) (D d12_66) rfl rfl ?_
  refine go_icT 99 (D d12_67) (by decide) rfl (by decide) ?_
  refine go_iload_n 100 (D d12_99) rfl rfl ?_
  refine go_iconst 101 (v := 4) (D d12_100) rfl rfl ?_
  refine go_icT 139 (D d12_101) (by decide) rfl (by decide) ?_
  refine go_iload_n 140 (D d12_139) rfl rfl ?_
  refine go_iconst 141 (v := 5) (D d12_140) rfl rfl ?_
  refine go_icF 144 (D d12_141) rfl (by decide) ?_
  refine go_newO 147 (cells' := 1) (slots' := 4) (wk G 61) (wk G 13) (wk G 12) (D d12_144) rfl rfl rfl (by decide) (by decide) (fun h1 a2 g3 X4 E5 D6 U7 => ?_)
  refine go_dup 148 (D d12_147) rfl rfl ?_
  refine go_iconst 149 (v := 5) (D d12_148) rfl rfl ?_
  refine go_newP 151 (cells' := 2) (slots' := 9) (cap := 5) (vs := [(.int 0), (.int 0), (.int 0), (.int 0), (.int 0)]) (ty := .char) (dv := .int 0) (wk G 19) rfl rfl (D d12_149) rfl (by decide) rfl (by decide) rfl rfl rfl (by decide) (by decide) (fun h8 a9 k13 g10 X11 A12 => ?_)
  refine go_dup 152 (D d12_151) rfl rfl ?_
  refine go_iconst 153 (v := 0) (D d12_152) rfl rfl ?_
  refine go_aload_n 154 (D d12_153) rfl rfl rfl ?_
  refine go_iconst 155 (v := 0) (D d12_154) rfl rfl ?_
  have K14 : Keep h0 h1 [] := ((Keep.refl h0 []).ext X4)
  have K15 : Keep h0 h8 [] := (K14.ext X11)
  have A16 := (p1.keep K15 nin0)
  refine go_caload 156 (i := 0) (v := (.int e0)) A16 (by decide) (by decide) rfl rfl (D d12_155) rfl ?_
  refine go_stC 157 (i := 0) (x' := e0) (vs' := [(.int e0), (.int 0), (.int 0), (.int 0), (.int 0)]) A12 (Nat.le_trans O0.2.1 (Nat.le_trans K14.1 (Nat.le_of_eq g10))) (by decide) (by decide) rfl (nb rfl) (i2c_c8 p2) rfl (D d12_156) rfl (fun h17 W18 A19 => ?_)
  refine go_dup 158 (D d12_157) rfl rfl ?_
  refine go_iconst 159 (v := 1) (D d12_158) rfl rfl ?_
  refine go_aload_n 160 (D d12_159) rfl rfl rfl ?_
  refine go_iconst 161 (v := 1) (D d12_160) rfl rfl ?_
  have A20 := (A16.other W18 (Nat.ne_of_lt (Nat.lt_of_lt_of_le (Nat.lt_of_lt_of_le p1.lt K14.1) (Nat.le_of_eq g10))))
  refine go_caload 162 (i := 1) (v := (.int e1)) A20 (by decide) (by decide) rfl rfl (D d12_161) rfl ?_
  refine go_stC 163 (i := 1) (x' := e1) (vs' := [(.int e0), (.int e1), (.int 0), (.int 0), (.int 0)]) A19 (Nat.le_trans O0.2.1 (Nat.le_trans K14.1 (Nat.le_of_eq g10))) (by decide) (by decide) rfl (nb rfl) (i2c_c8 p3) rfl (D d12_162) rfl (fun h21 W22 A23 => ?_)
  refine go_dup 164 (D d12_163) rfl rfl ?_
  refine go_iconst 165 (v := 2) (D d12_164) rfl rfl ?_
  refine go_aload_n 166 (D d12_165) rfl rfl rfl ?_
  refine go_iconst 167 (v := 2) (D d12_166) rfl rfl ?_
  have A24 := (A20.other W22 (Nat.ne_of_lt (Nat.lt_of_lt_of_le (Nat.lt_of_lt_of_le p1.lt K14.1) (Nat.le_of_eq g10))))
  refine go_caload 168 (i := 2) (v := (.int e2)) A24 (by decide) (by decide) rfl rfl (D d12_167) rfl ?_
  refine go_stC 169 (i := 2) (x' := e2) (vs' := [(.int e0), (.int e1), (.int e2), (.int 0), (.int 0)]) A23 (Nat.le_trans O0.2.1 (Nat.le_trans K14.1 (Nat.le_of_eq g10))) (by decide) (by decide) rfl (nb rfl) (i2c_c8 p4) rfl (D d12_168) rfl (fun h25 W26 A27 => ?_)
  refine go_dup 170 (D d12_169) rfl rfl ?_
  refine go_iconst 171 (v := 3) (D d12_170) rfl rfl ?_
  refine go_aload_n 172 (D d12_171) rfl rfl rfl ?_
  refine go_iconst 173 (v := 3) (D d12_172) rfl rfl ?_
  have A28 := (A24.other W26 (Nat.ne_of_lt (Nat.lt_of_lt_of_le (Nat.lt_of_lt_of_le p1.lt K14.1) (Nat.le_of_eq g10))))
  refine go_caload 174 (i := 3) (v := (.int e3)) A28 (by decide) (by decide) rfl rfl (D d12_173) rfl ?_
  refine go_stC 175 (i := 3) (x' := e3) (vs' := [(.int e0), (.int e1), (.int e2), (.int e3), (.int 0)]) A27 (Nat.le_trans O0.2.1 (Nat.le_trans K14.1 (Nat.le_of_eq g10))) (by decide) (by decide) rfl (nb rfl) (i2c_c8 p5) rfl (D d12_174) rfl (fun h29 W30 A31 => ?_)
  refine go_dup 176 (D d12_175) rfl rfl ?_
  refine go_iconst 177 (v := 4) (D d12_176) rfl rfl ?_
  refine go_aload_n 178 (D d12_177) rfl rfl rfl ?_
  refine go_iconst 179 (v := 4) (D d12_178) rfl rfl ?_
  have A32 := (A28.other W30 (Nat.ne_of_lt (Nat.lt_of_lt_of_le (Nat.lt_of_lt_of_le p1.lt K14.1) (Nat.le_of_eq g10))))
  refine go_caload 180 (i := 4) (v := (.int e4)) A32 (by decide) (by decide) rfl rfl (D d12_179) rfl ?_
  refine go_stC 181 (i := 4) (x' := e4) (vs' := [(.int e0), (.int e1), (.int e2), (.int e3), (.int e4)]) A31 (Nat.le_trans O0.2.1 (Nat.le_trans K14.1 (Nat.le_of_eq g10))) (by decide) (by decide) rfl (nb rfl) (i2c_c8 p6) rfl (D d12_180) rfl (fun h33 W34 A35 => ?_)
  have K36 : Keep h1 h8 [] := ((Keep.refl h1 []).ext X11)
  have K37 : Keep h1 h17 [] := (K36.wr W18 (Or.inr (Nat.le_of_eq g10)))
  have K38 : Keep h1 h21 [] := (K37.wr W22 (Or.inr (Nat.le_of_eq g10)))
  have K39 : Keep h1 h25 [] := (K38.wr W26 (Or.inr (Nat.le_of_eq g10)))
  have K40 : Keep h1 h29 [] := (K39.wr W30 (Or.inr (Nat.le_of_eq g10)))
  have K41 : Keep h1 h33 [] := (K40.wr W34 (Or.inr (Nat.le_of_eq g10)))
  have E42 := (E5.keep K41)
  have F43 := D6 (Or.inr (wk G 15)) (ty := (.array .byte)) (by decide)
  have F44 := (F43.keep K41 nin0)
  have F45 := D6 (Or.inr (wk G 16)) (ty := .byte) (by decide)
  have F46 := (F45.keep K41 nin0)
  refine go_old (fun O47 => ?_)
  refine callI0 (cells' := 3) (slots' := 14) (Wd := 1) (argsL := [(.ref a9)]) (rest := [(.ref a2)]) (pay_new G O47 (cs := [e0, e1, e2, e3, e4]) (n := 5) (Nat.le_trans O0.2.1 (Nat.le_of_eq g3)) E42 F44 F46 A35 rfl rfl (by decide) (by decide) (c8c p2 (c8c p3 (c8c p4 (c8c p5 (c8c p6 c8n))))) (by decide) (by decide)) rfl (wk G 62) (wk G 63) (wk G 64) pd8 (sz hml) (allS (Nat.le_trans O0.2.1 (Nat.le_of_eq g3)) all0) (fun _ hal => (sfS safe_nil sf0)) (D d12_181) (k_n 184 rfl ?_)
  rintro h48 S50 K49
  have K51 : Keep h0 h17 [] := (K15.wr W18 (Or.inr (Nat.le_trans K14.1 (Nat.le_of_eq g10))))
  have K52 : Keep h0 h21 [] := (K51.wr W22 (Or.inr (Nat.le_trans K14.1 (Nat.le_of_eq g10))))
  have K53 : Keep h0 h25 [] := (K52.wr W26 (Or.inr (Nat.le_trans K14.1 (Nat.le_of_eq g10))))
  have K54 : Keep h0 h29 [] := (K53.wr W30 (Or.inr (Nat.le_trans K14.1 (Nat.le_of_eq g10))))
  have K55 : Keep h0 h33 [] := (K54.wr W34 (Or.inr (Nat.le_trans K14.1 (Nat.le_of_eq g10))))
  have K56 : Keep h0 h48 [] := (K55.trans K49 (allS (Or.inr (Nat.le_of_eq g3)) all0))
  refine go_areturn hret hlk rfl rfl (D d12_184) (by decide) (by decide) ⟨_, rfl, ⟨a2, rfl, (Nat.le_of_eq g3), S50⟩⟩ K56
def Q_take3_1 (Z : State) (a : Addr) (k : ClassId) (e0 e1 e2 : Int32) (h0 : Heap) (xv : Value) (h : Heap) : Prop := ∃ (r : Addr), (.ref r) = xv ∧ h0.size ≤ r ∧ Str Z h r [e0]
theorem c_take3_1 (G : GH Z a0) (a : Addr) (k : ClassId) (e0 e1 e2 : Int32) (h0 : Heap) (O0 : Old Z Z.heap.size h0) (p1 : Arv Z h0 a k (.char) (3 : Int32) [(.int e0), (.int e1), (.int e2)] (.int 0)) (p2 : C8 e0) : Con false [] l Z (⟨"com/example/hew/hew/MethodKindNounPinLaw", "take", "([CI)Ljava/lang/String;"⟩ : MethodName) method_6_code 2 (some (.object "java/lang/String")) [] (rm4 4 3 6 66) #[(.ref a), (.int 1)] h0 [] (rvl (Q_take3_1 Z a k e0 e1 e2 h0)) := by
  refine conN G (plainFor_of_name pn4) O0 (fun m => ef12 m a (1 : Int32)) ?_
  intro _ _ _ m_ _ _ _ D hml hret hlk hnm
  refine go_iload_n 1 (D d12_0) rfl rfl ?_
  refine go_ifT 15 (D d12_1) (by decide) rfl (by decide) ?_
  refine go_iload_n 16 (D d12_15) rfl rfl ?_
  refine go_iconst 17 (v := 1) (D d12_16) rfl rfl ?_
  refine go_icF 20 (D d12_17) rfl (by decide) ?_
  refine go_newO 23 (cells' := 1) (slots' := 4) (wk G 61) (wk G 13) (wk G 12) (D d12_20) rfl rfl rfl (by decide) (by decide) (fun h1 a2 g3 X4 E5 D6 U7 => ?_)
  refine go_dup 24 (D d12_23) rfl rfl ?_
  refine go_iconst 25 (v := 1) (D d12_24) rfl rfl ?_
  refine go_newP 27 (cells' := 2) (slots' := 5) (cap := 1) (vs := [(.int 0)]) (ty := .char) (dv := .int 0) (wk G 19) rfl rfl (D d12_25) rfl (by decide) rfl (by decide) rfl rfl rfl (by decide) (by decide) (fun h8 a9 k13 g10 X11 A12 => ?_)
  refine go_dup 28 (D d12_27) rfl rfl ?_
  refine go_iconst 29 (v := 0) (D d12_28) rfl rfl ?_
  refine go_aload_n 30 (D d12_29) rfl rfl rfl ?_
  refine go_iconst 31 (v := 0) (D d12_30) rfl rfl ?_
  have K14 : Keep h0 h1 [] := ((Keep.refl h0 []).ext X4)
  have K15 : Keep h0 h8 [] := (K14.ext X11)
  have A16 := (p1.keep K15 nin0)
  refine go_caload 32 (i := 0) (v := (.int e0)) A16 (by decide) (by decide) rfl rfl (D d12_31) rfl ?_
  refine go_stC 33 (i := 0) (x' := e0) (vs' := [(.int e0)]) A12 (Nat.le_trans O0.2.1 (Nat.le_trans K14.1 (Nat.le_of_eq g10))) (by decide) (by decide) rfl (nb rfl) (i2c_c8 p2) rfl (D d12_32) rfl (fun h17 W18 A19 => ?_)
  have K20 : Keep h1 h8 [] := ((Keep.refl h1 []).ext X11)
  have K21 : Keep h1 h17 [] := (K20.wr W18 (Or.inr (Nat.le_of_eq g10)))
  have E22 := (E5.keep K21)
  have F23 := D6 (Or.inr (wk G 15)) (ty := (.array .byte)) (by decide)
  have F24 := (F23.keep K21 nin0)
  have F25 := D6 (Or.inr (wk G 16)) (ty := .byte) (by decide)
  have F26 := (F25.keep K21 nin0)
  refine go_old (fun O27 => ?_)
  refine callI0 (cells' := 3) (slots' := 6) (Wd := 1) (argsL := [(.ref a9)]) (rest := [(.ref a2)]) (pay_new G O27 (cs := [e0]) (n := 1) (Nat.le_trans O0.2.1 (Nat.le_of_eq g3)) E22 F24 F26 A19 rfl rfl (by decide) (by decide) (c8c p2 c8n) (by decide) (by decide)) rfl (wk G 62) (wk G 63) (wk G 64) pd8 (sz hml) (allS (Nat.le_trans O0.2.1 (Nat.le_of_eq g3)) all0) (fun _ hal => (sfS safe_nil sf0)) (D d12_33) (k_n 36 rfl ?_)
  rintro h28 S30 K29
  have K31 : Keep h0 h17 [] := (K15.wr W18 (Or.inr (Nat.le_trans K14.1 (Nat.le_of_eq g10))))
  have K32 : Keep h0 h28 [] := (K31.trans K29 (allS (Or.inr (Nat.le_of_eq g3)) all0))
  refine go_areturn hret hlk rfl rfl (D d12_36) (by decide) (by decide) ⟨_, rfl, ⟨a2, rfl, (Nat.le_of_eq g3), S30⟩⟩ K32
def Q_noun4_5 (Z : State) (a b p : Addr) (g0 g1 g2 g3 c0 c1 c2 c3 c4 : Int32) (h0 : Heap) (xv : Value) (h : Heap) : Prop := ∃ (r : Addr), (.ref r) = xv ∧ Str Z h r [c4]
def Q_subi4_5 (Z : State) (a : Addr) (c0 c1 c2 c3 c4 : Int32) (h0 : Heap) (xv : Value) (h : Heap) : Prop := ∃ (r : Addr), (.ref r) = xv ∧ Str Z h r [c4]
def Q_sub4_5_5 (Z : State) (a : Addr) (c0 c1 c2 c3 c4 : Int32) (h0 : Heap) (xv : Value) (h : Heap) : Prop := ∃ (r : Addr), (.ref r) = xv ∧ Str Z h r [c4]
def Q_news4_1_5 (Z : State) (t : Addr) (k : ClassId) (c0 c1 c2 c3 c4 : Int32) (h0 : Heap) (xv : Value) (h : Heap) : Prop := ∃ (r : Addr), (.ref r) = xv ∧ Str Z h r [c4]
def Q_cor4_5_5 (Z : State) (t : Addr) (k : ClassId) (b0 b1 b2 b3 b4 : Int32) (h0 : Heap) (xv : Value) (h : Heap) : Prop := ∃ (r : Addr) (k2 : ClassId), (.ref r) = xv ∧ h0.size ≤ r ∧ Arv Z h r k2 (.byte) (1 : Int32) [(.int b4)] (.int 0)
def Q_corb4_5_5 (Z : State) (t : Addr) (k : ClassId) (b0 b1 b2 b3 b4 : Int32) (h0 : Heap) (xv : Value) (h : Heap) : Prop := ∃ (r : Addr) (k2 : ClassId), (.ref r) = xv ∧ h0.size ≤ r ∧ Arv Z h r k2 (.byte) (1 : Int32) [(.int b4)] (.int 0)
def Q_min1_1 (Z : State)  (h0 : Heap) (xv : Value) (h : Heap) : Prop := (.int 1) = xv ∧ h0 = h
theorem c_min1_1 (G : GH Z a0)   (h0 : Heap) (O0 : Old Z Z.heap.size h0)  : Con false [] l Z (⟨"java/lang/Math", "min", "(II)I"⟩ : MethodName) jdk_29_method_69_code 2 (some .int) [] (rm4 0 0 0 0) #[(.int 1), (.int 1)] h0 [] (rvl (Q_min1_1 Z h0)) := by
  refine conN G (Jvm.Free.JP.mathPlain rfl (by decide)) O0 (fun m => ef8 m (1 : Int32) (1 : Int32)) ?_
  intro _ _ _ m_ _ _ _ D hml hret hlk hnm
  refine go_iload_n 1 (D d19_0) rfl rfl ?_
  refine go_iload_n 2 (D d19_1) rfl rfl ?_
  refine go_icF 5 (D d19_2) rfl (by decide) ?_
  refine go_iload_n 6 (D d19_5) rfl rfl ?_
  refine go_goto 10 (D d19_6) (by decide) rfl ?_
  refine go_ireturn hret hlk rfl (by simp) (D d19_10) (by decide) (by decide) ⟨_, rfl, ⟨rfl, rfl⟩⟩ (Keep.refl h0 [])
theorem c_corb4_5_5 (G : GH Z a0) (t : Addr) (k : ClassId) (b0 b1 b2 b3 b4 : Int32) (h0 : Heap) (O0 : Old Z Z.heap.size h0) (p1 : Arv Z h0 t k (.byte) (5 : Int32) [(.int b0), (.int b1), (.int b2), (.int b3), (.int b4)] (.int 0)) : Con false [] l Z (⟨"java/util/Arrays", "copyOfRangeByte", "([BII)[B"⟩ : MethodName) jdk_65_method_133_code 5 (some (.array .byte)) [] (rm4 1 1 1 18) #[(.ref t), (.int 4), (.int 5)] h0 [] (rvl (Q_corb4_5_5 Z t k b0 b1 b2 b3 b4 h0)) := by
  refine conN G (plainFor_of_name pn3) O0 (fun m => ef13 m t (4 : Int32) (5 : Int32)) ?_
  intro _ _ _ m_ _ _ _ D hml hret hlk hnm
  refine go_iload_n 1 (D d18_0) rfl rfl ?_
  refine go_iload_n 2 (D d18_1) rfl rfl ?_
  refine callS0 (cells' := 0) (slots' := 0) (Wd := 0) (argsL := [(.int 4), (.int 5)]) (rest := []) (pay_of (a0 := a0) (c_chkl l G (4 : Int32) (5 : Int32) h0 O0 (by decide)) (wk G 120) (wk G 113)) (wk G 118) (wk G 119) (wk G 113) (wk G 120) pd16 (sz hml) all0 sf00 (D d18_2) (k_n 5 rfl ?_)
  rintro  h1 rfl K2
  refine go_iload_n 6 (D d18_5) rfl rfl ?_
  refine go_iload_n 7 (D d18_6) rfl rfl ?_
  refine go_isub 8 (z := (1 : Int32)) (D d18_7) rfl (by decide) ?_
  refine go_istore_n 9 (ls' := #[vr t, vi 4, vi 5, vi 1, un]) (D d18_8) rfl rfl ?_
  refine go_iload_n 10 (D d18_9) rfl rfl ?_
  refine go_newP 12 (cells' := 1) (slots' := 1) (cap := 1) (vs := [(.int 0)]) (ty := .byte) (dv := .int 0) (wk G 14) rfl rfl (D d18_10) rfl (by decide) rfl (by decide) rfl rfl rfl (by decide) (by decide) (fun h3 a4 k8 g5 X6 A7 => ?_)
  refine go_astore 14 (ls' := #[vr t, vi 4, vi 5, vi 1, vr a4]) (D d18_12) rfl rfl rfl ?_
  refine go_aload_n 15 (D d18_14) rfl rfl rfl ?_
  refine go_iload_n 16 (D d18_15) rfl rfl ?_
  refine go_aload 18 (D d18_16) rfl rfl rfl ?_
  refine go_iconst 19 (v := 0) (D d18_18) rfl rfl ?_
  refine go_aload_n 20 (D d18_19) rfl rfl rfl ?_
  have K9 : Keep h0 h3 [] := ((Keep.refl h0 []).ext X6)
  have A10 := (p1.keep K9 nin0)
  refine go_arraylength 21 A10 (D d18_20) rfl ?_
  refine go_iload_n 22 (D d18_21) rfl rfl ?_
  refine go_isub 23 (z := (1 : Int32)) (D d18_22) rfl (by decide) ?_
  refine go_iload_n 24 (D d18_23) rfl rfl ?_
  refine go_old (fun O11 => ?_)
  refine callS0 (cells' := 1) (slots' := 1) (Wd := 4) (argsL := [(.int 1), (.int 1)]) (rest := [(.int 0), (.ref a4), (.int 4), (.ref t)]) (pay_of (a0 := a0) (c_min1_1 l G  h3 O11 ) (wk G 124) (wk G 123)) (wk G 121) (wk G 122) (wk G 123) (wk G 124) pd17 (sz hml) all0 sf00 (D d18_24) (k_v 27 rfl ?_)
  rintro _ h12 ⟨rfl, rfl⟩ K13
  refine go_acopy 30 (Wd := 0) (vd' := [(.int b4)]) (wk G 125) (wk G 128) (wk G 126) (wk G 127) rfl A10 A7 rfl (by decide) (by decide) (by decide) (nb rfl) (nb rfl) (nb rfl) (Nat.le_trans O0.2.1 (Nat.le_of_eq g5)) rfl (sz hml) (by decide) (by decide) (by decide) (D d18_27) rfl (fun h14 K15 A16 => ?_)
  refine go_aload 32 (D d18_30) rfl rfl rfl ?_
  have K17 : Keep h0 h14 [] := (K9.trans K15 (allS (Or.inr (Nat.le_of_eq g5)) all0))
  refine go_areturn hret hlk rfl rfl (D d18_32) (by decide) (by decide) ⟨_, rfl, ⟨a4, k8, rfl, (Nat.le_of_eq g5), A16⟩⟩ K17
theorem c_cor4_5_5 (G : GH Z a0) (t : Addr) (k : ClassId) (b0 b1 b2 b3 b4 : Int32) (h0 : Heap) (O0 : Old Z Z.heap.size h0) (p1 : Arv Z h0 t k (.byte) (5 : Int32) [(.int b0), (.int b1), (.int b2), (.int b3), (.int b4)] (.int 0)) : Con false [] l Z (⟨"java/util/Arrays", "copyOfRange", "([BII)[B"⟩ : MethodName) jdk_65_method_132_code 3 (some (.array .byte)) [] (rm4 2 1 1 34) #[(.ref t), (.int 4), (.int 5)] h0 [] (rvl (Q_cor4_5_5 Z t k b0 b1 b2 b3 b4 h0)) := by
  refine conN G (plainFor_of_name pn3) O0 (fun m => ef14 m t (4 : Int32) (5 : Int32)) ?_
  intro _ _ _ m_ _ _ _ D hml hret hlk hnm
  refine go_iload_n 1 (D d17_0) rfl rfl ?_
  refine go_ifT 10 (D d17_1) (by decide) rfl (by decide) ?_
  refine go_aload_n 11 (D d17_10) rfl rfl rfl ?_
  refine go_iload_n 12 (D d17_11) rfl rfl ?_
  refine go_iload_n 13 (D d17_12) rfl rfl ?_
  refine callS0 (cells' := 1) (slots' := 1) (Wd := 0) (argsL := [(.ref t), (.int 4), (.int 5)]) (rest := []) (pay_of (a0 := a0) (c_corb4_5_5 l G t k b0 b1 b2 b3 b4 h0 O0 p1) (wk G 117) (wk G 113)) (wk G 115) (wk G 116) (wk G 113) (wk G 117) pd18 (sz hml) all0 sf00 (D d17_13) (k_v 16 rfl ?_)
  rintro _ h1 ⟨r3, r4, rfl, f5, f6⟩ K2
  have K7 : Keep h0 h1 [] := ((Keep.refl h0 []).trans K2 all0)
  refine go_areturn hret hlk rfl rfl (D d17_16) (by decide) (by decide) ⟨_, rfl, ⟨r3, r4, rfl, f5, f6⟩⟩ K7
theorem c_news4_1_5 (G : GH Z a0) (t : Addr) (k : ClassId) (c0 c1 c2 c3 c4 : Int32) (h0 : Heap) (O0 : Old Z Z.heap.size h0) (p1 : Arv Z h0 t k (.byte) (5 : Int32) [(.int (c0).toInt8.toInt32), (.int (c1).toInt8.toInt32), (.int (c2).toInt8.toInt32), (.int (c3).toInt8.toInt32), (.int (c4).toInt8.toInt32)] (.int 0)) (p2 : C8 c0) (p3 : C8 c1) (p4 : C8 c2) (p5 : C8 c3) (p6 : C8 c4) : Con false [] l Z (⟨"java/lang/StringLatin1", "newString", "([BII)Ljava/lang/String;"⟩ : MethodName) jdk_43_method_47_code 3 (some (.object "java/lang/String")) [] (rm4 3 2 5 50) #[(.ref t), (.int 4), (.int 1)] h0 [] (rvl (Q_news4_1_5 Z t k c0 c1 c2 c3 c4 h0)) := by
  refine conN G (plainFor_of_name pn5) O0 (fun m => ef14 m t (4 : Int32) (1 : Int32)) ?_
  intro _ _ _ m_ _ _ _ D hml hret hlk hnm
  refine go_iload_n 1 (D d16_0) rfl rfl ?_
  refine go_ifT 7 (D d16_1) (by decide) rfl (by decide) ?_
  refine go_newO 10 (cells' := 1) (slots' := 4) (wk G 110) (wk G 13) (wk G 12) (D d16_7) rfl rfl rfl (by decide) (by decide) (fun h1 a2 g3 X4 E5 D6 U7 => ?_)
  refine go_dup 11 (D d16_10) rfl rfl ?_
  refine go_aload_n 12 (D d16_11) rfl rfl rfl ?_
  refine go_iload_n 13 (D d16_12) rfl rfl ?_
  refine go_iload_n 14 (D d16_13) rfl rfl ?_
  refine go_iload_n 15 (D d16_14) rfl rfl ?_
  refine go_iadd 16 (z := (5 : Int32)) (D d16_15) rfl (by decide) ?_
  have K8 : Keep h0 h1 [] := ((Keep.refl h0 []).ext X4)
  have A9 := (p1.keep K8 nin0)
  refine go_old (fun O10 => ?_)
  refine callS0 (cells' := 2) (slots' := 5) (Wd := 2) (argsL := [(.ref t), (.int 4), (.int 5)]) (rest := [(.ref a2), (.ref a2)]) (pay_of (a0 := a0) (c_cor4_5_5 l G t k ((c0).toInt8.toInt32) ((c1).toInt8.toInt32) ((c2).toInt8.toInt32) ((c3).toInt8.toInt32) ((c4).toInt8.toInt32) h1 O10 A9) (wk G 114) (wk G 113)) (wk G 111) (wk G 112) (wk G 113) (wk G 114) pd18 (sz hml) all0 sf00 (D d16_16) (k_v 19 rfl ?_)
  rintro _ h11 ⟨r13, r14, rfl, f15, f16⟩ K12
  refine go_iconst 20 (v := 0) (D d16_19) rfl rfl ?_
  have K17 : Keep h1 h11 [] := ((Keep.refl h1 []).trans K12 all0)
  have E18 := (E5.keep K17)
  have F19 := D6 (Or.inr (wk G 15)) (ty := (.array .byte)) (by decide)
  have F20 := (F19.keep K17 nin0)
  have F21 := D6 (Or.inr (wk G 16)) (ty := .byte) (by decide)
  have F22 := (F21.keep K17 nin0)
  refine go_old (fun O23 => ?_)
  refine callI0 (cells' := 2) (slots' := 5) (Wd := 1) (argsL := [(.ref r13), (.int 0)]) (rest := [(.ref a2)]) (pay_of (a0 := a0) (c_strbb l G a2 r13 h11 O23 E18 (Nat.le_trans O0.2.1 (Nat.le_of_eq g3)) F20 F22) (wk G 131) (wk G 12)) rfl (wk G 129) (wk G 130) (wk G 131) pd19 (sz hml) (allS (Nat.le_trans O0.2.1 (Nat.le_of_eq g3)) all0) (fun _ hal => (sfS safe_nil sf0)) (D d16_20) (k_n 23 rfl ?_)
  rintro  h24 ⟨f26, f27⟩ K25
  have K28 : Keep h0 h11 [] := (K8.trans K12 all0)
  have K29 : Keep h0 h24 [] := (K28.trans K25 (allS (Or.inr (Nat.le_of_eq g3)) all0))
  have E30 := (E18.keep K25)
  have A31 := (f16.keep K25 (ninS (Nat.ne_of_gt (Nat.lt_of_lt_of_le E5.lt f15)) nin0))
  have S32 : Str Z h24 a2 [c4] := ⟨r13, r14, E30, f26, f27, A31, (c8c p6 c8n), Nat.le_of_ble_eq_true rfl⟩
  refine go_areturn hret hlk rfl rfl (D d16_23) (by decide) (by decide) ⟨_, rfl, ⟨a2, rfl, S32⟩⟩ K29
theorem c_sub4_5_5 (G : GH Z a0) (a : Addr) (c0 c1 c2 c3 c4 : Int32) (h0 : Heap) (O0 : Old Z Z.heap.size h0) (p1 : Str Z h0 a [c0, c1, c2, c3, c4]) : Con false [] l Z (⟨"java/lang/String", "substring", "(II)Ljava/lang/String;"⟩ : MethodName) jdk_42_method_92_code 5 (some (.object "java/lang/String")) [] (rm4 4 2 5 64) #[(.ref a), (.int 4), (.int 5)] h0 [] (rvl (Q_sub4_5_5 Z a c0 c1 c2 c3 c4 h0)) := by
  refine conN G (plainFor_of_name pn1) O0 (fun m => ef13 m a (4 : Int32) (5 : Int32)) ?_
  intro _ _ _ m_ _ _ _ D hml hret hlk hnm
  have q1 : C8 c0 := by obtain ⟨_, _, _, _, _, _, q, _⟩ := id p1; exact q _ (by simp)
  have q2 : C8 c1 := by obtain ⟨_, _, _, _, _, _, q, _⟩ := id p1; exact q _ (by simp)
  have q3 : C8 c2 := by obtain ⟨_, _, _, _, _, _, q, _⟩ := id p1; exact q _ (by simp)
  have q4 : C8 c3 := by obtain ⟨_, _, _, _, _, _, q, _⟩ := id p1; exact q _ (by simp)
  have q5 : C8 c4 := by obtain ⟨_, _, _, _, _, _, q, _⟩ := id p1; exact q _ (by simp)
  refine go_aload_n 1 (D d15_0) rfl rfl rfl ?_
  refine callV0 (cells' := 0) (slots' := 0) (Wd := 0) (argsL := []) (rest := []) (pay_len G O0 (n := (5 : Int32)) p1 rfl (by decide) (by decide)) p1.exa (wk G 95) (wk G 24) (wk G 26) (wk G 26) (wk G 25) pd5 (sz hml) all0 sf00 (D d15_1) (k_v 4 rfl ?_)
  rintro _ _ ⟨rfl, rfl⟩ -
  refine go_istore_n 5 (ls' := #[vr a, vi 4, vi 5, vi 5, un]) (D d15_4) rfl rfl ?_
  refine go_iload_n 6 (D d15_5) rfl rfl ?_
  refine go_iload_n 7 (D d15_6) rfl rfl ?_
  refine go_iload_n 8 (D d15_7) rfl rfl ?_
  refine callS0 (cells' := 0) (slots' := 0) (Wd := 0) (argsL := [(.int 4), (.int 5), (.int 5)]) (rest := []) (pay_of (a0 := a0) (c_cbbe l G (4 : Int32) (5 : Int32) (5 : Int32) h0 O0 (by decide) (by decide) (by decide)) (wk G 103) (wk G 12)) (wk G 101) (wk G 102) (wk G 12) (wk G 103) pd10 (sz hml) all0 sf00 (D d15_8) (k_n 11 rfl ?_)
  rintro  h6 rfl K7
  refine go_iload_n 12 (D d15_11) rfl rfl ?_
  refine go_ifT 22 (D d15_12) (by decide) rfl (by decide) ?_
  refine go_iload_n 23 (D d15_22) rfl rfl ?_
  refine go_iload_n 24 (D d15_23) rfl rfl ?_
  refine go_isub 25 (z := (1 : Int32)) (D d15_24) rfl (by decide) ?_
  refine go_istore 27 (ls' := #[vr a, vi 4, vi 5, vi 5, vi 1]) (D d15_25) rfl rfl ?_
  refine go_aload_n 28 (D d15_27) rfl rfl rfl ?_
  obtain ⟨t8, k9, E10, F11, F12, A13, B14, L15⟩ := id p1
  refine callV0 (cells' := 0) (slots' := 0) (Wd := 0) (argsL := []) (rest := []) (pay_of (a0 := a0) (c_islatin l G a h0 O0 F12) (wk G 45) (wk G 12)) E10 (wk G 41) (wk G 42) (wk G 44) (wk G 44) (wk G 43) pd11 (sz hml) all0 sf00 (D d15_28) (k_v 31 rfl ?_)
  rintro _ h16 ⟨rfl, rfl⟩ K17
  refine go_ifF 34 (D d15_31) rfl (by decide) ?_
  refine go_aload_n 35 (D d15_34) rfl rfl rfl ?_
  refine go_getF 38 (wk G 28) Via.refl F11 (D d15_35) rfl ?_
  refine go_iload_n 39 (D d15_38) rfl rfl ?_
  refine go_iload 41 (D d15_39) rfl rfl ?_
  refine callS0 (cells' := 2) (slots' := 5) (Wd := 0) (argsL := [(.ref t8), (.int 4), (.int 1)]) (rest := []) (pay_of (a0 := a0) (c_news4_1_5 l G t8 k9 c0 c1 c2 c3 c4 h0 O0 A13 q1 q2 q3 q4 q5) (wk G 109) (wk G 48)) (wk G 107) (wk G 108) (wk G 48) (wk G 109) pd12 (sz hml) all0 sf00 (D d15_41) (k_v 44 rfl ?_)
  rintro _ h18 ⟨r20, rfl, f21⟩ K19
  refine go_goto 57 (D d15_44) (by decide) rfl ?_
  have K22 : Keep h0 h18 [] := ((Keep.refl h0 []).trans K19 all0)
  refine go_areturn hret hlk rfl rfl (D d15_57) (by decide) (by decide) ⟨_, rfl, ⟨r20, rfl, f21⟩⟩ K22
theorem c_subi4_5 (G : GH Z a0) (a : Addr) (c0 c1 c2 c3 c4 : Int32) (h0 : Heap) (O0 : Old Z Z.heap.size h0) (p1 : Str Z h0 a [c0, c1, c2, c3, c4]) : Con false [] l Z (⟨"java/lang/String", "substring", "(I)Ljava/lang/String;"⟩ : MethodName) jdk_42_method_91_code 2 (some (.object "java/lang/String")) [] (rm4 5 2 5 80) #[(.ref a), (.int 4)] h0 [] (rvl (Q_subi4_5 Z a c0 c1 c2 c3 c4 h0)) := by
  refine conN G (plainFor_of_name pn1) O0 (fun m => ef12 m a (4 : Int32)) ?_
  intro _ _ _ m_ _ _ _ D hml hret hlk hnm
  have q1 : C8 c0 := by obtain ⟨_, _, _, _, _, _, q, _⟩ := id p1; exact q _ (by simp)
  have q2 : C8 c1 := by obtain ⟨_, _, _, _, _, _, q, _⟩ := id p1; exact q _ (by simp)
  have q3 : C8 c2 := by obtain ⟨_, _, _, _, _, _, q, _⟩ := id p1; exact q _ (by simp)
  have q4 : C8 c3 := by obtain ⟨_, _, _, _, _, _, q, _⟩ := id p1; exact q _ (by simp)
  have q5 : C8 c4 := by obtain ⟨_, _, _, _, _, _, q, _⟩ := id p1; exact q _ (by simp)
  refine go_aload_n 1 (D d14_0) rfl rfl rfl ?_
  refine go_iload_n 2 (D d14_1) rfl rfl ?_
  refine go_aload_n 3 (D d14_2) rfl rfl rfl ?_
  refine callV0 (cells' := 0) (slots' := 0) (Wd := 2) (argsL := []) (rest := [(.int 4), (.ref a)]) (pay_len G O0 (n := (5 : Int32)) p1 rfl (by decide) (by decide)) p1.exa (wk G 95) (wk G 24) (wk G 26) (wk G 26) (wk G 25) pd5 (sz hml) all0 sf00 (D d14_3) (k_v 6 rfl ?_)
  rintro _ _ ⟨rfl, rfl⟩ -
  refine callV0 (cells' := 2) (slots' := 5) (Wd := 0) (argsL := [(.int 4), (.int 5)]) (rest := []) (pay_of (a0 := a0) (c_sub4_5_5 l G a c0 c1 c2 c3 c4 h0 O0 p1) (wk G 100) (wk G 12)) p1.exa (wk G 96) (wk G 97) (wk G 99) (wk G 99) (wk G 98) pd13 (sz hml) all0 sf00 (D d14_6) (k_v 9 rfl ?_)
  rintro _ h6 ⟨r8, rfl, f9⟩ K7
  have K10 : Keep h0 h6 [] := ((Keep.refl h0 []).trans K7 all0)
  refine go_areturn hret hlk rfl rfl (D d14_9) (by decide) (by decide) ⟨_, rfl, ⟨r8, rfl, f9⟩⟩ K10
theorem c_noun4_5 (G : GH Z a0) (a b : Addr) (p : Addr) (g0 g1 g2 g3 c0 c1 c2 c3 c4 : Int32) (h0 : Heap) (O0 : Old Z Z.heap.size h0) (p1 : Fld Z h0 a "com/example/hew/hew/MethodKind" "prefix" "Ljava/lang/String;" (.ref p)) (p2 : Str Z h0 p [g0, g1, g2, g3]) (p3 : Str Z h0 b [c0, c1, c2, c3, c4]) : Con false [] l Z (⟨"com/example/hew/hew/MethodKind", "noun", "(Ljava/lang/String;)Ljava/lang/String;"⟩ : MethodName) prog_32_method_8_code 2 (some (.object "java/lang/String")) [] (rm4 6 2 5 93) #[(.ref a), (.ref b)] h0 [] (rvl (Q_noun4_5 Z a b p g0 g1 g2 g3 c0 c1 c2 c3 c4 h0)) := by
  refine conN G (plainFor_of_name pn6) O0 (fun m => ef3 m a b) ?_
  intro _ _ _ m_ _ _ _ D hml hret hlk hnm
  refine go_aload_n 1 (D d13_0) rfl rfl rfl ?_
  refine go_aload_n 2 (D d13_1) rfl rfl rfl ?_
  refine go_getF 5 (wk G 87) Via.refl p1 (D d13_2) rfl ?_
  refine callV0 (cells' := 0) (slots' := 0) (Wd := 1) (argsL := []) (rest := [(.ref b)]) (pay_len G O0 (n := (4 : Int32)) p2 rfl (by decide) (by decide)) p2.exa (wk G 89) (wk G 24) (wk G 26) (wk G 26) (wk G 25) pd5 (sz hml) all0 sf00 (D d13_5) (k_v 8 rfl ?_)
  rintro _ _ ⟨rfl, rfl⟩ -
  refine callV0 (cells' := 2) (slots' := 5) (Wd := 0) (argsL := [(.int 4)]) (rest := []) (pay_of (a0 := a0) (c_subi4_5 l G b c0 c1 c2 c3 c4 h0 O0 p3) (wk G 94) (wk G 12)) p3.exa (wk G 90) (wk G 91) (wk G 93) (wk G 93) (wk G 92) pd4 (sz hml) all0 sf00 (D d13_8) (k_v 11 rfl ?_)
  rintro _ h1 ⟨r3, rfl, f4⟩ K2
  have K5 : Keep h0 h1 [] := ((Keep.refl h0 []).trans K2 all0)
  refine go_areturn hret hlk rfl rfl (D d13_11) (by decide) (by decide) ⟨_, rfl, ⟨r3, rfl, f4⟩⟩ K5
def Q_take9_6 (Z : State) (a : Addr) (k : ClassId) (e0 e1 e2 e3 e4 e5 e6 e7 e8 : Int32) (h0 : Heap) (xv : Value) (h : Heap) : Prop := ∃ (r : Addr), (.ref r) = xv ∧ h0.size ≤ r ∧ Str Z h r [e0, e1, e2, e3, e4, e5]
theorem c_take9_6 (G : GH Z a0) (a : Addr) (k : ClassId) (e0 e1 e2 e3 e4 e5 e6 e7 e8 : Int32) (h0 : Heap) (O0 : Old Z Z.heap.size h0) (p1 : Arv Z h0 a k (.char) (9 : Int32) [(.int e0), (.int e1), (.int e2), (.int e3), (.int e4), (.int e5), (.int e6), (.int e7), (.int e8)] (.int 0)) (p2 : C8 e0) (p3 : C8 e1) (p4 : C8 e2) (p5 : C8 e3) (p6 : C8 e4) (p7 : C8 e5) : Con false [] l Z (⟨"com/example/hew/hew/MethodKindNounPinLaw", "take", "([CI)Ljava/lang/String;"⟩ : MethodName) method_6_code 2 (some (.object "java/lang/String")) [] (rm4 4 3 16 66) #[(.ref a), (.int 6)] h0 [] (rvl (Q_take9_6 Z a k e0 e1 e2 e3 e4 e5 e6 e7 e8 h0)) := by
  refine conN G (plainFor_of_name pn4) O0 (fun m => ef12 m a (6 : Int32)) ?_
  intro _ _ _ m_ _ _ _ D hml hret hlk hnm
  refine go_iload_n 1 (D d12_0) rfl rfl ?_
  refine go_ifT 15 (D d12_1) (by decide) rfl (by decide) ?_
  refine go_iload_n 16 (D d12_15) rfl rfl ?_
  refine go_iconst 17 (v := 1) (D d12_16) rfl rfl ?_
  refine go_icT 37 (D d12_17) (by decide) rfl (by decide) ?_
  refine go_iload_n 38 (D d12_37) rfl rfl ?_
  refine go_iconst 39 (v := 2) (D d12_38) rfl rfl ?_
  refine go_icT 65 (D d12_39) (by decide) rfl (by decide) ?_
  refine go_iload_n 66 (D d12_65) rfl rfl ?_
  refine go_iconst 67 (v := 3) (D d12_66) rfl rfl ?_
  refine go_icT 99 (D d12_67) (by decide) rfl (by decide) ?_
  refine go_iload_n 100 (D d12_99) rfl rfl ?_
  refine go_iconst 101 (v := 4) (D d12_100) rfl rfl ?_
  refine go_icT 139 (D d12_101) (by decide) rfl (by decide) ?_
  refine go_iload_n 140 (D d12_139) rfl rfl ?_
  refine go_iconst 141 (v := 5) (D d12_140) rfl rfl ?_
  refine go_icT 185 (D d12_141) (by decide) rfl (by decide) ?_
  refine go_iload_n 186 (D d12_185) rfl rfl ?_
  refine go_bipush 188 (v := 6) (D d12_186) rfl rfl ?_
  refine go_icF 191 (D d12_188) rfl (by decide) ?_
  refine go_newO 194 (cells' := 1) (slots' := 4) (wk G 61) (wk G 13) (wk G 12) (D d12_191) rfl rfl rfl (by decide) (by decide) (fun h1 a2 g3 X4 E5 D6 U7 => ?_)
  refine go_dup 195 (D d12_194) rfl rfl ?_
  refine go_bipush 197 (v := 6) (D d12_195) rfl rfl ?_
  refine go_newP 199 (cells' := 2) (slots' := 10) (cap := 6) (vs := [(.int 0), (.int 0), (.int 0), (.int 0), (.int 0), (.int 0)]) (ty := .char) (dv := .int 0) (wk G 19) rfl rfl (D d12_197) rfl (by decide) rfl (by decide) rfl rfl rfl (by decide) (by decide) (fun h8 a9 k13 g10 X11 A12 => ?_)
  refine go_dup 200 (D d12_199) rfl rfl ?_
  refine go_iconst 201 (v := 0) (D d12_200) rfl rfl ?_
  refine go_aload_n 202 (D d12_201) rfl rfl rfl ?_
  refine go_iconst 203 (v := 0) (D d12_202) rfl rfl ?_
  have K14 : Keep h0 h1 [] := ((Keep.refl h0 []).ext X4)
  have K15 : Keep h0 h8 [] := (K14.ext X11)
  have A16 := (p1.keep K15 nin0)
  refine go_caload 204 (i := 0) (v := (.int e0)) A16 (by decide) (by decide) rfl rfl (D d12_203) rfl ?_
  refine go_stC 205 (i := 0) (x' := e0) (vs' := [(.int e0), (.int 0), (.int 0), (.int 0), (.int 0), (.int 0)]) A12 (Nat.le_trans O0.2.1 (Nat.le_trans K14.1 (Nat.le_of_eq g10))) (by decide) (by decide) rfl (nb rfl) (i2c_c8 p2) rfl (D d12_204) rfl (fun h17 W18 A19 => ?_)
  refine go_dup 206 (D d12_205) rfl rfl ?_
  refine go_iconst 207 (v := 1) (D d12_206) rfl rfl ?_
  refine go_aload_n 208 (D d12_207) rfl rfl rfl ?_
  refine go_iconst 209 (v := 1) (D d12_208) rfl rfl ?_
  have A20 := (A16.other W18 (Nat.ne_of_lt (Nat.lt_of_lt_of_le (Nat.lt_of_lt_of_le p1.lt K14.1) (Nat.le_of_eq g10))))
  refine go_caload 210 (i := 1) (v := (.int e1)) A20 (by decide) (by decide) rfl rfl (D d12_209) rfl ?_
  refine go_stC 211 (i := 1) (x' := e1) (vs' := [(.int e0), (.int e1), (.int 0), (.int 0), (.int 0), (.int 0)]) A19 (Nat.le_trans O0.2.1 (Nat.le_trans K14.1 (Nat.le_of_eq g10))) (by decide) (by decide) rfl (nb rfl) (i2c_c8 p3) rfl (D d12_210) rfl (fun h21 W22 A23 => ?_)
  refine go_dup 212 (D d12_211) rfl rfl ?_
  refine go_iconst 213 (v := 2) (D d12_212) rfl rfl ?_
  refine go_aload_n 214 (D d12_213) rfl rfl rfl ?_
  refine go_iconst 215 (v := 2) (D d12_214) rfl rfl ?_
  have A24 := (A20.other W22 (Nat.ne_of_lt (Nat.lt_of_lt_of_le (Nat.lt_of_lt_of_le p1.lt K14.1) (Nat.le_of_eq g10))))
  refine go_caload 216 (i := 2) (v := (.int e2)) A24 (by decide) (by decide) rfl rfl (D d12_215) rfl ?_
  refine go_stC 217 (i := 2) (x' := e2) (vs' := [(.int e0), (.int e1), (.int e2), (.int 0), (.int 0), (.int 0)]) A23 (Nat.le_trans O0.2.1 (Nat.le_trans K14.1 (Nat.le_of_eq g10))) (by decide) (by decide) rfl (nb rfl) (i2c_c8 p4) rfl (D d12_216) rfl (fun h25 W26 A27 => ?_)
  refine go_dup 218 (D d12_217) rfl rfl ?_
  refine go_iconst 219 (v := 3) (D d12_218) rfl rfl ?_
  refine go_aload_n 220 (D d12_219) rfl rfl rfl ?_
  refine go_iconst 221 (v := 3) (D d12_220) rfl rfl ?_
  have A28 := (A24.other W26 (Nat.ne_of_lt (Nat.lt_of_lt_of_le (Nat.lt_of_lt_of_le p1.lt K14.1) (Nat.le_of_eq g10))))
  refine go_caload 222 (i := 3) (v := (.int e3)) A28 (by decide) (by decide) rfl rfl (D d12_221) rfl ?_
  refine go_stC 223 (i := 3) (x' := e3) (vs' := [(.int e0), (.int e1), (.int e2), (.int e3), (.int 0), (.int 0)]) A27 (Nat.le_trans O0.2.1 (Nat.le_trans K14.1 (Nat.le_of_eq g10))) (by decide) (by decide) rfl (nb rfl) (i2c_c8 p5) rfl (D d12_222) rfl (fun h29 W30 A31 => ?_)
  refine go_dup 224 (D d12_223) rfl rfl ?_
  refine go_iconst 225 (v := 4) (D d12_224) rfl rfl ?_
  refine go_aload_n 226 (D d12_225) rfl rfl rfl ?_
  refine go_iconst 227 (v := 4) (D d12_226) rfl rfl ?_
  have A32 := (A28.other W30 (Nat.ne_of_lt (Nat.lt_of_lt_of_le (Nat.lt_of_lt_of_le p1.lt K14.1) (Nat.le_of_eq g10))))
  refine go_caload 228 (i := 4) (v := (.int e4)) A32 (by decide) (by decide) rfl rfl (D d12_227) rfl ?_
  refine go_stC 229 (i := 4) (x' := e4) (vs' := [(.int e0), (.int e1), (.int e2), (.int e3), (.int e4), (.int 0)]) A31 (Nat.le_trans O0.2.1 (Nat.le_trans K14.1 (Nat.le_of_eq g10))) (by decide) (by decide) rfl (nb rfl) (i2c_c8 p6) rfl (D d12_228) rfl (fun h33 W34 A35 => ?_)
  refine go_dup 230 (D d12_229) rfl rfl ?_
  refine go_iconst 231 (v := 5) (D d12_230) rfl rfl ?_
  refine go_aload_n 232 (D d12_231) rfl rfl rfl ?_
  refine go_iconst 233 (v := 5) (D d12_232) rfl rfl ?_
  have A36 := (A32.other W34 (Nat.ne_of_lt (Nat.lt_of_lt_of_le (Nat.lt_of_lt_of_le p1.lt K14.1) (Nat.le_of_eq g10))))
  refine go_caload 234 (i := 5) (v := (.int e5)) A36 (by decide) (by decide) rfl rfl (D d12_233) rfl ?_
  refine go_stC 235 (i := 5) (x' := e5) (vs' := [(.int e0), (.int e1), (.int e2), (.int e3), (.int e4), (.int e5)]) A35 (Nat.le_trans O0.2.1 (Nat.le_trans K14.1 (Nat.le_of_eq g10))) (by decide) (by decide) rfl (nb rfl) (i2c_c8 p7) rfl (D d12_234) rfl (fun h37 W38 A39 => ?_)
  have K40 : Keep h1 h8 [] := ((Keep.refl h1 []).ext X11)
  have K41 : Keep h1 h17 [] := (K40.wr W18 (Or.inr (Nat.le_of_eq g10)))
  have K42 : Keep h1 h21 [] := (K41.wr W22 (Or.inr (Nat.le_of_eq g10)))
  have K43 : Keep h1 h25 [] := (K42.wr W26 (Or.inr (Nat.le_of_eq g10)))
  have K44 : Keep h1 h29 [] := (K43.wr W30 (Or.inr (Nat.le_of_eq g10)))
  have K45 : Keep h1 h33 [] := (K44.wr W34 (Or.inr (Nat.le_of_eq g10)))
  have K46 : Keep h1 h37 [] := (K45.wr W38 (Or.inr (Nat.le_of_eq g10)))
  have E47 := (E5.keep K46)
  have F48 := D6 (Or.inr (wk G 15)) (ty := (.array .byte)) (by decide)
  have F49 := (F48.keep K46 nin0)
  have F50 := D6 (Or.inr (wk G 16)) (ty := .byte) (by decide)
  have F51 := (F50.keep K46 nin0)
  refine go_old (fun O52 => ?_)
  refine callI0 (cells' := 3) (slots' := 16) (Wd := 1) (argsL := [(.ref a9)]) (rest := [(.ref a2)]) (pay_new G O52 (cs := [e0, e1, e2, e3, e4, e5]) (n := 6) (Nat.le_trans O0.2.1 (Nat.le_of_eq g3)) E47 F49 F51 A39 rfl rfl (by decide) (by decide) (c8c p2 (c8c p3 (c8c p4 (c8c p5 (c8c p6 (c8c p7 c8n)))))) (by decide) (by decide)) rfl (wk G 62) (wk G 63) (wk G 64) pd8 (sz hml) (allS (Nat.le_trans O0.2.1 (Nat.le_of_eq g3)) all0) (fun _ hal => (sfS safe_nil sf0)) (D d12_235) (k_n 238 rfl ?_)
  rintro h53 S55 K54
  have K56 : Keep h0 h17 [] := (K15.wr W18 (Or.inr (Nat.le_trans K14.1 (Nat.le_of_eq g10))))
  have K57 : Keep h0 h21 [] := (K56.wr W22 (Or.inr (Nat.le_trans K14.1 (Nat.le_of_eq g10))))
  have K58 : Keep h0 h25 [] := (K57.wr W26 (Or.inr (Nat.le_trans K14.1 (Nat.le_of_eq g10))))
  have K59 : Keep h0 h29 [] := (K58.wr W30 (Or.inr (Nat.le_trans K14.1 (Nat.le_of_eq g10))))
  have K60 : Keep h0 h33 [] := (K59.wr W34 (Or.inr (Nat.le_trans K14.1 (Nat.le_of_eq g10))))
  have K61 : Keep h0 h37 [] := (K60.wr W38 (Or.inr (Nat.le_trans K14.1 (Nat.le_of_eq g10))))
  have K62 : Keep h0 h53 [] := (K61.trans K54 (allS (Or.inr (Nat.le_of_eq g3)) all0))
  refine go_areturn hret hlk rfl rfl (D d12_238) (by decide) (by decide) ⟨_, rfl, ⟨a2, rfl, (Nat.le_of_eq g3), S55⟩⟩ K62
def Q_take3_2 (Z : State) (a : Addr) (k : ClassId) (e0 e1 e2 : Int32) (h0 : Heap) (xv : Value) (h : Heap) : Prop := ∃ (r : Addr), (.ref r) = xv ∧ h0.size ≤ r ∧ Str Z h r [e0, e1]
theorem c_take3_2 (G : GH Z a0) (a : Addr) (k : ClassId) (e0 e1 e2 : Int32) (h0 : Heap) (O0 : Old Z Z.heap.size h0) (p1 : Arv Z h0 a k (.char) (3 : Int32) [(.int e0), (.int e1), (.int e2)] (.int 0)) (p2 : C8 e0) (p3 : C8 e1) : Con false [] l Z (⟨"com/example/hew/hew/MethodKindNounPinLaw", "take", "([CI)Ljava/lang/String;"⟩ : MethodName) method_6_code 2 (some (.object "java/lang/String")) [] (rm4 4 3 8 66) #[(.ref a), (.int 2)] h0 [] (rvl (Q_take3_2 Z a k e0 e1 e2 h0)) := by
  refine conN G (plainFor_of_name pn4) O0 (fun m => ef12 m a (2 : Int32)) ?_
  intro _ _ _ m_ _ _ _ D hml hret hlk hnm
  refine go_iload_n 1 (D d12_0) rfl rfl ?_
  refine go_ifT 15 (D d12_1) (by decide) rfl (by decide) ?_
  refine go_iload_n 16 (D d12_15) rfl rfl ?_
  refine go_iconst 17 (v := 1) (D d12_16) rfl rfl ?_
  refine go_icT 37 (D d12_17) (by decide) rfl (by decide) ?_
  refine go_iload_n 38 (D d12_37) rfl rfl ?_
  refine go_iconst 39 (v := 2) (D d12_38) rfl rfl ?_
  refine go_icF 42 (D d12_39) rfl (by decide) ?_
  refine go_newO 45 (cells' := 1) (slots' := 4) (wk G 61) (wk G 13) (wk G 12) (D d12_42) rfl rfl rfl (by decide) (by decide) (fun h1 a2 g3 X4 E5 D6 U7 => ?_)
  refine go_dup 46 (D d12_45) rfl rfl ?_
  refine go_iconst 47 (v := 2) (D d12_46) rfl rfl ?_
  refine go_newP 49 (cells' := 2) (slots' := 6) (cap := 2) (vs := [(.int 0), (.int 0)]) (ty := .char) (dv := .int 0) (wk G 19) rfl rfl (D d12_47) rfl (by decide) rfl (by decide) rfl rfl rfl (by decide) (by decide) (fun h8 a9 k13 g10 X11 A12 => ?_)
  refine go_dup 50 (D d12_49) rfl rfl ?_
  refine go_iconst 51 (v := 0) (D d12_50) rfl rfl ?_
  refine go_aload_n 52 (D d12_51) rfl rfl rfl ?_
  refine go_iconst 53 (v := 0) (D d12_52) rfl rfl ?_
  have K14 : Keep h0 h1 [] := ((Keep.refl h0 []).ext X4)
  have K15 : Keep h0 h8 [] := (K14.ext X11)
  have A16 := (p1.keep K15 nin0)
  refine go_caload 54 (i := 0) (v := (.int e0)) A16 (by decide) (by decide) rfl rfl (D d12_53) rfl ?_
  refine go_stC 55 (i := 0) (x' := e0) (vs' := [(.int e0), (.int 0)]) A12 (Nat.le_trans O0.2.1 (Nat.le_trans K14.1 (Nat.le_of_eq g10))) (by decide) (by decide) rfl (nb rfl) (i2c_c8 p2) rfl (D d12_54) rfl (fun h17 W18 A19 => ?_)
  refine go_dup 56 (D d12_55) rfl rfl ?_
  refine go_iconst 57 (v := 1) (D d12_56) rfl rfl ?_
  refine go_aload_n 58 (D d12_57) rfl rfl rfl ?_
  refine go_iconst 59 (v := 1) (D d12_58) rfl rfl ?_
  have A20 := (A16.other W18 (Nat.ne_of_lt (Nat.lt_of_lt_of_le (Nat.lt_of_lt_of_le p1.lt K14.1) (Nat.le_of_eq g10))))
  refine go_caload 60 (i := 1) (v := (.int e1)) A20 (by decide) (by decide) rfl rfl (D d12_59) rfl ?_
  refine go_stC 61 (i := 1) (x' := e1) (vs' := [(.int e0), (.int e1)]) A19 (Nat.le_trans O0.2.1 (Nat.le_trans K14.1 (Nat.le_of_eq g10))) (by decide) (by decide) rfl (nb rfl) (i2c_c8 p3) rfl (D d12_60) rfl (fun h21 W22 A23 => ?_)
  have K24 : Keep h1 h8 [] := ((Keep.refl h1 []).ext X11)
  have K25 : Keep h1 h17 [] := (K24.wr W18 (Or.inr (Nat.le_of_eq g10)))
  have K26 : Keep h1 h21 [] := (K25.wr W22 (Or.inr (Nat.le_of_eq g10)))
  have E27 := (E5.keep K26)
  have F28 := D6 (Or.inr (wk G 15)) (ty := (.array .byte)) (by decide)
  have F29 := (F28.keep K26 nin0)
  have F30 := D6 (Or.inr (wk G 16)) (ty := .byte) (by decide)
  have F31 := (F30.keep K26 nin0)
  refine go_old (fun O32 => ?_)
  refine callI0 (cells' := 3) (slots' := 8) (Wd := 1) (argsL := [(.ref a9)]) (rest := [(.ref a2)]) (pay_new G O32 (cs := [e0, e1]) (n := 2) (Nat.le_trans O0.2.1 (Nat.le_of_eq g3)) E27 F29 F31 A23 rfl rfl (by decide) (by decide) (c8c p2 (c8c p3 c8n)) (by decide) (by decide)) rfl (wk G 62) (wk G 63) (wk G 64) pd8 (sz hml) (allS (Nat.le_trans O0.2.1 (Nat.le_of_eq g3)) all0) (fun _ hal => (sfS safe_nil sf0)) (D d12_61) (k_n 64 rfl ?_)
  rintro h33 S35 K34
  have K36 : Keep h0 h17 [] := (K15.wr W18 (Or.inr (Nat.le_trans K14.1 (Nat.le_of_eq g10))))
  have K37 : Keep h0 h21 [] := (K36.wr W22 (Or.inr (Nat.le_trans K14.1 (Nat.le_of_eq g10))))
  have K38 : Keep h0 h33 [] := (K37.trans K34 (allS (Or.inr (Nat.le_of_eq g3)) all0))
  refine go_areturn hret hlk rfl rfl (D d12_64) (by decide) (by decide) ⟨_, rfl, ⟨a2, rfl, (Nat.le_of_eq g3), S35⟩⟩ K38
def Q_noun4_6 (Z : State) (a b p : Addr) (g0 g1 g2 g3 c0 c1 c2 c3 c4 c5 : Int32) (h0 : Heap) (xv : Value) (h : Heap) : Prop := ∃ (r : Addr), (.ref r) = xv ∧ Str Z h r [c4, c5]
def Q_subi4_6 (Z : State) (a : Addr) (c0 c1 c2 c3 c4 c5 : Int32) (h0 : Heap) (xv : Value) (h : Heap) : Prop := ∃ (r : Addr), (.ref r) = xv ∧ Str Z h r [c4, c5]
def Q_sub4_6_6 (Z : State) (a : Addr) (c0 c1 c2 c3 c4 c5 : Int32) (h0 : Heap) (xv : Value) (h : Heap) : Prop := ∃ (r : Addr), (.ref r) = xv ∧ Str Z h r [c4, c5]
def Q_news4_2_6 (Z : State) (t : Addr) (k : ClassId) (c0 c1 c2 c3 c4 c5 : Int32) (h0 : Heap) (xv : Value) (h : Heap) : Prop := ∃ (r : Addr), (.ref r) = xv ∧ Str Z h r [c4, c5]
def Q_cor4_6_6 (Z : State) (t : Addr) (k : ClassId) (b0 b1 b2 b3 b4 b5 : Int32) (h0 : Heap) (xv : Value) (h : Heap) : Prop := ∃ (r : Addr) (k2 : ClassId), (.ref r) = xv ∧ h0.size ≤ r ∧ Arv Z h r k2 (.byte) (2 : Int32) [(.int b4), (.int b5)] (.int 0)
def Q_corb4_6_6 (Z : State) (t : Addr) (k : ClassId) (b0 b1 b2 b3 b4 b5 : Int32) (h0 : Heap) (xv : Value) (h : Heap) : Prop := ∃ (r : Addr) (k2 : ClassId), (.ref r) = xv ∧ h0.size ≤ r ∧ Arv Z h r k2 (.byte) (2 : Int32) [(.int b4), (.int b5)] (.int 0)
def Q_min2_2 (Z : State)  (h0 : Heap) (xv : Value) (h : Heap) : Prop := (.int 2) = xv ∧ h0 = h
theorem c_min2_2 (G : GH Z a0)   (h0 : Heap) (O0 : Old Z Z.heap.size h0)  : Con false [] l Z (⟨"java/lang/Math", "min", "(II)I"⟩ : MethodName) jdk_29_method_69_code 2 (some .int) [] (rm4 0 0 0 0) #[(.int 2), (.int 2)] h0 [] (rvl (Q_min2_2 Z h0)) := by
  refine conN G (Jvm.Free.JP.mathPlain rfl (by decide)) O0 (fun m => ef8 m (2 : Int32) (2 : Int32)) ?_
  intro _ _ _ m_ _ _ _ D hml hret hlk hnm
  refine go_iload_n 1 (D d19_0) rfl rfl ?_
  refine go_iload_n 2 (D d19_1) rfl rfl ?_
  refine go_icF 5 (D d19_2) rfl (by decide) ?_
  refine go_iload_n 6 (D d19_5) rfl rfl ?_
  refine go_goto 10 (D d19_6) (by decide) rfl ?_
  refine go_ireturn hret hlk rfl (by simp) (D d19_10) (by decide) (by decide) ⟨_, rfl, ⟨rfl, rfl⟩⟩ (Keep.refl h0 [])
theorem c_corb4_6_6 (G : GH Z a0) (t : Addr) (k : ClassId) (b0 b1 b2 b3 b4 b5 : Int32) (h0 : Heap) (O0 : Old Z Z.heap.size h0) (p1 : Arv Z h0 t k (.byte) (6 : Int32) [(.int b0), (.int b1), (.int b2), (.int b3), (.int b4), (.int b5)] (.int 0)) : Con false [] l Z (⟨"java/util/Arrays", "copyOfRangeByte", "([BII)[B"⟩ : MethodName) jdk_65_method_133_code 5 (some (.array .byte)) [] (rm4 1 1 2 18) #[(.ref t), (.int 4), (.int 6)] h0 [] (rvl (Q_corb4_6_6 Z t k b0 b1 b2 b3 b4 b5 h0)) := by
  refine conN G (plainFor_of_name pn3) O0 (fun m => ef13 m t (4 : Int32) (6 : Int32)) ?_
  intro _ _ _ m_ _ _ _ D hml hret hlk hnm
  refine go_iload_n 1 (D d18_0) rfl rfl ?_
  refine go_iload_n 2 (D d18_1) rfl rfl ?_
  refine callS0 (cells' := 0) (slots' := 0) (Wd := 0) (argsL := [(.int 4), (.int 6)]) (rest := []) (pay_of (a0 := a0) (c_chkl l G (4 : Int32) (6 : Int32) h0 O0 (by decide)) (wk G 120) (wk G 113)) (wk G 118) (wk G 119) (wk G 113) (wk G 120) pd16 (sz hml) all0 sf00 (D d18_2) (k_n 5 rfl ?_)
  rintro  h1 rfl K2
  refine go_iload_n 6 (D d18_5) rfl rfl ?_
  refine go_iload_n 7 (D d18_6) rfl rfl ?_
  refine go_isub 8 (z := (2 : Int32)) (D d18_7) rfl (by decide) ?_
  refine go_istore_n 9 (ls' := #[vr t, vi 4, vi 6, vi 2, un]) (D d18_8) rfl rfl ?_
  refine go_iload_n 10 (D d18_9) rfl rfl ?_
  refine go_newP 12 (cells' := 1) (slots' := 2) (cap := 2) (vs := [(.int 0), (.int 0)]) (ty := .byte) (dv := .int 0) (wk G 14) rfl rfl (D d18_10) rfl (by decide) rfl (by decide) rfl rfl rfl (by decide) (by decide) (fun h3 a4 k8 g5 X6 A7 => ?_)
  refine go_astore 14 (ls' := #[vr t, vi 4, vi 6, vi 2, vr a4]) (D d18_12) rfl rfl rfl ?_
  refine go_aload_n 15 (D d18_14) rfl rfl rfl ?_
  refine go_iload_n 16 (D d18_15) rfl rfl ?_
  refine go_aload 18 (D d18_16) rfl rfl rfl ?_
  refine go_iconst 19 (v := 0) (D d18_18) rfl rfl ?_
  refine go_aload_n 20 (D d18_19) rfl rfl rfl ?_
  have K9 : Keep h0 h3 [] := ((Keep.refl h0 []).ext X6)
  have A10 := (p1.keep K9 nin0)
  refine go_arraylength 21 A10 (D d18_20) rfl ?_
  refine go_iload_n 22 (D d18_21) rfl rfl ?_
  refine go_isub 23 (z := (2 : Int32)) (D d18_22) rfl (by decide) ?_
  refine go_iload_n 24 (D d18_23) rfl rfl ?_
  refine go_old (fun O11 => ?_)
  refine callS0 (cells' := 1) (slots' := 2) (Wd := 4) (argsL := [(.int 2), (.int 2)]) (rest := [(.int 0), (.ref a4), (.int 4), (.ref t)]) (pay_of (a0 := a0) (c_min2_2 l G  h3 O11 ) (wk G 124) (wk G 123)) (wk G 121) (wk G 122) (wk G 123) (wk G 124) pd17 (sz hml) all0 sf00 (D d18_24) (k_v 27 rfl ?_)
  rintro _ h12 ⟨rfl, rfl⟩ K13
  refine go_acopy 30 (Wd := 0) (vd' := [(.int b4), (.int b5)]) (wk G 125) (wk G 128) (wk G 126) (wk G 127) rfl A10 A7 rfl (by decide) (by decide) (by decide) (nb rfl) (nb rfl) (nb rfl) (Nat.le_trans O0.2.1 (Nat.le_of_eq g5)) rfl (sz hml) (by decide) (by decide) (by decide) (D d18_27) rfl (fun h14 K15 A16 => ?_)
  refine go_aload 32 (D d18_30) rfl rfl rfl ?_
  have K17 : Keep h0 h14 [] := (K9.trans K15 (allS (Or.inr (Nat.le_of_eq g5)) all0))
  refine go_areturn hret hlk rfl rfl (D d18_32) (by decide) (by decide) ⟨_, rfl, ⟨a4, k8, rfl, (Nat.le_of_eq g5), A16⟩⟩ K17
theorem c_cor4_6_6 (G : GH Z a0) (t : Addr) (k : ClassId) (b0 b1 b2 b3 b4 b5 : Int32) (h0 : Heap) (O0 : Old Z Z.heap.size h0) (p1 : Arv Z h0 t k (.byte) (6 : Int32) [(.int b0), (.int b1), (.int b2), (.int b3), (.int b4), (.int b5)] (.int 0)) : Con false [] l Z (⟨"java/util/Arrays", "copyOfRange", "([BII)[B"⟩ : MethodName) jdk_65_method_132_code 3 (some (.array .byte)) [] (rm4 2 1 2 34) #[(.ref t), (.int 4), (.int 6)] h0 [] (rvl (Q_cor4_6_6 Z t k b0 b1 b2 b3 b4 b5 h0)) := by
  refine conN G (plainFor_of_name pn3) O0 (fun m => ef14 m t (4 : Int32) (6 : Int32)) ?_
  intro _ _ _ m_ _ _ _ D hml hret hlk hnm
  refine go_iload_n 1 (D d17_0) rfl rfl ?_
  refine go_ifT 10 (D d17_1) (by decide) rfl (by decide) ?_
  refine go_aload_n 11 (D d17_10) rfl rfl rfl ?_
  refine go_iload_n 12 (D d17_11) rfl rfl ?_
  refine go_iload_n 13 (D d17_12) rfl rfl ?_
  refine callS0 (cells' := 1) (slots' := 2) (Wd := 0) (argsL := [(.ref t), (.int 4), (.int 6)]) (rest := []) (pay_of (a0 := a0) (c_corb4_6_6 l G t k b0 b1 b2 b3 b4 b5 h0 O0 p1) (wk G 117) (wk G 113)) (wk G 115) (wk G 116) (wk G 113) (wk G 117) pd18 (sz hml) all0 sf00 (D d17_13) (k_v 16 rfl ?_)
  rintro _ h1 ⟨r3, r4, rfl, f5, f6⟩ K2
  have K7 : Keep h0 h1 [] := ((Keep.refl h0 []).trans K2 all0)
  refine go_areturn hret hlk rfl rfl (D d17_16) (by decide) (by decide) ⟨_, rfl, ⟨r3, r4, rfl, f5, f6⟩⟩ K7
theorem c_news4_2_6 (G : GH Z a0) (t : Addr) (k : ClassId) (c0 c1 c2 c3 c4 c5 : Int32) (h0 : Heap) (O0 : Old Z Z.heap.size h0) (p1 : Arv Z h0 t k (.byte) (6 : Int32) [(.int (c0).toInt8.toInt32), (.int (c1).toInt8.toInt32), (.int (c2).toInt8.toInt32), (.int (c3).toInt8.toInt32), (.int (c4).toInt8.toInt32), (.int (c5).toInt8.toInt32)] (.int 0)) (p2 : C8 c0) (p3 : C8 c1) (p4 : C8 c2) (p5 : C8 c3) (p6 : C8 c4) (p7 : C8 c5) : Con false [] l Z (⟨"java/lang/StringLatin1", "newString", "([BII)Ljava/lang/String;"⟩ : MethodName) jdk_43_method_47_code 3 (some (.object "java/lang/String")) [] (rm4 3 2 6 50) #[(.ref t), (.int 4), (.int 2)] h0 [] (rvl (Q_news4_2_6 Z t k c0 c1 c2 c3 c4 c5 h0)) := by
  refine conN G (plainFor_of_name pn5) O0 (fun m => ef14 m t (4 : Int32) (2 : Int32)) ?_
  intro _ _ _ m_ _ _ _ D hml hret hlk hnm
  refine go_iload_n 1 (D d16_0) rfl rfl ?_
  refine go_ifT 7 (D d16_1) (by decide) rfl (by decide) ?_
  refine go_newO 10 (cells' := 1) (slots' := 4) (wk G 110) (wk G 13) (wk G 12) (D d16_7) rfl rfl rfl (by decide) (by decide) (fun h1 a2 g3 X4 E5 D6 U7 => ?_)
  refine go_dup 11 (D d16_10) rfl rfl ?_
  refine go_aload_n 12 (D d16_11) rfl rfl rfl ?_
  refine go_iload_n 13 (D d16_12) rfl rfl ?_
  refine go_iload_n 14 (D d16_13) rfl rfl ?_
  refine go_iload_n 15 (D d16_14) rfl rfl ?_
  refine go_iadd 16 (z := (6 : Int32)) (D d16_15) rfl (by decide) ?_
  have K8 : Keep h0 h1 [] := ((Keep.refl h0 []).ext X4)
  have A9 := (p1.keep K8 nin0)
  refine go_old (fun O10 => ?_)
  refine callS0 (cells' := 2) (slots' := 6) (Wd := 2) (argsL := [(.ref t), (.int 4), (.int 6)]) (rest := [(.ref a2), (.ref a2)]) (pay_of (a0 := a0) (c_cor4_6_6 l G t k ((c0).toInt8.toInt32) ((c1).toInt8.toInt32) ((c2).toInt8.toInt32) ((c3).toInt8.toInt32) ((c4).toInt8.toInt32) ((c5).toInt8.toInt32) h1 O10 A9) (wk G 114) (wk G 113)) (wk G 111) (wk G 112) (wk G 113) (wk G 114) pd18 (sz hml) all0 sf00 (D d16_16) (k_v 19 rfl ?_)
  rintro _ h11 ⟨r13, r14, rfl, f15, f16⟩ K12
  refine go_iconst 20 (v := 0) (D d16_19) rfl rfl ?_
  have K17 : Keep h1 h11 [] := ((Keep.refl h1 []).trans K12 all0)
  have E18 := (E5.keep K17)
  have F19 := D6 (Or.inr (wk G 15)) (ty := (.array .byte)) (by decide)
  have F20 := (F19.keep K17 nin0)
  have F21 := D6 (Or.inr (wk G 16)) (ty := .byte) (by decide)
  have F22 := (F21.keep K17 nin0)
  refine go_old (fun O23 => ?_)
  refine callI0 (cells' := 2) (slots' := 6) (Wd := 1) (argsL := [(.ref r13), (.int 0)]) (rest := [(.ref a2)]) (pay_of (a0 := a0) (c_strbb l G a2 r13 h11 O23 E18 (Nat.le_trans O0.2.1 (Nat.le_of_eq g3)) F20 F22) (wk G 131) (wk G 12)) rfl (wk G 129) (wk G 130) (wk G 131) pd19 (sz hml) (allS (Nat.le_trans O0.2.1 (Nat.le_of_eq g3)) all0) (fun _ hal => (sfS safe_nil sf0)) (D d16_20) (k_n 23 rfl ?_)
  rintro  h24 ⟨f26, f27⟩ K25
  have K28 : Keep h0 h11 [] := (K8.trans K12 all0)
  have K29 : Keep h0 h24 [] := (K28.trans K25 (allS (Or.inr (Nat.le_of_eq g3)) all0))
  have E30 := (E18.keep K25)
  have A31 := (f16.keep K25 (ninS (Nat.ne_of_gt (Nat.lt_of_lt_of_le E5.lt f15)) nin0))
  have S32 : Str Z h24 a2 [c4, c5] := ⟨r13, r14, E30, f26, f27, A31, (c8c p6 (c8c p7 c8n)), Nat.le_of_ble_eq_true rfl⟩
  refine go_areturn hret hlk rfl rfl (D d16_23) (by decide) (by decide) ⟨_, rfl, ⟨a2, rfl, S32⟩⟩ K29
theorem c_sub4_6_6 (G : GH Z a0) (a : Addr) (c0 c1 c2 c3 c4 c5 : Int32) (h0 : Heap) (O0 : Old Z Z.heap.size h0) (p1 : Str Z h0 a [c0, c1, c2, c3, c4, c5]) : Con false [] l Z (⟨"java/lang/String", "substring", "(II)Ljava/lang/String;"⟩ : MethodName) jdk_42_method_92_code 5 (some (.object "java/lang/String")) [] (rm4 4 2 6 64) #[(.ref a), (.int 4), (.int 6)] h0 [] (rvl (Q_sub4_6_6 Z a c0 c1 c2 c3 c4 c5 h0)) := by
  refine conN G (plainFor_of_name pn1) O0 (fun m => ef13 m a (4 : Int32) (6 : Int32)) ?_
  intro _ _ _ m_ _ _ _ D hml hret hlk hnm
  have q1 : C8 c0 := by obtain ⟨_, _, _, _, _, _, q, _⟩ := id p1; exact q _ (by simp)
  have q2 : C8 c1 := by obtain ⟨_, _, _, _, _, _, q, _⟩ := id p1; exact q _ (by simp)
  have q3 : C8 c2 := by obtain ⟨_, _, _, _, _, _, q, _⟩ := id p1; exact q _ (by simp)
  have q4 : C8 c3 := by obtain ⟨_, _, _, _, _, _, q, _⟩ := id p1; exact q _ (by simp)
  have q5 : C8 c4 := by obtain ⟨_, _, _, _, _, _, q, _⟩ := id p1; exact q _ (by simp)
  have q6 : C8 c5 := by obtain ⟨_, _, _, _, _, _, q, _⟩ := id p1; exact q _ (by simp)
  refine go_aload_n 1 (D d15_0) rfl rfl rfl ?_
  refine callV0 (cells' := 0) (slots' := 0) (Wd := 0) (argsL := []) (rest := []) (pay_len G O0 (n := (6 : Int32)) p1 rfl (by decide) (by decide)) p1.exa (wk G 95) (wk G 24) (wk G 26) (wk G 26) (wk G 25) pd5 (sz hml) all0 sf00 (D d15_1) (k_v 4 rfl ?_)
  rintro _ _ ⟨rfl, rfl⟩ -
  refine go_istore_n 5 (ls' := #[vr a, vi 4, vi 6, vi 6, un]) (D d15_4) rfl rfl ?_
  refine go_iload_n 6 (D d15_5) rfl rfl ?_
  refine go_iload_n 7 (D d15_6) rfl rfl ?_
  refine go_iload_n 8 (D d15_7) rfl rfl ?_
  refine callS0 (cells' := 0) (slots' := 0) (Wd := 0) (argsL := [(.int 4), (.int 6), (.int 6)]) (rest := []) (pay_of (a0 := a0) (c_cbbe l G (4 : Int32) (6 : Int32) (6 : Int32) h0 O0 (by decide) (by decide) (by decide)) (wk G 103) (wk G 12)) (wk G 101) (wk G 102) (wk G 12) (wk G 103) pd10 (sz hml) all0 sf00 (D d15_8) (k_n 11 rfl ?_)
  rintro  h7 rfl K8
  refine go_iload_n 12 (D d15_11) rfl rfl ?_
  refine go_ifT 22 (D d15_12) (by decide) rfl (by decide) ?_
  refine go_iload_n 23 (D d15_22) rfl rfl ?_
  refine go_iload_n 24 (D d15_23) rfl rfl ?_
  refine go_isub 25 (z := (2 : Int32)) (D d15_24) rfl (by decide) ?_
  refine go_istore 27 (ls' := #[vr a, vi 4, vi 6, vi 6, vi 2]) (D d15_25) rfl rfl ?_
  refine go_aload_n 28 (D d15_27) rfl rfl rfl ?_
  obtain ⟨t9, k10, E11, F12, F13, A14, B15, L16⟩ := id p1
  refine callV0 (cells' := 0) (slots' := 0) (Wd := 0) (argsL := []) (rest := []) (pay_of (a0 := a0) (c_islatin l G a h0 O0 F13) (wk G 45) (wk G 12)) E11 (wk G 41) (wk G 42) (wk G 44) (wk G 44) (wk G 43) pd11 (sz hml) all0 sf00 (D d15_28) (k_v 31 rfl ?_)
  rintro _ h17 ⟨rfl, rfl⟩ K18
  refine go_ifF 34 (D d15_31) rfl (by decide) ?_
  refine go_aload_n 35 (D d15_34) rfl rfl rfl ?_
  refine go_getF 38 (wk G 28) Via.refl F12 (D d15_35) rfl ?_
  refine go_iload_n 39 (D d15_38) rfl rfl ?_
  refine go_iload 41 (D d15_39) rfl rfl ?_
  refine callS0 (cells' := 2) (slots' := 6) (Wd := 0) (argsL := [(.ref t9), (.int 4), (.int 2)]) (rest := []) (pay_of (a0 := a0) (c_news4_2_6 l G t9 k10 c0 c1 c2 c3 c4 c5 h0 O0 A14 q1 q2 q3 q4 q5 q6) (wk G 109) (wk G 48)) (wk G 107) (wk G 108) (wk G 48) (wk G 109) pd12 (sz hml) all0 sf00 (D d15_41) (k_v 44 rfl ?_)
  rintro _ h19 ⟨r21, rfl, f22⟩ K20
  refine go_goto 57 (D d15_44) (by decide) rfl ?_
  have K23 : Keep h0 h19 [] := ((Keep.refl h0 []).trans K20 all0)
  refine go_areturn hret hlk rfl rfl (D d15_57) (by decide) (by decide) ⟨_, rfl, ⟨r21, rfl, f22⟩⟩ K23
theorem c_subi4_6 (G : GH Z a0) (a : Addr) (c0 c1 c2 c3 c4 c5 : Int32) (h0 : Heap) (O0 : Old Z Z.heap.size h0) (p1 : Str Z h0 a [c0, c1, c2, c3, c4, c5]) : Con false [] l Z (⟨"java/lang/String", "substring", "(I)Ljava/lang/String;"⟩ : MethodName) jdk_42_method_91_code 2 (some (.object "java/lang/String")) [] (rm4 5 2 6 80) #[(.ref a), (.int 4)] h0 [] (rvl (Q_subi4_6 Z a c0 c1 c2 c3 c4 c5 h0)) := by
  refine conN G (plainFor_of_name pn1) O0 (fun m => ef12 m a (4 : Int32)) ?_
  intro _ _ _ m_ _ _ _ D hml hret hlk hnm
  have q1 : C8 c0 := by obtain ⟨_, _, _, _, _, _, q, _⟩ := id p1; exact q _ (by simp)
  have q2 : C8 c1 := by obtain ⟨_, _, _, _, _, _, q, _⟩ := id p1; exact q _ (by simp)
  have q3 : C8 c2 := by obtain ⟨_, _, _, _, _, _, q, _⟩ := id p1; exact q _ (by simp)
  have q4 : C8 c3 := by obtain ⟨_, _, _, _, _, _, q, _⟩ := id p1; exact q _ (by simp)
  have q5 : C8 c4 := by obtain ⟨_, _, _, _, _, _, q, _⟩ := id p1; exact q _ (by simp)
  have q6 : C8 c5 := by obtain ⟨_, _, _, _, _, _, q, _⟩ := id p1; exact q _ (by simp)
  refine go_aload_n 1 (D d14_0) rfl rfl rfl ?_
  refine go_iload_n 2 (D d14_1) rfl rfl ?_
  refine go_aload_n 3 (D d14_2) rfl rfl rfl ?_
  refine callV0 (cells' := 0) (slots' := 0) (Wd := 2) (argsL := []) (rest := [(.int 4), (.ref a)]) (pay_len G O0 (n := (6 : Int32)) p1 rfl (by decide) (by decide)) p1.exa (wk G 95) (wk G 24) (wk G 26) (wk G 26) (wk G 25) pd5 (sz hml) all0 sf00 (D d14_3) (k_v 6 rfl ?_)
  rintro _ _ ⟨rfl, rfl⟩ -
  refine callV0 (cells' := 2) (slots' := 6) (Wd := 0) (argsL := [(.int 4), (.int 6)]) (rest := []) (pay_of (a0 := a0) (c_sub4_6_6 l G a c0 c1 c2 c3 c4 c5 h0 O0 p1) (wk G 100) (wk G 12)) p1.exa (wk G 96) (wk G 97) (wk G 99) (wk G 99) (wk G 98) pd13 (sz hml) all0 sf00 (D d14_6) (k_v 9 rfl ?_)
  rintro _ h7 ⟨r9, rfl, f10⟩ K8
  have K11 : Keep h0 h7 [] := ((Keep.refl h0 []).trans K8 all0)
  refine go_areturn hret hlk rfl rfl (D d14_9) (by decide) (by decide) ⟨_, rfl, ⟨r9, rfl, f10⟩⟩ K11
theorem c_noun4_6 (G : GH Z a0) (a b : Addr) (p : Addr) (g0 g1 g2 g3 c0 c1 c2 c3 c4 c5 : Int32) (h0 : Heap) (O0 : Old Z Z.heap.size h0) (p1 : Fld Z h0 a "com/example/hew/hew/MethodKind" "prefix" "Ljava/lang/String;" (.ref p)) (p2 : Str Z h0 p [g0, g1, g2, g3]) (p3 : Str Z h0 b [c0, c1, c2, c3, c4, c5]) : Con false [] l Z (⟨"com/example/hew/hew/MethodKind", "noun", "(Ljava/lang/String;)Ljava/lang/String;"⟩ : MethodName) prog_32_method_8_code 2 (some (.object "java/lang/String")) [] (rm4 6 2 6 93) #[(.ref a), (.ref b)] h0 [] (rvl (Q_noun4_6 Z a b p g0 g1 g2 g3 c0 c1 c2 c3 c4 c5 h0)) := by
  refine conN G (plainFor_of_name pn6) O0 (fun m => ef3 m a b) ?_
  intro _ _ _ m_ _ _ _ D hml hret hlk hnm
  refine go_aload_n 1 (D d13_0) rfl rfl rfl ?_
  refine go_aload_n 2 (D d13_1) rfl rfl rfl ?_
  refine go_getF 5 (wk G 87) Via.refl p1 (D d13_2) rfl ?_
  refine callV0 (cells' := 0) (slots' := 0) (Wd := 1) (argsL := []) (rest := [(.ref b)]) (pay_len G O0 (n := (4 : Int32)) p2 rfl (by decide) (by decide)) p2.exa (wk G 89) (wk G 24) (wk G 26) (wk G 26) (wk G 25) pd5 (sz hml) all0 sf00 (D d13_5) (k_v 8 rfl ?_)
  rintro _ _ ⟨rfl, rfl⟩ -
  refine callV0 (cells' := 2) (slots' := 6) (Wd := 0) (argsL := [(.int 4)]) (rest := []) (pay_of (a0 := a0) (c_subi4_6 l G b c0 c1 c2 c3 c4 c5 h0 O0 p3) (wk G 94) (wk G 12)) p3.exa (wk G 90) (wk G 91) (wk G 93) (wk G 93) (wk G 92) pd4 (sz hml) all0 sf00 (D d13_8) (k_v 11 rfl ?_)
  rintro _ h1 ⟨r3, rfl, f4⟩ K2
  have K5 : Keep h0 h1 [] := ((Keep.refl h0 []).trans K2 all0)
  refine go_areturn hret hlk rfl rfl (D d13_11) (by decide) (by decide) ⟨_, rfl, ⟨r3, rfl, f4⟩⟩ K5
def Q_take9_7 (Z : State) (a : Addr) (k : ClassId) (e0 e1 e2 e3 e4 e5 e6 e7 e8 : Int32) (h0 : Heap) (xv : Value) (h : Heap) : Prop := ∃ (r : Addr), (.ref r) = xv ∧ h0.size ≤ r ∧ Str Z h r [e0, e1, e2, e3, e4, e5, e6]
theorem c_take9_7 (G : GH Z a0) (a : Addr) (k : ClassId) (e0 e1 e2 e3 e4 e5 e6 e7 e8 : Int32) (h0 : Heap) (O0 : Old Z Z.heap.size h0) (p1 : Arv Z h0 a k (.char) (9 : Int32) [(.int e0), (.int e1), (.int e2), (.int e3), (.int e4), (.int e5), (.int e6), (.int e7), (.int e8)] (.int 0)) (p2 : C8 e0) (p3 : C8 e1) (p4 : C8 e2) (p5 : C8 e3) (p6 : C8 e4) (p7 : C8 e5) (p8 : C8 e6) : Con false [] l Z (⟨"com/example/hew/hew/MethodKindNounPinLaw", "take", "([CI)Ljava/lang/String;"⟩ : MethodName) method_6_code 2 (some (.object "java/lang/String")) [] (rm4 4 3 18 66) #[(.ref a), (.int 7)] h0 [] (rvl (Q_take9_7 Z a k e0 e1 e2 e3 e4 e5 e6 e7 e8 h0)) := by
  refine conN G (plainFor_of_name pn4) O0 (fun m => ef12 m a (7 : Int32)) ?_
  intro _ _ _ m_ _ _ _ D hml hret hlk hnm
  refine go_iload_n 1 (D d12_0) rfl rfl ?_
  refine go_ifT 15 (D d12_1) (by decide) rfl (by decide) ?_
  refine go_iload_n 16 (D d12_15) rfl rfl ?_
  refine go_iconst 17 (v := 1) (D d12_16) rfl rfl ?_
  refine go_icT 37 (D d12_17) (by decide) rfl (by decide) ?_
  refine go_iload_n 38 (D d12_37) rfl rfl ?_
  refine go_iconst 39 (v := 2) (D d12_38) rfl rfl ?_
  refine go_icT 65 (D d12_39) (by decide) rfl (by decide) ?_
  refine go_iload_n 66 (D d12_65) rfl rfl ?_
  refine go_iconst 67 (v := 3) (D d12_66) rfl rfl ?_
  refine go_icT 99 (D d12_67) (by decide) rfl (by decide) ?_
  refine go_iload_n 100 (D d12_99) rfl rfl ?_
  refine go_iconst 101 (v := 4) (D d12_100) rfl rfl ?_
  refine go_icT 139 (D d12_101) (by decide) rfl (by decide) ?_
  refine go_iload_n 140 (D d12_139) rfl rfl ?_
  refine go_iconst 141 (v := 5) (D d12_140) rfl rfl ?_
  refine go_icT 185 (D d12_141) (by decide) rfl (by decide) ?_
  refine go_iload_n 186 (D d12_185) rfl rfl ?_
  refine go_bipush 188 (v := 6) (D d12_186) rfl rfl ?_
  refine go_icT 239 (D d12_188) (by decide) rfl (by decide) ?_
  refine go_iload_n 240 (D d12_239) rfl rfl ?_
  refine go_bipush 242 (v := 7) (D d12_240) rfl rfl ?_
  refine go_icF 245 (D d12_242) rfl (by decide) ?_
  refine go_newO 248 (cells' := 1) (slots' := 4) (wk G 61) (wk G 13) (wk G 12) (D d12_245) rfl rfl rfl (by decide) (by decide) (fun h1 a2 g3 X4 E5 D6 U7 => ?_)
  refine go_dup 249 (D d12_248) rfl rfl ?_
  refine go_bipush 251 (v := 7) (D d12_249) rfl rfl ?_
  refine go_newP 253 (cells' := 2) (slots' := 11) (cap := 7) (vs := [(.int 0), (.int 0), (.int 0), (.int 0), (.int 0), (.int 0), (.int 0)]) (ty := .char) (dv := .int 0) (wk G 19) rfl rfl (D d12_251) rfl (by decide) rfl (by decide) rfl rfl rfl (by decide) (by decide) (fun h8 a9 k13 g10 X11 A12 => ?_)
  refine go_dup 254 (D d12_253) rfl rfl ?_
  refine go_iconst 255 (v := 0) (D d12_254) rfl rfl ?_
  refine go_aload_n 256 (D d12_255) rfl rfl rfl ?_
  refine go_iconst 257 (v := 0) (D d12_256) rfl rfl ?_
  have K14 : Keep h0 h1 [] := ((Keep.refl h0 []).ext X4)
  have K15 : Keep h0 h8 [] := (K14.ext X11)
  have A16 := (p1.keep K15 nin0)
  refine go_caload 258 (i := 0) (v := (.int e0)) A16 (by decide) (by decide) rfl rfl (D d12_257) rfl ?_
  refine go_stC 259 (i := 0) (x' := e0) (vs' := [(.int e0), (.int 0), (.int 0), (.int 0), (.int 0), (.int 0), (.int 0)]) A12 (Nat.le_trans O0.2.1 (Nat.le_trans K14.1 (Nat.le_of_eq g10))) (by decide) (by decide) rfl (nb rfl) (i2c_c8 p2) rfl (D d12_258) rfl (fun h17 W18 A19 => ?_)
  refine go_dup 260 (D d12_259) rfl rfl ?_
  refine go_iconst 261 (v := 1) (D d12_260) rfl rfl ?_
  refine go_aload_n 262 (D d12_261) rfl rfl rfl ?_
  refine go_iconst 263 (v := 1) (D d12_262) rfl rfl ?_
  have A20 := (A16.other W18 (Nat.ne_of_lt (Nat.lt_of_lt_of_le (Nat.lt_of_lt_of_le p1.lt K14.1) (Nat.le_of_eq g10))))
  refine go_caload 264 (i := 1) (v := (.int e1)) A20 (by decide) (by decide) rfl rfl (D d12_263) rfl ?_
  refine go_stC 265 (i := 1) (x' := e1) (vs' := [(.int e0), (.int e1), (.int 0), (.int 0), (.int 0), (.int 0), (.int 0)]) A19 (Nat.le_trans O0.2.1 (Nat.le_trans K14.1 (Nat.le_of_eq g10))) (by decide) (by decide) rfl (nb rfl) (i2c_c8 p3) rfl (D d12_264) rfl (fun h21 W22 A23 => ?_)
  refine go_dup 266 (D d12_265) rfl rfl ?_
  refine go_iconst 267 (v := 2) (D d12_266) rfl rfl ?_
  refine go_aload_n 268 (D d12_267) rfl rfl rfl ?_
  refine go_iconst 269 (v := 2) (D d12_268) rfl rfl ?_
  have A24 := (A20.other W22 (Nat.ne_of_lt (Nat.lt_of_lt_of_le (Nat.lt_of_lt_of_le p1.lt K14.1) (Nat.le_of_eq g10))))
  refine go_caload 270 (i := 2) (v := (.int e2)) A24 (by decide) (by decide) rfl rfl (D d12_269) rfl ?_
  refine go_stC 271 (i := 2) (x' := e2) (vs' := [(.int e0), (.int e1), (.int e2), (.int 0), (.int 0), (.int 0), (.int 0)]) A23 (Nat.le_trans O0.2.1 (Nat.le_trans K14.1 (Nat.le_of_eq g10))) (by decide) (by decide) rfl (nb rfl) (i2c_c8 p4) rfl (D d12_270) rfl (fun h25 W26 A27 => ?_)
  refine go_dup 272 (D d12_271) rfl rfl ?_
  refine go_iconst 273 (v := 3) (D d12_272) rfl rfl ?_
  refine go_aload_n 274 (D d12_273) rfl rfl rfl ?_
  refine go_iconst 275 (v := 3) (D d12_274) rfl rfl ?_
  have A28 := (A24.other W26 (Nat.ne_of_lt (Nat.lt_of_lt_of_le (Nat.lt_of_lt_of_le p1.lt K14.1) (Nat.le_of_eq g10))))
  refine go_caload 276 (i := 3) (v := (.int e3)) A28 (by decide) (by decide) rfl rfl (D d12_275) rfl ?_
  refine go_stC 277 (i := 3) (x' := e3) (vs' := [(.int e0), (.int e1), (.int e2), (.int e3), (.int 0), (.int 0), (.int 0)]) A27 (Nat.le_trans O0.2.1 (Nat.le_trans K14.1 (Nat.le_of_eq g10))) (by decide) (by decide) rfl (nb rfl) (i2c_c8 p5) rfl (D d12_276) rfl (fun h29 W30 A31 => ?_)
  refine go_dup 278 (D d12_277) rfl rfl ?_
  refine go_iconst 279 (v := 4) (D d12_278) rfl rfl ?_
  refine go_aload_n 280 (D d12_279) rfl rfl rfl ?_
  refine go_iconst 281 (v := 4) (D d12_280) rfl rfl ?_
  have A32 := (A28.other W30 (Nat.ne_of_lt (Nat.lt_of_lt_of_le (Nat.lt_of_lt_of_le p1.lt K14.1) (Nat.le_of_eq g10))))
  refine go_caload 282 (i := 4) (v := (.int e4)) A32 (by decide) (by decide) rfl rfl (D d12_281) rfl ?_
  refine go_stC 283 (i := 4) (x' := e4) (vs' := [(.int e0), (.int e1), (.int e2), (.int e3), (.int e4), (.int 0), (.int 0)]) A31 (Nat.le_trans O0.2.1 (Nat.le_trans K14.1 (Nat.le_of_eq g10))) (by decide) (by decide) rfl (nb rfl) (i2c_c8 p6) rfl (D d12_282) rfl (fun h33 W34 A35 => ?_)
  refine go_dup 284 (D d12_283) rfl rfl ?_
  refine go_iconst 285 (v := 5) (D d12_284) rfl rfl ?_
  refine go_aload_n 286 (D d12_285) rfl rfl rfl ?_
  refine go_iconst 287 (v := 5) (D d12_286) rfl rfl ?_
  have A36 := (A32.other W34 (Nat.ne_of_lt (Nat.lt_of_lt_of_le (Nat.lt_of_lt_of_le p1.lt K14.1) (Nat.le_of_eq g10))))
  refine go_caload 288 (i := 5) (v := (.int e5)) A36 (by decide) (by decide) rfl rfl (D d12_287) rfl ?_
  refine go_stC 289 (i := 5) (x' := e5) (vs' := [(.int e0), (.int e1), (.int e2), (.int e3), (.int e4), (.int e5), (.int 0)]) A35 (Nat.le_trans O0.2.1 (Nat.le_trans K14.1 (Nat.le_of_eq g10))) (by decide) (by decide) rfl (nb rfl) (i2c_c8 p7) rfl (D d12_288) rfl (fun h37 W38 A39 => ?_)
  refine go_dup 290 (D d12_289) rfl rfl ?_
  refine go_bipush 292 (v := 6) (D d12_290) rfl rfl ?_
  refine go_aload_n 293 (D d12_292) rfl rfl rfl ?_
  refine go_bipush 295 (v := 6) (D d12_293) rfl rfl ?_
  have A40 := (A36.other W38 (Nat.ne_of_lt (Nat.lt_of_lt_of_le (Nat.lt_of_lt_of_le p1.lt K14.1) (Nat.le_of_eq g10))))
  refine go_caload 296 (i := 6) (v := (.int e6)) A40 (by decide) (by decide) rfl rfl (D d12_295) rfl ?_
  refine go_stC 297 (i := 6) (x' := e6) (vs' := [(.int e0), (.int e1), (.int e2), (.int e3), (.int e4), (.int e5), (.int e6)]) A39 (Nat.le_trans O0.2.1 (Nat.le_trans K14.1 (Nat.le_of_eq g10))) (by decide) (by decide) rfl (nb rfl) (i2c_c8 p8) rfl (D d12_296) rfl (fun h41 W42 A43 => ?_)
  have K44 : Keep h1 h8 [] := ((Keep.refl h1 []).ext X11)
  have K45 : Keep h1 h17 [] := (K44.wr W18 (Or.inr (Nat.le_of_eq g10)))
  have K46 : Keep h1 h21 [] := (K45.wr W22 (Or.inr (Nat.le_of_eq g10)))
  have K47 : Keep h1 h25 [] := (K46.wr W26 (Or.inr (Nat.le_of_eq g10)))
  have K48 : Keep h1 h29 [] := (K47.wr W30 (Or.inr (Nat.le_of_eq g10)))
  have K49 : Keep h1 h33 [] := (K48.wr W34 (Or.inr (Nat.le_of_eq g10)))
  have K50 : Keep h1 h37 [] := (K49.wr W38 (Or.inr (Nat.le_of_eq g10)))
  have K51 : Keep h1 h41 [] := (K50.wr W42 (Or.inr (Nat.le_of_eq g10)))
  have E52 := (E5.keep K51)
  have F53 := D6 (Or.inr (wk G 15)) (ty := (.array .byte)) (by decide)
  have F54 := (F53.keep K51 nin0)
  have F55 := D6 (Or.inr (wk G 16)) (ty := .byte) (by decide)
  have F56 := (F55.keep K51 nin0)
  refine go_old (fun O57 => ?_)
  refine callI0 (cells' := 3) (slots' := 18) (Wd := 1) (argsL := [(.ref a9)]) (rest := [(.ref a2)]) (pay_new G O57 (cs := [e0, e1, e2, e3, e4, e5, e6]) (n := 7) (Nat.le_trans O0.2.1 (Nat.le_of_eq g3)) E52 F54 F56 A43 rfl rfl (by decide) (by decide) (c8c p2 (c8c p3 (c8c p4 (c8c p5 (c8c p6 (c8c p7 (c8c p8 c8n))))))) (by decide) (by decide)) rfl (wk G 62) (wk G 63) (wk G 64) pd8 (sz hml) (allS (Nat.le_trans O0.2.1 (Nat.le_of_eq g3)) all0) (fun _ hal => (sfS safe_nil sf0)) (D d12_297) (k_n 300 rfl ?_)
  rintro h58 S60 K59
  have K61 : Keep h0 h17 [] := (K15.wr W18 (Or.inr (Nat.le_trans K14.1 (Nat.le_of_eq g10))))
  have K62 : Keep h0 h21 [] := (K61.wr W22 (Or.inr (Nat.le_trans K14.1 (Nat.le_of_eq g10))))
  have K63 : Keep h0 h25 [] := (K62.wr W26 (Or.inr (Nat.le_trans K14.1 (Nat.le_of_eq g10))))
  have K64 : Keep h0 h29 [] := (K63.wr W30 (Or.inr (Nat.le_trans K14.1 (Nat.le_of_eq g10))))
  have K65 : Keep h0 h33 [] := (K64.wr W34 (Or.inr (Nat.le_trans K14.1 (Nat.le_of_eq g10))))
  have K66 : Keep h0 h37 [] := (K65.wr W38 (Or.inr (Nat.le_trans K14.1 (Nat.le_of_eq g10))))
  have K67 : Keep h0 h41 [] := (K66.wr W42 (Or.inr (Nat.le_trans K14.1 (Nat.le_of_eq g10))))
  have K68 : Keep h0 h58 [] := (K67.trans K59 (allS (Or.inr (Nat.le_of_eq g3)) all0))
  refine go_areturn hret hlk rfl rfl (D d12_300) (by decide) (by decide) ⟨_, rfl, ⟨a2, rfl, (Nat.le_of_eq g3), S60⟩⟩ K68
def Q_take3_3 (Z : State) (a : Addr) (k : ClassId) (e0 e1 e2 : Int32) (h0 : Heap) (xv : Value) (h : Heap) : Prop := ∃ (r : Addr), (.ref r) = xv ∧ h0.size ≤ r ∧ Str Z h r [e0, e1, e2]
theorem c_take3_3 (G : GH Z a0) (a : Addr) (k : ClassId) (e0 e1 e2 : Int32) (h0 : Heap) (O0 : Old Z Z.heap.size h0) (p1 : Arv Z h0 a k (.char) (3 : Int32) [(.int e0), (.int e1), (.int e2)] (.int 0)) (p2 : C8 e0) (p3 : C8 e1) (p4 : C8 e2) : Con false [] l Z (⟨"com/example/hew/hew/MethodKindNounPinLaw", "take", "([CI)Ljava/lang/String;"⟩ : MethodName) method_6_code 2 (some (.object "java/lang/String")) [] (rm4 4 3 10 66) #[(.ref a), (.int 3)] h0 [] (rvl (Q_take3_3 Z a k e0 e1 e2 h0)) := by
  refine conN G (plainFor_of_name pn4) O0 (fun m => ef12 m a (3 : Int32)) ?_
  intro _ _ _ m_ _ _ _ D hml hret hlk hnm
  refine go_iload_n 1 (D d12_0) rfl rfl ?_
  refine go_ifT 15 (D d12_1) (by decide) rfl (by decide) ?_
  refine go_iload_n 16 (D d12_15) rfl rfl ?_
  refine go_iconst 17 (v := 1) (D d12_16) rfl rfl ?_
  refine go_icT 37 (D d12_17) (by decide) rfl (by decide) ?_
  refine go_iload_n 38 (D d12_37) rfl rfl ?_
  refine go_iconst 39 (v := 2) (D d12_38) rfl rfl ?_
  refine go_icT 65 (D d12_39) (by decide) rfl (by decide) ?_
  refine go_iload_n 66 (D d12_65) rfl rfl ?_
  refine go_iconst 67 (v := 3) (D d12_66) rfl rfl ?_
  refine go_icF 70 (D d12_67) rfl (by decide) ?_
  refine go_newO 73 (cells' := 1) (slots' := 4) (wk G 61) (wk G 13) (wk G 12) (D d12_70) rfl rfl rfl (by decide) (by decide) (fun h1 a2 g3 X4 E5 D6 U7 => ?_)
  refine go_dup 74 (D d12_73) rfl rfl ?_
  refine go_iconst 75 (v := 3) (D d12_74) rfl rfl ?_
  refine go_newP 77 (cells' := 2) (slots' := 7) (cap := 3) (vs := [(.int 0), (.int 0), (.int 0)]) (ty := .char) (dv := .int 0) (wk G 19) rfl rfl (D d12_75) rfl (by decide) rfl (by decide) rfl rfl rfl (by decide) (by decide) (fun h8 a9 k13 g10 X11 A12 => ?_)
  refine go_dup 78 (D d12_77) rfl rfl ?_
  refine go_iconst 79 (v := 0) (D d12_78) rfl rfl ?_
  refine go_aload_n 80 (D d12_79) rfl rfl rfl ?_
  refine go_iconst 81 (v := 0) (D d12_80) rfl rfl ?_
  have K14 : Keep h0 h1 [] := ((Keep.refl h0 []).ext X4)
  have K15 : Keep h0 h8 [] := (K14.ext X11)
  have A16 := (p1.keep K15 nin0)
  refine go_caload 82 (i := 0) (v := (.int e0)) A16 (by decide) (by decide) rfl rfl (D d12_81) rfl ?_
  refine go_stC 83 (i := 0) (x' := e0) (vs' := [(.int e0), (.int 0), (.int 0)]) A12 (Nat.le_trans O0.2.1 (Nat.le_trans K14.1 (Nat.le_of_eq g10))) (by decide) (by decide) rfl (nb rfl) (i2c_c8 p2) rfl (D d12_82) rfl (fun h17 W18 A19 => ?_)
  refine go_dup 84 (D d12_83) rfl rfl ?_
  refine go_iconst 85 (v := 1) (D d12_84) rfl rfl ?_
  refine go_aload_n 86 (D d12_85) rfl rfl rfl ?_
  refine go_iconst 87 (v := 1) (D d12_86) rfl rfl ?_
  have A20 := (A16.other W18 (Nat.ne_of_lt (Nat.lt_of_lt_of_le (Nat.lt_of_lt_of_le p1.lt K14.1) (Nat.le_of_eq g10))))
  refine go_caload 88 (i := 1) (v := (.int e1)) A20 (by decide) (by decide) rfl rfl (D d12_87) rfl ?_
  refine go_stC 89 (i := 1) (x' := e1) (vs' := [(.int e0), (.int e1), (.int 0)]) A19 (Nat.le_trans O0.2.1 (Nat.le_trans K14.1 (Nat.le_of_eq g10))) (by decide) (by decide) rfl (nb rfl) (i2c_c8 p3) rfl (D d12_88) rfl (fun h21 W22 A23 => ?_)
  refine go_dup 90 (D d12_89) rfl rfl ?_
  refine go_iconst 91 (v := 2) (D d12_90) rfl rfl ?_
  refine go_aload_n 92 (D d12_91) rfl rfl rfl ?_
  refine go_iconst 93 (v := 2) (D d12_92) rfl rfl ?_
  have A24 := (A20.other W22 (Nat.ne_of_lt (Nat.lt_of_lt_of_le (Nat.lt_of_lt_of_le p1.lt K14.1) (Nat.le_of_eq g10))))
  refine go_caload 94 (i := 2) (v := (.int e2)) A24 (by decide) (by decide) rfl rfl (D d12_93) rfl ?_
  refine go_stC 95 (i := 2) (x' := e2) (vs' := [(.int e0), (.int e1), (.int e2)]) A23 (Nat.le_trans O0.2.1 (Nat.le_trans K14.1 (Nat.le_of_eq g10))) (by decide) (by decide) rfl (nb rfl) (i2c_c8 p4) rfl (D d12_94) rfl (fun h25 W26 A27 => ?_)
  have K28 : Keep h1 h8 [] := ((Keep.refl h1 []).ext X11)
  have K29 : Keep h1 h17 [] := (K28.wr W18 (Or.inr (Nat.le_of_eq g10)))
  have K30 : Keep h1 h21 [] := (K29.wr W22 (Or.inr (Nat.le_of_eq g10)))
  have K31 : Keep h1 h25 [] := (K30.wr W26 (Or.inr (Nat.le_of_eq g10)))
  have E32 := (E5.keep K31)
  have F33 := D6 (Or.inr (wk G 15)) (ty := (.array .byte)) (by decide)
  have F34 := (F33.keep K31 nin0)
  have F35 := D6 (Or.inr (wk G 16)) (ty := .byte) (by decide)
  have F36 := (F35.keep K31 nin0)
  refine go_old (fun O37 => ?_)
  refine callI0 (cells' := 3) (slots' := 10) (Wd := 1) (argsL := [(.ref a9)]) (rest := [(.ref a2)]) (pay_new G O37 (cs := [e0, e1, e2]) (n := 3) (Nat.le_trans O0.2.1 (Nat.le_of_eq g3)) E32 F34 F36 A27 rfl rfl (by decide) (by decide) (c8c p2 (c8c p3 (c8c p4 c8n))) (by decide) (by decide)) rfl (wk G 62) (wk G 63) (wk G 64) pd8 (sz hml) (allS (Nat.le_trans O0.2.1 (Nat.le_of_eq g3)) all0) (fun _ hal => (sfS safe_nil sf0)) (D d12_95) (k_n 98 rfl ?_)
  rintro h38 S40 K39
  have K41 : Keep h0 h17 [] := (K15.wr W18 (Or.inr (Nat.le_trans K14.1 (Nat.le_of_eq g10))))
  have K42 : Keep h0 h21 [] := (K41.wr W22 (Or.inr (Nat.le_trans K14.1 (Nat.le_of_eq g10))))
  have K43 : Keep h0 h25 [] := (K42.wr W26 (Or.inr (Nat.le_trans K14.1 (Nat.le_of_eq g10))))
  have K44 : Keep h0 h38 [] := (K43.trans K39 (allS (Or.inr (Nat.le_of_eq g3)) all0))
  refine go_areturn hret hlk rfl rfl (D d12_98) (by decide) (by decide) ⟨_, rfl, ⟨a2, rfl, (Nat.le_of_eq g3), S40⟩⟩ K44
def Q_noun4_7 (Z : State) (a b p : Addr) (g0 g1 g2 g3 c0 c1 c2 c3 c4 c5 c6 : Int32) (h0 : Heap) (xv : Value) (h : Heap) : Prop := ∃ (r : Addr), (.ref r) = xv ∧ Str Z h r [c4, c5, c6]
def Q_subi4_7 (Z : State) (a : Addr) (c0 c1 c2 c3 c4 c5 c6 : Int32) (h0 : Heap) (xv : Value) (h : Heap) : Prop := ∃ (r : Addr), (.ref r) = xv ∧ Str Z h r [c4, c5, c6]
def Q_sub4_7_7 (Z : State) (a : Addr) (c0 c1 c2 c3 c4 c5 c6 : Int32) (h0 : Heap) (xv : Value) (h : Heap) : Prop := ∃ (r : Addr), (.ref r) = xv ∧ Str Z h r [c4, c5, c6]
def Q_news4_3_7 (Z : State) (t : Addr) (k : ClassId) (c0 c1 c2 c3 c4 c5 c6 : Int32) (h0 : Heap) (xv : Value) (h : Heap) : Prop := ∃ (r : Addr), (.ref r) = xv ∧ Str Z h r [c4, c5, c6]
def Q_cor4_7_7 (Z : State) (t : Addr) (k : ClassId) (b0 b1 b2 b3 b4 b5 b6 : Int32) (h0 : Heap) (xv : Value) (h : Heap) : Prop := ∃ (r : Addr) (k2 : ClassId), (.ref r) = xv ∧ h0.size ≤ r ∧ Arv Z h r k2 (.byte) (3 : Int32) [(.int b4), (.int b5), (.int b6)] (.int 0)
def Q_corb4_7_7 (Z : State) (t : Addr) (k : ClassId) (b0 b1 b2 b3 b4 b5 b6 : Int32) (h0 : Heap) (xv : Value) (h : Heap) : Prop := ∃ (r : Addr) (k2 : ClassId), (.ref r) = xv ∧ h0.size ≤ r ∧ Arv Z h r k2 (.byte) (3 : Int32) [(.int b4), (.int b5), (.int b6)] (.int 0)
def Q_min3_3 (Z : State)  (h0 : Heap) (xv : Value) (h : Heap) : Prop := (.int 3) = xv ∧ h0 = h
theorem c_min3_3 (G : GH Z a0)   (h0 : Heap) (O0 : Old Z Z.heap.size h0)  : Con false [] l Z (⟨"java/lang/Math", "min", "(II)I"⟩ : MethodName) jdk_29_method_69_code 2 (some .int) [] (rm4 0 0 0 0) #[(.int 3), (.int 3)] h0 [] (rvl (Q_min3_3 Z h0)) := by
  refine conN G (Jvm.Free.JP.mathPlain rfl (by decide)) O0 (fun m => ef8 m (3 : Int32) (3 : Int32)) ?_
  intro _ _ _ m_ _ _ _ D hml hret hlk hnm
  refine go_iload_n 1 (D d19_0) rfl rfl ?_
  refine go_iload_n 2 (D d19_1) rfl rfl ?_
  refine go_icF 5 (D d19_2) rfl (by decide) ?_
  refine go_iload_n 6 (D d19_5) rfl rfl ?_
  refine go_goto 10 (D d19_6) (by decide) rfl ?_
  refine go_ireturn hret hlk rfl (by simp) (D d19_10) (by decide) (by decide) ⟨_, rfl, ⟨rfl, rfl⟩⟩ (Keep.refl h0 [])
theorem c_corb4_7_7 (G : GH Z a0) (t : Addr) (k : ClassId) (b0 b1 b2 b3 b4 b5 b6 : Int32) (h0 : Heap) (O0 : Old Z Z.heap.size h0) (p1 : Arv Z h0 t k (.byte) (7 : Int32) [(.int b0), (.int b1), (.int b2), (.int b3), (.int b4), (.int b5), (.int b6)] (.int 0)) : Con false [] l Z (⟨"java/util/Arrays", "copyOfRangeByte", "([BII)[B"⟩ : MethodName) jdk_65_method_133_code 5 (some (.array .byte)) [] (rm4 1 1 3 18) #[(.ref t), (.int 4), (.int 7)] h0 [] (rvl (Q_corb4_7_7 Z t k b0 b1 b2 b3 b4 b5 b6 h0)) := by
  refine conN G (plainFor_of_name pn3) O0 (fun m => ef13 m t (4 : Int32) (7 : Int32)) ?_
  intro _ _ _ m_ _ _ _ D hml hret hlk hnm
  refine go_iload_n 1 (D d18_0) rfl rfl ?_
  refine go_iload_n 2 (D d18_1) rfl rfl ?_
  refine callS0 (cells' := 0) (slots' := 0) (Wd := 0) (argsL := [(.int 4), (.int 7)]) (rest := []) (pay_of (a0 := a0) (c_chkl l G (4 : Int32) (7 : Int32) h0 O0 (by decide)) (wk G 120) (wk G 113)) (wk G 118) (wk G 119) (wk G 113) (wk G 120) pd16 (sz hml) all0 sf00 (D d18_2) (k_n 5 rfl ?_)
  rintro  h1 rfl K2
  refine go_iload_n 6 (D d18_5) rfl rfl ?_
  refine go_iload_n 7 (D d18_6) rfl rfl ?_
  refine go_isub 8 (z := (3 : Int32)) (D d18_7) rfl (by decide) ?_
  refine go_istore_n 9 (ls' := #[vr t, vi 4, vi 7, vi 3, un]) (D d18_8) rfl rfl ?_
  refine go_iload_n 10 (D d18_9) rfl rfl ?_
  refine go_newP 12 (cells' := 1) (slots' := 3) (cap := 3) (vs := [(.int 0), (.int 0), (.int 0)]) (ty := .byte) (dv := .int 0) (wk G 14) rfl rfl (D d18_10) rfl (by decide) rfl (by decide) rfl rfl rfl (by decide) (by decide) (fun h3 a4 k8 g5 X6 A7 => ?_)
  refine go_astore 14 (ls' := #[vr t, vi 4, vi 7, vi 3, vr a4]) (D d18_12) rfl rfl rfl ?_
  refine go_aload_n 15 (D d18_14) rfl rfl rfl ?_
  refine go_iload_n 16 (D d18_15) rfl rfl ?_
  refine go_aload 18 (D d18_16) rfl rfl rfl ?_
  refine go_iconst 19 (v := 0) (D d18_18) rfl rfl ?_
  refine go_aload_n 20 (D d18_19) rfl rfl rfl ?_
  have K9 : Keep h0 h3 [] := ((Keep.refl h0 []).ext X6)
  have A10 := (p1.keep K9 nin0)
  refine go_arraylength 21 A10 (D d18_20) rfl ?_
  refine go_iload_n 22 (D d18_21) rfl rfl ?_
  refine go_isub 23 (z := (3 : Int32)) (D d18_22) rfl (by decide) ?_
  refine go_iload_n 24 (D d18_23) rfl rfl ?_
  refine go_old (fun O11 => ?_)
  refine callS0 (cells' := 1) (slots' := 3) (Wd := 4) (argsL := [(.int 3), (.int 3)]) (rest := [(.int 0), (.ref a4), (.int 4), (.ref t)]) (pay_of (a0 := a0) (c_min3_3 l G  h3 O11 ) (wk G 124) (wk G 123)) (wk G 121) (wk G 122) (wk G 123) (wk G 124) pd17 (sz hml) all0 sf00 (D d18_24) (k_v 27 rfl ?_)
  rintro _ h12 ⟨rfl, rfl⟩ K13
  refine go_acopy 30 (Wd := 0) (vd' := [(.int b4), (.int b5), (.int b6)]) (wk G 125) (wk G 128) (wk G 126) (wk G 127) rfl A10 A7 rfl (by decide) (by decide) (by decide) (nb rfl) (nb rfl) (nb rfl) (Nat.le_trans O0.2.1 (Nat.le_of_eq g5)) rfl (sz hml) (by decide) (by decide) (by decide) (D d18_27) rfl (fun h14 K15 A16 => ?_)
  refine go_aload 32 (D d18_30) rfl rfl rfl ?_
  have K17 : Keep h0 h14 [] := (K9.trans K15 (allS (Or.inr (Nat.le_of_eq g5)) all0))
  refine go_areturn hret hlk rfl rfl (D d18_32) (by decide) (by decide) ⟨_, rfl, ⟨a4, k8, rfl, (Nat.le_of_eq g5), A16⟩⟩ K17
theorem c_cor4_7_7 (G : GH Z a0) (t : Addr) (k : ClassId) (b0 b1 b2 b3 b4 b5 b6 : Int32) (h0 : Heap) (O0 : Old Z Z.heap.size h0) (p1 : Arv Z h0 t k (.byte) (7 : Int32) [(.int b0), (.int b1), (.int b2), (.int b3), (.int b4), (.int b5), (.int b6)] (.int 0)) : Con false [] l Z (⟨"java/util/Arrays", "copyOfRange", "([BII)[B"⟩ : MethodName) jdk_65_method_132_code 3 (some (.array .byte)) [] (rm4 2 1 3 34) #[(.ref t), (.int 4), (.int 7)] h0 [] (rvl (Q_cor4_7_7 Z t k b0 b1 b2 b3 b4 b5 b6 h0)) := by
  refine conN G (plainFor_of_name pn3) O0 (fun m => ef14 m t (4 : Int32) (7 : Int32)) ?_
  intro _ _ _ m_ _ _ _ D hml hret hlk hnm
  refine go_iload_n 1 (D d17_0) rfl rfl ?_
  refine go_ifT 10 (D d17_1) (by decide) rfl (by decide) ?_
  refine go_aload_n 11 (D d17_10) rfl rfl rfl ?_
  refine go_iload_n 12 (D d17_11) rfl rfl ?_
  refine go_iload_n 13 (D d17_12) rfl rfl ?_
  refine callS0 (cells' := 1) (slots' := 3) (Wd := 0) (argsL := [(.ref t), (.int 4), (.int 7)]) (rest := []) (pay_of (a0 := a0) (c_corb4_7_7 l G t k b0 b1 b2 b3 b4 b5 b6 h0 O0 p1) (wk G 117) (wk G 113)) (wk G 115) (wk G 116) (wk G 113) (wk G 117) pd18 (sz hml) all0 sf00 (D d17_13) (k_v 16 rfl ?_)
  rintro _ h1 ⟨r3, r4, rfl, f5, f6⟩ K2
  have K7 : Keep h0 h1 [] := ((Keep.refl h0 []).trans K2 all0)
  refine go_areturn hret hlk rfl rfl (D d17_16) (by decide) (by decide) ⟨_, rfl, ⟨r3, r4, rfl, f5, f6⟩⟩ K7
theorem c_news4_3_7 (G : GH Z a0) (t : Addr) (k : ClassId) (c0 c1 c2 c3 c4 c5 c6 : Int32) (h0 : Heap) (O0 : Old Z Z.heap.size h0) (p1 : Arv Z h0 t k (.byte) (7 : Int32) [(.int (c0).toInt8.toInt32), (.int (c1).toInt8.toInt32), (.int (c2).toInt8.toInt32), (.int (c3).toInt8.toInt32), (.int (c4).toInt8.toInt32), (.int (c5).toInt8.toInt32), (.int (c6).toInt8.toInt32)] (.int 0)) (p2 : C8 c0) (p3 : C8 c1) (p4 : C8 c2) (p5 : C8 c3) (p6 : C8 c4) (p7 : C8 c5) (p8 : C8 c6) : Con false [] l Z (⟨"java/lang/StringLatin1", "newString", "([BII)Ljava/lang/String;"⟩ : MethodName) jdk_43_method_47_code 3 (some (.object "java/lang/String")) [] (rm4 3 2 7 50) #[(.ref t), (.int 4), (.int 3)] h0 [] (rvl (Q_news4_3_7 Z t k c0 c1 c2 c3 c4 c5 c6 h0)) := by
  refine conN G (plainFor_of_name pn5) O0 (fun m => ef14 m t (4 : Int32) (3 : Int32)) ?_
  intro _ _ _ m_ _ _ _ D hml hret hlk hnm
  refine go_iload_n 1 (D d16_0) rfl rfl ?_
  refine go_ifT 7 (D d16_1) (by decide) rfl (by decide) ?_
  refine go_newO 10 (cells' := 1) (slots' := 4) (wk G 110) (wk G 13) (wk G 12) (D d16_7) rfl rfl rfl (by decide) (by decide) (fun h1 a2 g3 X4 E5 D6 U7 => ?_)
  refine go_dup 11 (D d16_10) rfl rfl ?_
  refine go_aload_n 12 (D d16_11) rfl rfl rfl ?_
  refine go_iload_n 13 (D d16_12) rfl rfl ?_
  refine go_iload_n 14 (D d16_13) rfl rfl ?_
  refine go_iload_n 15 (D d16_14) rfl rfl ?_
  refine go_iadd 16 (z := (7 : Int32)) (D d16_15) rfl (by decide) ?_
  have K8 : Keep h0 h1 [] := ((Keep.refl h0 []).ext X4)
  have A9 := (p1.keep K8 nin0)
  refine go_old (fun O10 => ?_)
  refine callS0 (cells' := 2) (slots' := 7) (Wd := 2) (argsL := [(.ref t), (.int 4), (.int 7)]) (rest := [(.ref a2), (.ref a2)]) (pay_of (a0 := a0) (c_cor4_7_7 l G t k ((c0).toInt8.toInt32) ((c1).toInt8.toInt32) ((c2).toInt8.toInt32) ((c3).toInt8.toInt32) ((c4).toInt8.toInt32) ((c5).toInt8.toInt32) ((c6).toInt8.toInt32) h1 O10 A9) (wk G 114) (wk G 113)) (wk G 111) (wk G 112) (wk G 113) (wk G 114) pd18 (sz hml) all0 sf00 (D d16_16) (k_v 19 rfl ?_)
  rintro _ h11 ⟨r13, r14, rfl, f15, f16⟩ K12
  refine go_iconst 20 (v := 0) (D d16_19) rfl rfl ?_
  have K17 : Keep h1 h11 [] := ((Keep.refl h1 []).trans K12 all0)
  have E18 := (E5.keep K17)
  have F19 := D6 (Or.inr (wk G 15)) (ty := (.array .byte)) (by decide)
  have F20 := (F19.keep K17 nin0)
  have F21 := D6 (Or.inr (wk G 16)) (ty := .byte) (by decide)
  have F22 := (F21.keep K17 nin0)
  refine go_old (fun O23 => ?_)
  refine callI0 (cells' := 2) (slots' := 7) (Wd := 1) (argsL := [(.ref r13), (.int 0)]) (rest := [(.ref a2)]) (pay_of (a0 := a0) (c_strbb l G a2 r13 h11 O23 E18 (Nat.le_trans O0.2.1 (Nat.le_of_eq g3)) F20 F22) (wk G 131) (wk G 12)) rfl (wk G 129) (wk G 130) (wk G 131) pd19 (sz hml) (allS (Nat.le_trans O0.2.1 (Nat.le_of_eq g3)) all0) (fun _ hal => (sfS safe_nil sf0)) (D d16_20) (k_n 23 rfl ?_)
  rintro  h24 ⟨f26, f27⟩ K25
  have K28 : Keep h0 h11 [] := (K8.trans K12 all0)
  have K29 : Keep h0 h24 [] := (K28.trans K25 (allS (Or.inr (Nat.le_of_eq g3)) all0))
  have E30 := (E18.keep K25)
  have A31 := (f16.keep K25 (ninS (Nat.ne_of_gt (Nat.lt_of_lt_of_le E5.lt f15)) nin0))
  have S32 : Str Z h24 a2 [c4, c5, c6] := ⟨r13, r14, E30, f26, f27, A31, (c8c p6 (c8c p7 (c8c p8 c8n))), Nat.le_of_ble_eq_true rfl⟩
  refine go_areturn hret hlk rfl rfl (D d16_23) (by decide) (by decide) ⟨_, rfl, ⟨a2, rfl, S32⟩⟩ K29
theorem c_sub4_7_7 (G : GH Z a0) (a : Addr) (c0 c1 c2 c3 c4 c5 c6 : Int32) (h0 : Heap) (O0 : Old Z Z.heap.size h0) (p1 : Str Z h0 a [c0, c1, c2, c3, c4, c5, c6]) : Con false [] l Z (⟨"java/lang/String", "substring", "(II)Ljava/lang/String;"⟩ : MethodName) jdk_42_method_92_code 5 (some (.object "java/lang/String")) [] (rm4 4 2 7 64) #[(.ref a), (.int 4), (.int 7)] h0 [] (rvl (Q_sub4_7_7 Z a c0 c1 c2 c3 c4 c5 c6 h0)) := by
  refine conN G (plainFor_of_name pn1) O0 (fun m => ef13 m a (4 : Int32) (7 : Int32)) ?_
  intro _ _ _ m_ _ _ _ D hml hret hlk hnm
  have q1 : C8 c0 := by obtain ⟨_, _, _, _, _, _, q, _⟩ := id p1; exact q _ (by simp)
  have q2 : C8 c1 := by obtain ⟨_, _, _, _, _, _, q, _⟩ := id p1; exact q _ (by simp)
  have q3 : C8 c2 := by obtain ⟨_, _, _, _, _, _, q, _⟩ := id p1; exact q _ (by simp)
  have q4 : C8 c3 := by obtain ⟨_, _, _, _, _, _, q, _⟩ := id p1; exact q _ (by simp)
  have q5 : C8 c4 := by obtain ⟨_, _, _, _, _, _, q, _⟩ := id p1; exact q _ (by simp)
  have q6 : C8 c5 := by obtain ⟨_, _, _, _, _, _, q, _⟩ := id p1; exact q _ (by simp)
  have q7 : C8 c6 := by obtain ⟨_, _, _, _, _, _, q, _⟩ := id p1; exact q _ (by simp)
  refine go_aload_n 1 (D d15_0) rfl rfl rfl ?_
  refine callV0 (cells' := 0) (slots' := 0) (Wd := 0) (argsL := []) (rest := []) (pay_len G O0 (n := (7 : Int32)) p1 rfl (by decide) (by decide)) p1.exa (wk G 95) (wk G 24) (wk G 26) (wk G 26) (wk G 25) pd5 (sz hml) all0 sf00 (D d15_1) (k_v 4 rfl ?_)
  rintro _ _ ⟨rfl, rfl⟩ -
  refine go_istore_n 5 (ls' := #[vr a, vi 4, vi 7, vi 7, un]) (D d15_4) rfl rfl ?_
  refine go_iload_n 6 (D d15_5) rfl rfl ?_
  refine go_iload_n 7 (D d15_6) rfl rfl ?_
  refine go_iload_n 8 (D d15_7) rfl rfl ?_
  refine callS0 (cells' := 0) (slots' := 0) (Wd := 0) (argsL := [(.int 4), (.int 7), (.int 7)]) (rest := []) (pay_of (a0 := a0) (c_cbbe l G (4 : Int32) (7 : Int32) (7 : Int32) h0 O0 (by decide) (by decide) (by decide)) (wk G 103) (wk G 12)) (wk G 101) (wk G 102) (wk G 12) (wk G 103) pd10 (sz hml) all0 sf00 (D d15_8) (k_n 11 rfl ?_)
  rintro  h8 rfl K9
  refine go_iload_n 12 (D d15_11) rfl rfl ?_
  refine go_ifT 22 (D d15_12) (by decide) rfl (by decide) ?_
  refine go_iload_n 23 (D d15_22) rfl rfl ?_
  refine go_iload_n 24 (D d15_23) rfl rfl ?_
  refine go_isub 25 (z := (3 : Int32)) (D d15_24) rfl (by decide) ?_
  refine go_istore 27 (ls' := #[vr a, vi 4, vi 7, vi 7, vi 3]) (D d15_25) rfl rfl ?_
  refine go_aload_n 28 (D d15_27) rfl rfl rfl ?_
  obtain ⟨t10, k11, E12, F13, F14, A15, B16, L17⟩ := id p1
  refine callV0 (cells' := 0) (slots' := 0) (Wd := 0) (argsL := []) (rest := []) (pay_of (a0 := a0) (c_islatin l G a h0 O0 F14) (wk G 45) (wk G 12)) E12 (wk G 41) (wk G 42) (wk G 44) (wk G 44) (wk G 43) pd11 (sz hml) all0 sf00 (D d15_28) (k_v 31 rfl ?_)
  rintro _ h18 ⟨rfl, rfl⟩ K19
  refine go_ifF 34 (D d15_31) rfl (by decide) ?_
  refine go_aload_n 35 (D d15_34) rfl rfl rfl ?_
  refine go_getF 38 (wk G 28) Via.refl F13 (D d15_35) rfl ?_
  refine go_iload_n 39 (D d15_38) rfl rfl ?_
  refine go_iload 41 (D d15_39) rfl rfl ?_
  refine callS0 (cells' := 2) (slots' := 7) (Wd := 0) (argsL := [(.ref t10), (.int 4), (.int 3)]) (rest := []) (pay_of (a0 := a0) (c_news4_3_7 l G t10 k11 c0 c1 c2 c3 c4 c5 c6 h0 O0 A15 q1 q2 q3 q4 q5 q6 q7) (wk G 109) (wk G 48)) (wk G 107) (wk G 108) (wk G 48) (wk G 109) pd12 (sz hml) all0 sf00 (D d15_41) (k_v 44 rfl ?_)
  rintro _ h20 ⟨r22, rfl, f23⟩ K21
  refine go_goto 57 (D d15_44) (by decide) rfl ?_
  have K24 : Keep h0 h20 [] := ((Keep.refl h0 []).trans K21 all0)
  refine go_areturn hret hlk rfl rfl (D d15_57) (by decide) (by decide) ⟨_, rfl, ⟨r22, rfl, f23⟩⟩ K24
theorem c_subi4_7 (G : GH Z a0) (a : Addr) (c0 c1 c2 c3 c4 c5 c6 : Int32) (h0 : Heap) (O0 : Old Z Z.heap.size h0) (p1 : Str Z h0 a [c0, c1, c2, c3, c4, c5, c6]) : Con false [] l Z (⟨"java/lang/String", "substring", "(I)Ljava/lang/String;"⟩ : MethodName) jdk_42_method_91_code 2 (some (.object "java/lang/String")) [] (rm4 5 2 7 80) #[(.ref a), (.int 4)] h0 [] (rvl (Q_subi4_7 Z a c0 c1 c2 c3 c4 c5 c6 h0)) := by
  refine conN G (plainFor_of_name pn1) O0 (fun m => ef12 m a (4 : Int32)) ?_
  intro _ _ _ m_ _ _ _ D hml hret hlk hnm
  have q1 : C8 c0 := by obtain ⟨_, _, _, _, _, _, q, _⟩ := id p1; exact q _ (by simp)
  have q2 : C8 c1 := by obtain ⟨_, _, _, _, _, _, q, _⟩ := id p1; exact q _ (by simp)
  have q3 : C8 c2 := by obtain ⟨_, _, _, _, _, _, q, _⟩ := id p1; exact q _ (by simp)
  have q4 : C8 c3 := by obtain ⟨_, _, _, _, _, _, q, _⟩ := id p1; exact q _ (by simp)
  have q5 : C8 c4 := by obtain ⟨_, _, _, _, _, _, q, _⟩ := id p1; exact q _ (by simp)
  have q6 : C8 c5 := by obtain ⟨_, _, _, _, _, _, q, _⟩ := id p1; exact q _ (by simp)
  have q7 : C8 c6 := by obtain ⟨_, _, _, _, _, _, q, _⟩ := id p1; exact q _ (by simp)
  refine go_aload_n 1 (D d14_0) rfl rfl rfl ?_
  refine go_iload_n 2 (D d14_1) rfl rfl ?_
  refine go_aload_n 3 (D d14_2) rfl rfl rfl ?_
  refine callV0 (cells' := 0) (slots' := 0) (Wd := 2) (argsL := []) (rest := [(.int 4), (.ref a)]) (pay_len G O0 (n := (7 : Int32)) p1 rfl (by decide) (by decide)) p1.exa (wk G 95) (wk G 24) (wk G 26) (wk G 26) (wk G 25) pd5 (sz hml) all0 sf00 (D d14_3) (k_v 6 rfl ?_)
  rintro _ _ ⟨rfl, rfl⟩ -
  refine callV0 (cells' := 2) (slots' := 7) (Wd := 0) (argsL := [(.int 4), (.int 7)]) (rest := []) (pay_of (a0 := a0) (c_sub4_7_7 l G a c0 c1 c2 c3 c4 c5 c6 h0 O0 p1) (wk G 100) (wk G 12)) p1.exa (wk G 96) (wk G 97) (wk G 99) (wk G 99) (wk G 98) pd13 (sz hml) all0 sf00 (D d14_6) (k_v 9 rfl ?_)
  rintro _ h8 ⟨r10, rfl, f11⟩ K9
  have K12 : Keep h0 h8 [] := ((Keep.refl h0 []).trans K9 all0)
  refine go_areturn hret hlk rfl rfl (D d14_9) (by decide) (by decide) ⟨_, rfl, ⟨r10, rfl, f11⟩⟩ K12
theorem c_noun4_7 (G : GH Z a0) (a b : Addr) (p : Addr) (g0 g1 g2 g3 c0 c1 c2 c3 c4 c5 c6 : Int32) (h0 : Heap) (O0 : Old Z Z.heap.size h0) (p1 : Fld Z h0 a "com/example/hew/hew/MethodKind" "prefix" "Ljava/lang/String;" (.ref p)) (p2 : Str Z h0 p [g0, g1, g2, g3]) (p3 : Str Z h0 b [c0, c1, c2, c3, c4, c5, c6]) : Con false [] l Z (⟨"com/example/hew/hew/MethodKind", "noun", "(Ljava/lang/String;)Ljava/lang/String;"⟩ : MethodName) prog_32_method_8_code 2 (some (.object "java/lang/String")) [] (rm4 6 2 7 93) #[(.ref a), (.ref b)] h0 [] (rvl (Q_noun4_7 Z a b p g0 g1 g2 g3 c0 c1 c2 c3 c4 c5 c6 h0)) := by
  refine conN G (plainFor_of_name pn6) O0 (fun m => ef3 m a b) ?_
  intro _ _ _ m_ _ _ _ D hml hret hlk hnm
  refine go_aload_n 1 (D d13_0) rfl rfl rfl ?_
  refine go_aload_n 2 (D d13_1) rfl rfl rfl ?_
  refine go_getF 5 (wk G 87) Via.refl p1 (D d13_2) rfl ?_
  refine callV0 (cells' := 0) (slots' := 0) (Wd := 1) (argsL := []) (rest := [(.ref b)]) (pay_len G O0 (n := (4 : Int32)) p2 rfl (by decide) (by decide)) p2.exa (wk G 89) (wk G 24) (wk G 26) (wk G 26) (wk G 25) pd5 (sz hml) all0 sf00 (D d13_5) (k_v 8 rfl ?_)
  rintro _ _ ⟨rfl, rfl⟩ -
  refine callV0 (cells' := 2) (slots' := 7) (Wd := 0) (argsL := [(.int 4)]) (rest := []) (pay_of (a0 := a0) (c_subi4_7 l G b c0 c1 c2 c3 c4 c5 c6 h0 O0 p3) (wk G 94) (wk G 12)) p3.exa (wk G 90) (wk G 91) (wk G 93) (wk G 93) (wk G 92) pd4 (sz hml) all0 sf00 (D d13_8) (k_v 11 rfl ?_)
  rintro _ h1 ⟨r3, rfl, f4⟩ K2
  have K5 : Keep h0 h1 [] := ((Keep.refl h0 []).trans K2 all0)
  refine go_areturn hret hlk rfl rfl (D d13_11) (by decide) (by decide) ⟨_, rfl, ⟨r3, rfl, f4⟩⟩ K5
def Q_kind1 (Z : State)  (h0 : Heap) (xv : Value) (h : Heap) : Prop := (.ref (s_GET Z)) = xv ∧ h0 = h
theorem c_kind1 (G : GH Z a0)   (h0 : Heap) (O0 : Old Z Z.heap.size h0)  : Con false [] l Z (⟨"com/example/hew/hew/MethodKindNounPinLaw", "kindOf", "(I)Lcom/example/hew/hew/MethodKind;"⟩ : MethodName) method_3_code 1 (some (.object "com/example/hew/hew/MethodKind")) [] (rm4 0 0 0 0) #[(.int 1)] h0 [] (rvl (Q_kind1 Z h0)) := by
  refine conN G (plainFor_of_name pn4) O0 (fun m => ef10 m (1 : Int32)) ?_
  intro _ _ _ m_ _ _ _ D hml hret hlk hnm
  refine go_iload_n 1 (D d9_0) rfl rfl ?_
  refine go_ifT 8 (D d9_1) (by decide) rfl (by decide) ?_
  refine go_iload_n 9 (D d9_8) rfl rfl ?_
  refine go_iconst 10 (v := 1) (D d9_9) rfl rfl ?_
  refine go_icF 13 (D d9_10) rfl (by decide) ?_
  refine go_getS 16 (wk G 152) ((se_GET G).1.ext O0.2) (D d9_13) rfl ?_
  refine go_areturn hret hlk rfl rfl (D d9_16) (by decide) (by decide) ⟨_, rfl, ⟨rfl, rfl⟩⟩ (Keep.refl h0 [])
def Q_word1 (Z : State)  (h0 : Heap) (xv : Value) (h : Heap) : Prop := ∃ (r : Addr), (.ref r) = xv ∧ Str Z h r [(71 : Int32), (101 : Int32), (116 : Int32)]
theorem c_word1 (G : GH Z a0)   (h0 : Heap) (O0 : Old Z Z.heap.size h0)  : Con true EL1 l Z (⟨"com/example/hew/hew/MethodKindNounPinLaw", "wordOf", "(I)Ljava/lang/String;"⟩ : MethodName) method_4_code 1 (some (.object "java/lang/String")) [] (rm4 0 2 16 0) #[(.int 1)] h0 [] (rvl (Q_word1 Z h0)) := by
  refine conW G (plainFor_of_name pn4) O0 (fun m => ef10 m (1 : Int32)) ?_
  intro _ _ _ m_ _ _ _ D hml hret hlk hnm
  refine go_iload_n 1 (D d10_0) rfl rfl ?_
  refine go_ifT 7 (D d10_1) (by decide) rfl (by decide) ?_
  refine go_iload_n 8 (D d10_7) rfl rfl ?_
  refine go_iconst 9 (v := 1) (D d10_8) rfl rfl ?_
  refine go_icF 12 (D d10_9) rfl (by decide) ?_
  refine go_ldcH 14 (cells' := 2) (slots' := 16) (n := 12) (vs := (([(71 : Int32), (101 : Int32), (116 : Int32)] : List Int32).map fun c => c.toInt8.toInt32).map Value.int) (z := (3 : Int32)) rfl (by decide) (wk G 154) (wS G) (by decide +kernel) (by decide) (by decide) (by decide) (by decide) (D d10_12) rfl rfl rfl (by decide) (by decide) (fun h1 a2 t4 k5 X3 E6 F7 F8 A9 => ?_)
  have S10 : Str Z h1 a2 [(71 : Int32), (101 : Int32), (116 : Int32)] := ⟨t4, k5, E6, F8, F7, A9, by decide, by decide⟩
  have K11 : Keep h0 h1 [] := ((Keep.refl h0 []).ext X3)
  refine go_areturn hret hlk rfl rfl (D d10_14) (by decide) (by decide) ⟨_, rfl, ⟨a2, rfl, S10⟩⟩ K11
def Q_at3_0 (Z : State) (a b : Addr) (k : ClassId) (c0 c1 c2 e0 e1 e2 : Int32) (h0 : Heap) (xv : Value) (h : Heap) : Prop := (.int c0) = xv ∧ h0 = h
theorem c_at3_0 (G : GH Z a0) (a b : Addr) (k : ClassId) (c0 c1 c2 e0 e1 e2 : Int32) (h0 : Heap) (O0 : Old Z Z.heap.size h0) (p1 : Str Z h0 a [c0, c1, c2]) (p2 : Arv Z h0 b k (.char) (3 : Int32) [(.int e0), (.int e1), (.int e2)] (.int 0)) (p3 : C8 e0) (p4 : C8 e1) (p5 : C8 e2) : Con false [] l Z (⟨"com/example/hew/hew/MethodKindNounPinLaw", "at", "(Ljava/lang/String;[CI)C"⟩ : MethodName) method_5_code 4 (some .char) [] (rm4 4 0 0 53) #[(.ref a), (.ref b), (.int 0)] h0 [] (rvl (Q_at3_0 Z a b k c0 c1 c2 e0 e1 e2 h0)) := by
  refine conN G (plainFor_of_name pn4) O0 (fun m => ef11 m a b (0 : Int32)) ?_
  intro _ _ _ m_ _ _ _ D hml hret hlk hnm
  refine go_iload_n 1 (D d11_0) rfl rfl ?_
  refine go_aload_n 2 (D d11_1) rfl rfl rfl ?_
  refine callV0 (cells' := 0) (slots' := 0) (Wd := 1) (argsL := []) (rest := [(.int 0)]) (pay_len G O0 (n := (3 : Int32)) p1 rfl (by decide) (by decide)) p1.exa (wk G 23) (wk G 24) (wk G 26) (wk G 26) (wk G 25) pd5 (sz hml) all0 sf00 (D d11_2) (k_v 5 rfl ?_)
  rintro _ _ ⟨rfl, rfl⟩ -
  refine go_icF 8 (D d11_5) rfl (by decide) ?_
  refine go_aload_n 9 (D d11_8) rfl rfl rfl ?_
  refine go_iload_n 10 (D d11_9) rfl rfl ?_
  have q1 : C8 c0 := by obtain ⟨_, _, _, _, _, _, q, _⟩ := id p1; exact q _ (by simp)
  refine callV0 (cells' := 0) (slots' := 0) (Wd := 0) (argsL := [(.int 0)]) (rest := []) (pay_chr G O0 (i := 0) (c := c0) p1 rfl (nb rfl) rfl (by decide) (by decide)) p1.exa (wk G 36) (wk G 37) (wk G 39) (wk G 39) (wk G 38) pd6 (sz hml) all0 sf00 (D d11_10) (k_v 13 rfl ?_)
  rintro _ _ ⟨rfl, rfl⟩ -
  refine go_ireturn hret hlk (nar_c8 q1) (by simp) (D d11_13) (by decide) (by decide) ⟨_, rfl, ⟨rfl, rfl⟩⟩ (Keep.refl h0 [])
def Q_at3_1 (Z : State) (a b : Addr) (k : ClassId) (c0 c1 c2 e0 e1 e2 : Int32) (h0 : Heap) (xv : Value) (h : Heap) : Prop := (.int c1) = xv ∧ h0 = h
theorem c_at3_1 (G : GH Z a0) (a b : Addr) (k : ClassId) (c0 c1 c2 e0 e1 e2 : Int32) (h0 : Heap) (O0 : Old Z Z.heap.size h0) (p1 : Str Z h0 a [c0, c1, c2]) (p2 : Arv Z h0 b k (.char) (3 : Int32) [(.int e0), (.int e1), (.int e2)] (.int 0)) (p3 : C8 e0) (p4 : C8 e1) (p5 : C8 e2) : Con false [] l Z (⟨"com/example/hew/hew/MethodKindNounPinLaw", "at", "(Ljava/lang/String;[CI)C"⟩ : MethodName) method_5_code 4 (some .char) [] (rm4 4 0 0 53) #[(.ref a), (.ref b), (.int 1)] h0 [] (rvl (Q_at3_1 Z a b k c0 c1 c2 e0 e1 e2 h0)) := by
  refine conN G (plainFor_of_name pn4) O0 (fun m => ef11 m a b (1 : Int32)) ?_
  intro _ _ _ m_ _ _ _ D hml hret hlk hnm
  refine go_iload_n 1 (D d11_0) rfl rfl ?_
  refine go_aload_n 2 (D d11_1) rfl rfl rfl ?_
  refine callV0 (cells' := 0) (slots' := 0) (Wd := 1) (argsL := []) (rest := [(.int 1)]) (pay_len G O0 (n := (3 : Int32)) p1 rfl (by decide) (by decide)) p1.exa (wk G 23) (wk G 24) (wk G 26) (wk G 26) (wk G 25) pd5 (sz hml) all0 sf00 (D d11_2) (k_v 5 rfl ?_)
  rintro _ _ ⟨rfl, rfl⟩ -
  refine go_icF 8 (D d11_5) rfl (by decide) ?_
  refine go_aload_n 9 (D d11_8) rfl rfl rfl ?_
  refine go_iload_n 10 (D d11_9) rfl rfl ?_
  have q1 : C8 c1 := by obtain ⟨_, _, _, _, _, _, q, _⟩ := id p1; exact q _ (by simp)
  refine callV0 (cells' := 0) (slots' := 0) (Wd := 0) (argsL := [(.int 1)]) (rest := []) (pay_chr G O0 (i := 1) (c := c1) p1 rfl (nb rfl) rfl (by decide) (by decide)) p1.exa (wk G 36) (wk G 37) (wk G 39) (wk G 39) (wk G 38) pd6 (sz hml) all0 sf00 (D d11_10) (k_v 13 rfl ?_)
  rintro _ _ ⟨rfl, rfl⟩ -
  refine go_ireturn hret hlk (nar_c8 q1) (by simp) (D d11_13) (by decide) (by decide) ⟨_, rfl, ⟨rfl, rfl⟩⟩ (Keep.refl h0 [])
def Q_at3_2 (Z : State) (a b : Addr) (k : ClassId) (c0 c1 c2 e0 e1 e2 : Int32) (h0 : Heap) (xv : Value) (h : Heap) : Prop := (.int c2) = xv ∧ h0 = h
theorem c_at3_2 (G : GH Z a0) (a b : Addr) (k : ClassId) (c0 c1 c2 e0 e1 e2 : Int32) (h0 : Heap) (O0 : Old Z Z.heap.size h0) (p1 : Str Z h0 a [c0, c1, c2]) (p2 : Arv Z h0 b k (.char) (3 : Int32) [(.int e0), (.int e1), (.int e2)] (.int 0)) (p3 : C8 e0) (p4 : C8 e1) (p5 : C8 e2) : Con false [] l Z (⟨"com/example/hew/hew/MethodKindNounPinLaw", "at", "(Ljava/lang/String;[CI)C"⟩ : MethodName) method_5_code 4 (some .char) [] (rm4 4 0 0 53) #[(.ref a), (.ref b), (.int 2)] h0 [] (rvl (Q_at3_2 Z a b k c0 c1 c2 e0 e1 e2 h0)) := by
  refine conN G (plainFor_of_name pn4) O0 (fun m => ef11 m a b (2 : Int32)) ?_
  intro _ _ _ m_ _ _ _ D hml hret hlk hnm
  refine go_iload_n 1 (D d11_0) rfl rfl ?_
  refine go_aload_n 2 (D d11_1) rfl rfl rfl ?_
  refine callV0 (cells' := 0) (slots' := 0) (Wd := 1) (argsL := []) (rest := [(.int 2)]) (pay_len G O0 (n := (3 : Int32)) p1 rfl (by decide) (by decide)) p1.exa (wk G 23) (wk G 24) (wk G 26) (wk G 26) (wk G 25) pd5 (sz hml) all0 sf00 (D d11_2) (k_v 5 rfl ?_)
  rintro _ _ ⟨rfl, rfl⟩ -
  refine go_icF 8 (D d11_5) rfl (by decide) ?_
  refine go_aload_n 9 (D d11_8) rfl rfl rfl ?_
  refine go_iload_n 10 (D d11_9) rfl rfl ?_
  have q1 : C8 c2 := by obtain ⟨_, _, _, _, _, _, q, _⟩ := id p1; exact q _ (by simp)
  refine callV0 (cells' := 0) (slots' := 0) (Wd := 0) (argsL := [(.int 2)]) (rest := []) (pay_chr G O0 (i := 2) (c := c2) p1 rfl (nb rfl) rfl (by decide) (by decide)) p1.exa (wk G 36) (wk G 37) (wk G 39) (wk G 39) (wk G 38) pd6 (sz hml) all0 sf00 (D d11_10) (k_v 13 rfl ?_)
  rintro _ _ ⟨rfl, rfl⟩ -
  refine go_ireturn hret hlk (nar_c8 q1) (by simp) (D d11_13) (by decide) (by decide) ⟨_, rfl, ⟨rfl, rfl⟩⟩ (Keep.refl h0 [])
def Q_at3_3 (Z : State) (a b : Addr) (k : ClassId) (c0 c1 c2 e0 e1 e2 : Int32) (h0 : Heap) (xv : Value) (h : Heap) : Prop := (.int e0) = xv ∧ h0 = h
theorem c_at3_3 (G : GH Z a0) (a b : Addr) (k : ClassId) (c0 c1 c2 e0 e1 e2 : Int32) (h0 : Heap) (O0 : Old Z Z.heap.size h0) (p1 : Str Z h0 a [c0, c1, c2]) (p2 : Arv Z h0 b k (.char) (3 : Int32) [(.int e0), (.int e1), (.int e2)] (.int 0)) (p3 : C8 e0) (p4 : C8 e1) (p5 : C8 e2) : Con false [] l Z (⟨"com/example/hew/hew/MethodKindNounPinLaw", "at", "(Ljava/lang/String;[CI)C"⟩ : MethodName) method_5_code 4 (some .char) [] (rm4 2 0 0 26) #[(.ref a), (.ref b), (.int 3)] h0 [] (rvl (Q_at3_3 Z a b k c0 c1 c2 e0 e1 e2 h0)) := by
  refine conN G (plainFor_of_name pn4) O0 (fun m => ef11 m a b (3 : Int32)) ?_
  intro _ _ _ m_ _ _ _ D hml hret hlk hnm
  refine go_iload_n 1 (D d11_0) rfl rfl ?_
  refine go_aload_n 2 (D d11_1) rfl rfl rfl ?_
  refine callV0 (cells' := 0) (slots' := 0) (Wd := 1) (argsL := []) (rest := [(.int 3)]) (pay_len G O0 (n := (3 : Int32)) p1 rfl (by decide) (by decide)) p1.exa (wk G 23) (wk G 24) (wk G 26) (wk G 26) (wk G 25) pd5 (sz hml) all0 sf00 (D d11_2) (k_v 5 rfl ?_)
  rintro _ _ ⟨rfl, rfl⟩ -
  refine go_icT 14 (D d11_5) (by decide) rfl (by decide) ?_
  refine go_iload_n 15 (D d11_14) rfl rfl ?_
  refine go_aload_n 16 (D d11_15) rfl rfl rfl ?_
  refine callV0 (cells' := 0) (slots' := 0) (Wd := 1) (argsL := []) (rest := [(.int 3)]) (pay_len G O0 (n := (3 : Int32)) p1 rfl (by decide) (by decide)) p1.exa (wk G 23) (wk G 24) (wk G 26) (wk G 26) (wk G 25) pd5 (sz hml) all0 sf00 (D d11_16) (k_v 19 rfl ?_)
  rintro _ _ ⟨rfl, rfl⟩ -
  refine go_isub 20 (z := (0 : Int32)) (D d11_19) rfl (by decide) ?_
  refine go_istore_n 21 (ls' := #[vr a, vr b, vi 3, vi 0]) (D d11_20) rfl rfl ?_
  refine go_iload_n 22 (D d11_21) rfl rfl ?_
  refine go_aload_n 23 (D d11_22) rfl rfl rfl ?_
  refine go_arraylength 24 p2 (D d11_23) rfl ?_
  refine go_icF 27 (D d11_24) rfl (by decide) ?_
  refine go_aload_n 28 (D d11_27) rfl rfl rfl ?_
  refine go_iload_n 29 (D d11_28) rfl rfl ?_
  refine go_caload 30 (i := 0) (v := (.int e0)) p2 (by decide) (by decide) rfl rfl (D d11_29) rfl ?_
  refine go_ireturn hret hlk (nar_c8 p3) (by simp) (D d11_30) (by decide) (by decide) ⟨_, rfl, ⟨rfl, rfl⟩⟩ (Keep.refl h0 [])
def Q_at3_4 (Z : State) (a b : Addr) (k : ClassId) (c0 c1 c2 e0 e1 e2 : Int32) (h0 : Heap) (xv : Value) (h : Heap) : Prop := (.int e1) = xv ∧ h0 = h
theorem c_at3_4 (G : GH Z a0) (a b : Addr) (k : ClassId) (c0 c1 c2 e0 e1 e2 : Int32) (h0 : Heap) (O0 : Old Z Z.heap.size h0) (p1 : Str Z h0 a [c0, c1, c2]) (p2 : Arv Z h0 b k (.char) (3 : Int32) [(.int e0), (.int e1), (.int e2)] (.int 0)) (p3 : C8 e0) (p4 : C8 e1) (p5 : C8 e2) : Con false [] l Z (⟨"com/example/hew/hew/MethodKindNounPinLaw", "at", "(Ljava/lang/String;[CI)C"⟩ : MethodName) method_5_code 4 (some .char) [] (rm4 2 0 0 26) #[(.ref a), (.ref b), (.int 4)] h0 [] (rvl (Q_at3_4 Z a b k c0 c1 c2 e0 e1 e2 h0)) := by
  refine conN G (plainFor_of_name pn4) O0 (fun m => ef11 m a b (4 : Int32)) ?_
  intro _ _ _ m_ _ _ _ D hml hret hlk hnm
  refine go_iload_n 1 (D d11_0) rfl rfl ?_
  refine go_aload_n 2 (D d11_1) rfl rfl rfl ?_
  refine callV0 (cells' := 0) (slots' := 0) (Wd := 1) (argsL := []) (rest := [(.int 4)]) (pay_len G O0 (n := (3 : Int32)) p1 rfl (by decide) (by decide)) p1.exa (wk G 23) (wk G 24) (wk G 26) (wk G 26) (wk G 25) pd5 (sz hml) all0 sf00 (D d11_2) (k_v 5 rfl ?_)
  rintro _ _ ⟨rfl, rfl⟩ -
  refine go_icT 14 (D d11_5) (by decide) rfl (by decide) ?_
  refine go_iload_n 15 (D d11_14) rfl rfl ?_
  refine go_aload_n 16 (D d11_15) rfl rfl rfl ?_
  refine callV0 (cells' := 0) (slots' := 0) (Wd := 1) (argsL := []) (rest := [(.int 4)]) (pay_len G O0 (n := (3 : Int32)) p1 rfl (by decide) (by decide)) p1.exa (wk G 23) (wk G 24) (wk G 26) (wk G 26) (wk G 25) pd5 (sz hml) all0 sf00 (D d11_16) (k_v 19 rfl ?_)
  rintro _ _ ⟨rfl, rfl⟩ -
  refine go_isub 20 (z := (1 : Int32)) (D d11_19) rfl (by decide) ?_
  refine go_istore_n 21 (ls' := #[vr a, vr b, vi 4, vi 1]) (D d11_20) rfl rfl ?_
  refine go_iload_n 22 (D d11_21) rfl rfl ?_
  refine go_aload_n 23 (D d11_22) rfl rfl rfl ?_
  refine go_arraylength 24 p2 (D d11_23) rfl ?_
  refine go_icF 27 (D d11_24) rfl (by decide) ?_
  refine go_aload_n 28 (D d11_27) rfl rfl rfl ?_
  refine go_iload_n 29 (D d11_28) rfl rfl ?_
  refine go_caload 30 (i := 1) (v := (.int e1)) p2 (by decide) (by decide) rfl rfl (D d11_29) rfl ?_
  refine go_ireturn hret hlk (nar_c8 p4) (by simp) (D d11_30) (by decide) (by decide) ⟨_, rfl, ⟨rfl, rfl⟩⟩ (Keep.refl h0 [])
def Q_at3_5 (Z : State) (a b : Addr) (k : ClassId) (c0 c1 c2 e0 e1 e2 : Int32) (h0 : Heap) (xv : Value) (h : Heap) : Prop := (.int e2) = xv ∧ h0 = h
theorem c_at3_5 (G : GH Z a0) (a b : Addr) (k : ClassId) (c0 c1 c2 e0 e1 e2 : Int32) (h0 : Heap) (O0 : Old Z Z.heap.size h0) (p1 : Str Z h0 a [c0, c1, c2]) (p2 : Arv Z h0 b k (.char) (3 : Int32) [(.int e0), (.int e1), (.int e2)] (.int 0)) (p3 : C8 e0) (p4 : C8 e1) (p5 : C8 e2) : Con false [] l Z (⟨"com/example/hew/hew/MethodKindNounPinLaw", "at", "(Ljava/lang/String;[CI)C"⟩ : MethodName) method_5_code 4 (some .char) [] (rm4 2 0 0 26) #[(.ref a), (.ref b), (.int 5)] h0 [] (rvl (Q_at3_5 Z a b k c0 c1 c2 e0 e1 e2 h0)) := by
  refine conN G (plainFor_of_name pn4) O0 (fun m => ef11 m a b (5 : Int32)) ?_
  intro _ _ _ m_ _ _ _ D hml hret hlk hnm
  refine go_iload_n 1 (D d11_0) rfl rfl ?_
  refine go_aload_n 2 (D d11_1) rfl rfl rfl ?_
  refine callV0 (cells' := 0) (slots' := 0) (Wd := 1) (argsL := []) (rest := [(.int 5)]) (pay_len G O0 (n := (3 : Int32)) p1 rfl (by decide) (by decide)) p1.exa (wk G 23) (wk G 24) (wk G 26) (wk G 26) (wk G 25) pd5 (sz hml) all0 sf00 (D d11_2) (k_v 5 rfl ?_)
  rintro _ _ ⟨rfl, rfl⟩ -
  refine go_icT 14 (D d11_5) (by decide) rfl (by decide) ?_
  refine go_iload_n 15 (D d11_14) rfl rfl ?_
  refine go_aload_n 16 (D d11_15) rfl rfl rfl ?_
  refine callV0 (cells' := 0) (slots' := 0) (Wd := 1) (argsL := []) (rest := [(.int 5)]) (pay_len G O0 (n := (3 : Int32)) p1 rfl (by decide) (by decide)) p1.exa (wk G 23) (wk G 24) (wk G 26) (wk G 26) (wk G 25) pd5 (sz hml) all0 sf00 (D d11_16) (k_v 19 rfl ?_)
  rintro _ _ ⟨rfl, rfl⟩ -
  refine go_isub 20 (z := (2 : Int32)) (D d11_19) rfl (by decide) ?_
  refine go_istore_n 21 (ls' := #[vr a, vr b, vi 5, vi 2]) (D d11_20) rfl rfl ?_
  refine go_iload_n 22 (D d11_21) rfl rfl ?_
  refine go_aload_n 23 (D d11_22) rfl rfl rfl ?_
  refine go_arraylength 24 p2 (D d11_23) rfl ?_
  refine go_icF 27 (D d11_24) rfl (by decide) ?_
  refine go_aload_n 28 (D d11_27) rfl rfl rfl ?_
  refine go_iload_n 29 (D d11_28) rfl rfl ?_
  refine go_caload 30 (i := 2) (v := (.int e2)) p2 (by decide) (by decide) rfl rfl (D d11_29) rfl ?_
  refine go_ireturn hret hlk (nar_c8 p5) (by simp) (D d11_30) (by decide) (by decide) ⟨_, rfl, ⟨rfl, rfl⟩⟩ (Keep.refl h0 [])
def Q_at3_6 (Z : State) (a b : Addr) (k : ClassId) (c0 c1 c2 e0 e1 e2 : Int32) (h0 : Heap) (xv : Value) (h : Heap) : Prop := (.int 120) = xv ∧ h0 = h
theorem c_at3_6 (G : GH Z a0) (a b : Addr) (k : ClassId) (c0 c1 c2 e0 e1 e2 : Int32) (h0 : Heap) (O0 : Old Z Z.heap.size h0) (p1 : Str Z h0 a [c0, c1, c2]) (p2 : Arv Z h0 b k (.char) (3 : Int32) [(.int e0), (.int e1), (.int e2)] (.int 0)) (p3 : C8 e0) (p4 : C8 e1) (p5 : C8 e2) : Con false [] l Z (⟨"com/example/hew/hew/MethodKindNounPinLaw", "at", "(Ljava/lang/String;[CI)C"⟩ : MethodName) method_5_code 4 (some .char) [] (rm4 2 0 0 26) #[(.ref a), (.ref b), (.int 6)] h0 [] (rvl (Q_at3_6 Z a b k c0 c1 c2 e0 e1 e2 h0)) := by
  refine conN G (plainFor_of_name pn4) O0 (fun m => ef11 m a b (6 : Int32)) ?_
  intro _ _ _ m_ _ _ _ D hml hret hlk hnm
  refine go_iload_n 1 (D d11_0) rfl rfl ?_
  refine go_aload_n 2 (D d11_1) rfl rfl rfl ?_
  refine callV0 (cells' := 0) (slots' := 0) (Wd := 1) (argsL := []) (rest := [(.int 6)]) (pay_len G O0 (n := (3 : Int32)) p1 rfl (by decide) (by decide)) p1.exa (wk G 23) (wk G 24) (wk G 26) (wk G 26) (wk G 25) pd5 (sz hml) all0 sf00 (D d11_2) (k_v 5 rfl ?_)
  rintro _ _ ⟨rfl, rfl⟩ -
  refine go_icT 14 (D d11_5) (by decide) rfl (by decide) ?_
  refine go_iload_n 15 (D d11_14) rfl rfl ?_
  refine go_aload_n 16 (D d11_15) rfl rfl rfl ?_
  refine callV0 (cells' := 0) (slots' := 0) (Wd := 1) (argsL := []) (rest := [(.int 6)]) (pay_len G O0 (n := (3 : Int32)) p1 rfl (by decide) (by decide)) p1.exa (wk G 23) (wk G 24) (wk G 26) (wk G 26) (wk G 25) pd5 (sz hml) all0 sf00 (D d11_16) (k_v 19 rfl ?_)
  rintro _ _ ⟨rfl, rfl⟩ -
  refine go_isub 20 (z := (3 : Int32)) (D d11_19) rfl (by decide) ?_
  refine go_istore_n 21 (ls' := #[vr a, vr b, vi 6, vi 3]) (D d11_20) rfl rfl ?_
  refine go_iload_n 22 (D d11_21) rfl rfl ?_
  refine go_aload_n 23 (D d11_22) rfl rfl rfl ?_
  refine go_arraylength 24 p2 (D d11_23) rfl ?_
  refine go_icT 31 (D d11_24) (by decide) rfl (by decide) ?_
  refine go_bipush 33 (v := 120) (D d11_31) rfl rfl ?_
  refine go_ireturn hret hlk rfl (by simp) (D d11_33) (by decide) (by decide) ⟨_, rfl, ⟨rfl, rfl⟩⟩ (Keep.refl h0 [])
def Q_at3_7 (Z : State) (a b : Addr) (k : ClassId) (c0 c1 c2 e0 e1 e2 : Int32) (h0 : Heap) (xv : Value) (h : Heap) : Prop := (.int 120) = xv ∧ h0 = h
theorem c_at3_7 (G : GH Z a0) (a b : Addr) (k : ClassId) (c0 c1 c2 e0 e1 e2 : Int32) (h0 : Heap) (O0 : Old Z Z.heap.size h0) (p1 : Str Z h0 a [c0, c1, c2]) (p2 : Arv Z h0 b k (.char) (3 : Int32) [(.int e0), (.int e1), (.int e2)] (.int 0)) (p3 : C8 e0) (p4 : C8 e1) (p5 : C8 e2) : Con false [] l Z (⟨"com/example/hew/hew/MethodKindNounPinLaw", "at", "(Ljava/lang/String;[CI)C"⟩ : MethodName) method_5_code 4 (some .char) [] (rm4 2 0 0 26) #[(.ref a), (.ref b), (.int 7)] h0 [] (rvl (Q_at3_7 Z a b k c0 c1 c2 e0 e1 e2 h0)) := by
  refine conN G (plainFor_of_name pn4) O0 (fun m => ef11 m a b (7 : Int32)) ?_
  intro _ _ _ m_ _ _ _ D hml hret hlk hnm
  refine go_iload_n 1 (D d11_0) rfl rfl ?_
  refine go_aload_n 2 (D d11_1) rfl rfl rfl ?_
  refine callV0 (cells' := 0) (slots' := 0) (Wd := 1) (argsL := []) (rest := [(.int 7)]) (pay_len G O0 (n := (3 : Int32)) p1 rfl (by decide) (by decide)) p1.exa (wk G 23) (wk G 24) (wk G 26) (wk G 26) (wk G 25) pd5 (sz hml) all0 sf00 (D d11_2) (k_v 5 rfl ?_)
  rintro _ _ ⟨rfl, rfl⟩ -
  refine go_icT 14 (D d11_5) (by decide) rfl (by decide) ?_
  refine go_iload_n 15 (D d11_14) rfl rfl ?_
  refine go_aload_n 16 (D d11_15) rfl rfl rfl ?_
  refine callV0 (cells' := 0) (slots' := 0) (Wd := 1) (argsL := []) (rest := [(.int 7)]) (pay_len G O0 (n := (3 : Int32)) p1 rfl (by decide) (by decide)) p1.exa (wk G 23) (wk G 24) (wk G 26) (wk G 26) (wk G 25) pd5 (sz hml) all0 sf00 (D d11_16) (k_v 19 rfl ?_)
  rintro _ _ ⟨rfl, rfl⟩ -
  refine go_isub 20 (z := (4 : Int32)) (D d11_19) rfl (by decide) ?_
  refine go_istore_n 21 (ls' := #[vr a, vr b, vi 7, vi 4]) (D d11_20) rfl rfl ?_
  refine go_iload_n 22 (D d11_21) rfl rfl ?_
  refine go_aload_n 23 (D d11_22) rfl rfl rfl ?_
  refine go_arraylength 24 p2 (D d11_23) rfl ?_
  refine go_icT 31 (D d11_24) (by decide) rfl (by decide) ?_
  refine go_bipush 33 (v := 120) (D d11_31) rfl rfl ?_
  refine go_ireturn hret hlk rfl (by simp) (D d11_33) (by decide) (by decide) ⟨_, rfl, ⟨rfl, rfl⟩⟩ (Keep.refl h0 [])
def Q_at3_8 (Z : State) (a b : Addr) (k : ClassId) (c0 c1 c2 e0 e1 e2 : Int32) (h0 : Heap) (xv : Value) (h : Heap) : Prop := (.int 120) = xv ∧ h0 = h
theorem c_at3_8 (G : GH Z a0) (a b : Addr) (k : ClassId) (c0 c1 c2 e0 e1 e2 : Int32) (h0 : Heap) (O0 : Old Z Z.heap.size h0) (p1 : Str Z h0 a [c0, c1, c2]) (p2 : Arv Z h0 b k (.char) (3 : Int32) [(.int e0), (.int e1), (.int e2)] (.int 0)) (p3 : C8 e0) (p4 : C8 e1) (p5 : C8 e2) : Con false [] l Z (⟨"com/example/hew/hew/MethodKindNounPinLaw", "at", "(Ljava/lang/String;[CI)C"⟩ : MethodName) method_5_code 4 (some .char) [] (rm4 2 0 0 26) #[(.ref a), (.ref b), (.int 8)] h0 [] (rvl (Q_at3_8 Z a b k c0 c1 c2 e0 e1 e2 h0)) := by
  refine conN G (plainFor_of_name pn4) O0 (fun m => ef11 m a b (8 : Int32)) ?_
  intro _ _ _ m_ _ _ _ D hml hret hlk hnm
  refine go_iload_n 1 (D d11_0) rfl rfl ?_
  refine go_aload_n 2 (D d11_1) rfl rfl rfl ?_
  refine callV0 (cells' := 0) (slots' := 0) (Wd := 1) (argsL := []) (rest := [(.int 8)]) (pay_len G O0 (n := (3 : Int32)) p1 rfl (by decide) (by decide)) p1.exa (wk G 23) (wk G 24) (wk G 26) (wk G 26) (wk G 25) pd5 (sz hml) all0 sf00 (D d11_2) (k_v 5 rfl ?_)
  rintro _ _ ⟨rfl, rfl⟩ -
  refine go_icT 14 (D d11_5) (by decide) rfl (by decide) ?_
  refine go_iload_n 15 (D d11_14) rfl rfl ?_
  refine go_aload_n 16 (D d11_15) rfl rfl rfl ?_
  refine callV0 (cells' := 0) (slots' := 0) (Wd := 1) (argsL := []) (rest := [(.int 8)]) (pay_len G O0 (n := (3 : Int32)) p1 rfl (by decide) (by decide)) p1.exa (wk G 23) (wk G 24) (wk G 26) (wk G 26) (wk G 25) pd5 (sz hml) all0 sf00 (D d11_16) (k_v 19 rfl ?_)
  rintro _ _ ⟨rfl, rfl⟩ -
  refine go_isub 20 (z := (5 : Int32)) (D d11_19) rfl (by decide) ?_
  refine go_istore_n 21 (ls' := #[vr a, vr b, vi 8, vi 5]) (D d11_20) rfl rfl ?_
  refine go_iload_n 22 (D d11_21) rfl rfl ?_
  refine go_aload_n 23 (D d11_22) rfl rfl rfl ?_
  refine go_arraylength 24 p2 (D d11_23) rfl ?_
  refine go_icT 31 (D d11_24) (by decide) rfl (by decide) ?_
  refine go_bipush 33 (v := 120) (D d11_31) rfl rfl ?_
  refine go_ireturn hret hlk rfl (by simp) (D d11_33) (by decide) (by decide) ⟨_, rfl, ⟨rfl, rfl⟩⟩ (Keep.refl h0 [])
def Q_take9_3 (Z : State) (a : Addr) (k : ClassId) (e0 e1 e2 e3 e4 e5 e6 e7 e8 : Int32) (h0 : Heap) (xv : Value) (h : Heap) : Prop := ∃ (r : Addr), (.ref r) = xv ∧ h0.size ≤ r ∧ Str Z h r [e0, e1, e2]
theorem c_take9_3 (G : GH Z a0) (a : Addr) (k : ClassId) (e0 e1 e2 e3 e4 e5 e6 e7 e8 : Int32) (h0 : Heap) (O0 : Old Z Z.heap.size h0) (p1 : Arv Z h0 a k (.char) (9 : Int32) [(.int e0), (.int e1), (.int e2), (.int e3), (.int e4), (.int e5), (.int e6), (.int e7), (.int e8)] (.int 0)) (p2 : C8 e0) (p3 : C8 e1) (p4 : C8 e2) : Con false [] l Z (⟨"com/example/hew/hew/MethodKindNounPinLaw", "take", "([CI)Ljava/lang/String;"⟩ : MethodName) method_6_code 2 (some (.object "java/lang/String")) [] (rm4 4 3 10 66) #[(.ref a), (.int 3)] h0 [] (rvl (Q_take9_3 Z a k e0 e1 e2 e3 e4 e5 e6 e7 e8 h0)) := by
  refine conN G (plainFor_of_name pn4) O0 (fun m => ef12 m a (3 : Int32)) ?_
  intro _ _ _ m_ _ _ _ D hml hret hlk hnm
  refine go_iload_n 1 (D d12_0) rfl rfl ?_
  refine go_ifT 15 (D d12_1) (by decide) rfl (by decide) ?_
  refine go_iload_n 16 (D d12_15) rfl rfl ?_
  refine go_iconst 17 (v := 1) (D d12_16) rfl rfl ?_
  refine go_icT 37 (D d12_17) (by decide) rfl (by decide) ?_
  refine go_iload_n 38 (D d12_37) rfl rfl ?_
  refine go_iconst 39 (v := 2) (D d12_38) rfl rfl ?_
  refine go_icT 65 (D d12_39) (by decide) rfl (by decide) ?_
  refine go_iload_n 66 (D d12_65) rfl rfl ?_
  refine go_iconst 67 (v := 3) (D d12_66) rfl rfl ?_
  refine go_icF 70 (D d12_67) rfl (by decide) ?_
  refine go_newO 73 (cells' := 1) (slots' := 4) (wk G 61) (wk G 13) (wk G 12) (D d12_70) rfl rfl rfl (by decide) (by decide) (fun h1 a2 g3 X4 E5 D6 U7 => ?_)
  refine go_dup 74 (D d12_73) rfl rfl ?_
  refine go_iconst 75 (v := 3) (D d12_74) rfl rfl ?_
  refine go_newP 77 (cells' := 2) (slots' := 7) (cap := 3) (vs := [(.int 0), (.int 0), (.int 0)]) (ty := .char) (dv := .int 0) (wk G 19) rfl rfl (D d12_75) rfl (by decide) rfl (by decide) rfl rfl rfl (by decide) (by decide) (fun h8 a9 k13 g10 X11 A12 => ?_)
  refine go_dup 78 (D d12_77) rfl rfl ?_
  refine go_iconst 79 (v := 0) (D d12_78) rfl rfl ?_
  refine go_aload_n 80 (D d12_79) rfl rfl rfl ?_
  refine go_iconst 81 (v := 0) (D d12_80) rfl rfl ?_
  have K14 : Keep h0 h1 [] := ((Keep.refl h0 []).ext X4)
  have K15 : Keep h0 h8 [] := (K14.ext X11)
  have A16 := (p1.keep K15 nin0)
  refine go_caload 82 (i := 0) (v := (.int e0)) A16 (by decide) (by decide) rfl rfl (D d12_81) rfl ?_
  refine go_stC 83 (i := 0) (x' := e0) (vs' := [(.int e0), (.int 0), (.int 0)]) A12 (Nat.le_trans O0.2.1 (Nat.le_trans K14.1 (Nat.le_of_eq g10))) (by decide) (by decide) rfl (nb rfl) (i2c_c8 p2) rfl (D d12_82) rfl (fun h17 W18 A19 => ?_)
  refine go_dup 84 (D d12_83) rfl rfl ?_
  refine go_iconst 85 (v := 1) (D d12_84) rfl rfl ?_
  refine go_aload_n 86 (D d12_85) rfl rfl rfl ?_
  refine go_iconst 87 (v := 1) (D d12_86) rfl rfl ?_
  have A20 := (A16.other W18 (Nat.ne_of_lt (Nat.lt_of_lt_of_le (Nat.lt_of_lt_of_le p1.lt K14.1) (Nat.le_of_eq g10))))
  refine go_caload 88 (i := 1) (v := (.int e1)) A20 (by decide) (by decide) rfl rfl (D d12_87) rfl ?_
  refine go_stC 89 (i := 1) (x' := e1) (vs' := [(.int e0), (.int e1), (.int 0)]) A19 (Nat.le_trans O0.2.1 (Nat.le_trans K14.1 (Nat.le_of_eq g10))) (by decide) (by decide) rfl (nb rfl) (i2c_c8 p3) rfl (D d12_88) rfl (fun h21 W22 A23 => ?_)
  refine go_dup 90 (D d12_89) rfl rfl ?_
  refine go_iconst 91 (v := 2) (D d12_90) rfl rfl ?_
  refine go_aload_n 92 (D d12_91) rfl rfl rfl ?_
  refine go_iconst 93 (v := 2) (D d12_92) rfl rfl ?_
  have A24 := (A20.other W22 (Nat.ne_of_lt (Nat.lt_of_lt_of_le (Nat.lt_of_lt_of_le p1.lt K14.1) (Nat.le_of_eq g10))))
  refine go_caload 94 (i := 2) (v := (.int e2)) A24 (by decide) (by decide) rfl rfl (D d12_93) rfl ?_
  refine go_stC 95 (i := 2) (x' := e2) (vs' := [(.int e0), (.int e1), (.int e2)]) A23 (Nat.le_trans O0.2.1 (Nat.le_trans K14.1 (Nat.le_of_eq g10))) (by decide) (by decide) rfl (nb rfl) (i2c_c8 p4) rfl (D d12_94) rfl (fun h25 W26 A27 => ?_)
  have K28 : Keep h1 h8 [] := ((Keep.refl h1 []).ext X11)
  have K29 : Keep h1 h17 [] := (K28.wr W18 (Or.inr (Nat.le_of_eq g10)))
  have K30 : Keep h1 h21 [] := (K29.wr W22 (Or.inr (Nat.le_of_eq g10)))
  have K31 : Keep h1 h25 [] := (K30.wr W26 (Or.inr (Nat.le_of_eq g10)))
  have E32 := (E5.keep K31)
  have F33 := D6 (Or.inr (wk G 15)) (ty := (.array .byte)) (by decide)
  have F34 := (F33.keep K31 nin0)
  have F35 := D6 (Or.inr (wk G 16)) (ty := .byte) (by decide)
  have F36 := (F35.keep K31 nin0)
  refine go_old (fun O37 => ?_)
  refine callI0 (cells' := 3) (slots' := 10) (Wd := 1) (argsL := [(.ref a9)]) (rest := [(.ref a2)]) (pay_new G O37 (cs := [e0, e1, e2]) (n := 3) (Nat.le_trans O0.2.1 (Nat.le_of_eq g3)) E32 F34 F36 A27 rfl rfl (by decide) (by decide) (c8c p2 (c8c p3 (c8c p4 c8n))) (by decide) (by decide)) rfl (wk G 62) (wk G 63) (wk G 64) pd8 (sz hml) (allS (Nat.le_trans O0.2.1 (Nat.le_of_eq g3)) all0) (fun _ hal => (sfS safe_nil sf0)) (D d12_95) (k_n 98 rfl ?_)
  rintro h38 S40 K39
  have K41 : Keep h0 h17 [] := (K15.wr W18 (Or.inr (Nat.le_trans K14.1 (Nat.le_of_eq g10))))
  have K42 : Keep h0 h21 [] := (K41.wr W22 (Or.inr (Nat.le_trans K14.1 (Nat.le_of_eq g10))))
  have K43 : Keep h0 h25 [] := (K42.wr W26 (Or.inr (Nat.le_trans K14.1 (Nat.le_of_eq g10))))
  have K44 : Keep h0 h38 [] := (K43.trans K39 (allS (Or.inr (Nat.le_of_eq g3)) all0))
  refine go_areturn hret hlk rfl rfl (D d12_98) (by decide) (by decide) ⟨_, rfl, ⟨a2, rfl, (Nat.le_of_eq g3), S40⟩⟩ K44
def Q_noun3_3 (Z : State) (a b p : Addr) (g0 g1 g2 c0 c1 c2 : Int32) (h0 : Heap) (xv : Value) (h : Heap) : Prop := ∃ (r : Addr), (.ref r) = xv ∧ Str Z h r []
def Q_subi3_3 (Z : State) (a : Addr) (c0 c1 c2 : Int32) (h0 : Heap) (xv : Value) (h : Heap) : Prop := ∃ (r : Addr), (.ref r) = xv ∧ Str Z h r []
def Q_sub3_3_3 (Z : State) (a : Addr) (c0 c1 c2 : Int32) (h0 : Heap) (xv : Value) (h : Heap) : Prop := ∃ (r : Addr), (.ref r) = xv ∧ Str Z h r []
def Q_news3_0_3 (Z : State) (t : Addr) (k : ClassId) (c0 c1 c2 : Int32) (h0 : Heap) (xv : Value) (h : Heap) : Prop := ∃ (r : Addr), (.ref r) = xv ∧ Str Z h r []
theorem c_news3_0_3 (G : GH Z a0) (t : Addr) (k : ClassId) (c0 c1 c2 : Int32) (h0 : Heap) (O0 : Old Z Z.heap.size h0) (p1 : Arv Z h0 t k (.byte) (3 : Int32) [(.int (c0).toInt8.toInt32), (.int (c1).toInt8.toInt32), (.int (c2).toInt8.toInt32)] (.int 0)) (p2 : C8 c0) (p3 : C8 c1) (p4 : C8 c2) : Con true EL1 l Z (⟨"java/lang/StringLatin1", "newString", "([BII)Ljava/lang/String;"⟩ : MethodName) jdk_43_method_47_code 3 (some (.object "java/lang/String")) [] (rm4 0 2 4 0) #[(.ref t), (.int 3), (.int 0)] h0 [] (rvl (Q_news3_0_3 Z t k c0 c1 c2 h0)) := by
  refine conW G (plainFor_of_name pn5) O0 (fun m => ef14 m t (3 : Int32) (0 : Int32)) ?_
  intro _ _ _ m_ _ _ _ D hml hret hlk hnm
  refine go_iload_n 1 (D d16_0) rfl rfl ?_
  refine go_ifF 4 (D d16_1) rfl (by decide) ?_
  refine go_ldcH 6 (cells' := 2) (slots' := 4) (n := 0) (vs := (([] : List Int32).map fun c => c.toInt8.toInt32).map Value.int) (z := (0 : Int32)) rfl (by decide) (wk G 145) (wS G) (by decide +kernel) (by decide) (by decide) (by decide) (by decide) (D d16_4) rfl rfl rfl (by decide) (by decide) (fun h1 a2 t4 k5 X3 E6 F7 F8 A9 => ?_)
  have S10 : Str Z h1 a2 [] := ⟨t4, k5, E6, F8, F7, A9, by decide, by decide⟩
  have K11 : Keep h0 h1 [] := ((Keep.refl h0 []).ext X3)
  refine go_areturn hret hlk rfl rfl (D d16_6) (by decide) (by decide) ⟨_, rfl, ⟨a2, rfl, S10⟩⟩ K11
theorem c_sub3_3_3 (G : GH Z a0) (a : Addr) (c0 c1 c2 : Int32) (h0 : Heap) (O0 : Old Z Z.heap.size h0) (p1 : Str Z h0 a [c0, c1, c2]) : Con true EL1 l Z (⟨"java/lang/String", "substring", "(II)Ljava/lang/String;"⟩ : MethodName) jdk_42_method_92_code 5 (some (.object "java/lang/String")) [] (rm4 2 2 4 29) #[(.ref a), (.int 3), (.int 3)] h0 [] (rvl (Q_sub3_3_3 Z a c0 c1 c2 h0)) := by
  refine conW G (plainFor_of_name pn1) O0 (fun m => ef13 m a (3 : Int32) (3 : Int32)) ?_
  intro _ _ _ m_ _ _ _ D hml hret hlk hnm
  have q1 : C8 c0 := by obtain ⟨_, _, _, _, _, _, q, _⟩ := id p1; exact q _ (by simp)
  have q2 : C8 c1 := by obtain ⟨_, _, _, _, _, _, q, _⟩ := id p1; exact q _ (by simp)
  have q3 : C8 c2 := by obtain ⟨_, _, _, _, _, _, q, _⟩ := id p1; exact q _ (by simp)
  refine go_aload_n 1 (D d15_0) rfl rfl rfl ?_
  refine callV0 (cells' := 0) (slots' := 0) (Wd := 0) (argsL := []) (rest := []) (pay_len G O0 (n := (3 : Int32)) p1 rfl (by decide) (by decide)) p1.exa (wk G 95) (wk G 24) (wk G 26) (wk G 26) (wk G 25) pd5 (sz hml) all0 sf00 (D d15_1) (k_v 4 rfl ?_)
  rintro _ _ ⟨rfl, rfl⟩ -
  refine go_istore_n 5 (ls' := #[vr a, vi 3, vi 3, vi 3, un]) (D d15_4) rfl rfl ?_
  refine go_iload_n 6 (D d15_5) rfl rfl ?_
  refine go_iload_n 7 (D d15_6) rfl rfl ?_
  refine go_iload_n 8 (D d15_7) rfl rfl ?_
  refine callS0 (cells' := 0) (slots' := 0) (Wd := 0) (argsL := [(.int 3), (.int 3), (.int 3)]) (rest := []) (pay_of (a0 := a0) (c_cbbe l G (3 : Int32) (3 : Int32) (3 : Int32) h0 O0 (by decide) (by decide) (by decide)) (wk G 103) (wk G 12)) (wk G 101) (wk G 102) (wk G 12) (wk G 103) pd10 (sz hml) all0 sf00 (D d15_8) (k_n 11 rfl ?_)
  rintro  h4 rfl K5
  refine go_iload_n 12 (D d15_11) rfl rfl ?_
  refine go_ifT 22 (D d15_12) (by decide) rfl (by decide) ?_
  refine go_iload_n 23 (D d15_22) rfl rfl ?_
  refine go_iload_n 24 (D d15_23) rfl rfl ?_
  refine go_isub 25 (z := (0 : Int32)) (D d15_24) rfl (by decide) ?_
  refine go_istore 27 (ls' := #[vr a, vi 3, vi 3, vi 3, vi 0]) (D d15_25) rfl rfl ?_
  refine go_aload_n 28 (D d15_27) rfl rfl rfl ?_
  obtain ⟨t6, k7, E8, F9, F10, A11, B12, L13⟩ := id p1
  refine callV0 (cells' := 0) (slots' := 0) (Wd := 0) (argsL := []) (rest := []) (pay_of (a0 := a0) (c_islatin l G a h0 O0 F10) (wk G 45) (wk G 12)) E8 (wk G 41) (wk G 42) (wk G 44) (wk G 44) (wk G 43) pd11 (sz hml) all0 sf00 (D d15_28) (k_v 31 rfl ?_)
  rintro _ h14 ⟨rfl, rfl⟩ K15
  refine go_ifF 34 (D d15_31) rfl (by decide) ?_
  refine go_aload_n 35 (D d15_34) rfl rfl rfl ?_
  refine go_getF 38 (wk G 28) Via.refl F9 (D d15_35) rfl ?_
  refine go_iload_n 39 (D d15_38) rfl rfl ?_
  refine go_iload 41 (D d15_39) rfl rfl ?_
  refine callSW0 rfl (cells' := 2) (slots' := 4) (Wd := 0) (argsL := [(.ref t6), (.int 3), (.int 0)]) (rest := []) (payW_of (a0 := a0) (c_news3_0_3 l G t6 k7 c0 c1 c2 h0 O0 A11 q1 q2 q3) (wk G 109) (wk G 48) (ew1 G)) (wk G 107) (wk G 108) (wk G 48) (wk G 109) pd12 (sz hml) all0 (D d15_41) (k_v 44 rfl ?_)
  rintro _ h16 ⟨r18, rfl, f19⟩ K17
  refine go_goto 57 (D d15_44) (by decide) rfl ?_
  have K20 : Keep h0 h16 [] := ((Keep.refl h0 []).trans K17 all0)
  refine go_areturn hret hlk rfl rfl (D d15_57) (by decide) (by decide) ⟨_, rfl, ⟨r18, rfl, f19⟩⟩ K20
theorem c_subi3_3 (G : GH Z a0) (a : Addr) (c0 c1 c2 : Int32) (h0 : Heap) (O0 : Old Z Z.heap.size h0) (p1 : Str Z h0 a [c0, c1, c2]) : Con true EL1 l Z (⟨"java/lang/String", "substring", "(I)Ljava/lang/String;"⟩ : MethodName) jdk_42_method_91_code 2 (some (.object "java/lang/String")) [] (rm4 3 2 4 45) #[(.ref a), (.int 3)] h0 [] (rvl (Q_subi3_3 Z a c0 c1 c2 h0)) := by
  refine conW G (plainFor_of_name pn1) O0 (fun m => ef12 m a (3 : Int32)) ?_
  intro _ _ _ m_ _ _ _ D hml hret hlk hnm
  have q1 : C8 c0 := by obtain ⟨_, _, _, _, _, _, q, _⟩ := id p1; exact q _ (by simp)
  have q2 : C8 c1 := by obtain ⟨_, _, _, _, _, _, q, _⟩ := id p1; exact q _ (by simp)
  have q3 : C8 c2 := by obtain ⟨_, _, _, _, _, _, q, _⟩ := id p1; exact q _ (by simp)
  refine go_aload_n 1 (D d14_0) rfl rfl rfl ?_
  refine go_iload_n 2 (D d14_1) rfl rfl ?_
  refine go_aload_n 3 (D d14_2) rfl rfl rfl ?_
  refine callV0 (cells' := 0) (slots' := 0) (Wd := 2) (argsL := []) (rest := [(.int 3), (.ref a)]) (pay_len G O0 (n := (3 : Int32)) p1 rfl (by decide) (by decide)) p1.exa (wk G 95) (wk G 24) (wk G 26) (wk G 26) (wk G 25) pd5 (sz hml) all0 sf00 (D d14_3) (k_v 6 rfl ?_)
  rintro _ _ ⟨rfl, rfl⟩ -
  refine callVW0 rfl (cells' := 2) (slots' := 4) (Wd := 0) (argsL := [(.int 3), (.int 3)]) (rest := []) (payW_of (a0 := a0) (c_sub3_3_3 l G a c0 c1 c2 h0 O0 p1) (wk G 100) (wk G 12) (ew1 G)) p1.exa (wk G 96) (wk G 97) (wk G 99) (wk G 99) (wk G 98) pd13 (sz hml) all0 (D d14_6) (k_v 9 rfl ?_)
  rintro _ h4 ⟨r6, rfl, f7⟩ K5
  have K8 : Keep h0 h4 [] := ((Keep.refl h0 []).trans K5 all0)
  refine go_areturn hret hlk rfl rfl (D d14_9) (by decide) (by decide) ⟨_, rfl, ⟨r6, rfl, f7⟩⟩ K8
theorem c_noun3_3 (G : GH Z a0) (a b : Addr) (p : Addr) (g0 g1 g2 c0 c1 c2 : Int32) (h0 : Heap) (O0 : Old Z Z.heap.size h0) (p1 : Fld Z h0 a "com/example/hew/hew/MethodKind" "prefix" "Ljava/lang/String;" (.ref p)) (p2 : Str Z h0 p [g0, g1, g2]) (p3 : Str Z h0 b [c0, c1, c2]) : Con true EL1 l Z (⟨"com/example/hew/hew/MethodKind", "noun", "(Ljava/lang/String;)Ljava/lang/String;"⟩ : MethodName) prog_32_method_8_code 2 (some (.object "java/lang/String")) [] (rm4 4 2 4 58) #[(.ref a), (.ref b)] h0 [] (rvl (Q_noun3_3 Z a b p g0 g1 g2 c0 c1 c2 h0)) := by
  refine conW G (plainFor_of_name pn6) O0 (fun m => ef3 m a b) ?_
  intro _ _ _ m_ _ _ _ D hml hret hlk hnm
  refine go_aload_n 1 (D d13_0) rfl rfl rfl ?_
  refine go_aload_n 2 (D d13_1) rfl rfl rfl ?_
  refine go_getF 5 (wk G 87) Via.refl p1 (D d13_2) rfl ?_
  refine callV0 (cells' := 0) (slots' := 0) (Wd := 1) (argsL := []) (rest := [(.ref b)]) (pay_len G O0 (n := (3 : Int32)) p2 rfl (by decide) (by decide)) p2.exa (wk G 89) (wk G 24) (wk G 26) (wk G 26) (wk G 25) pd5 (sz hml) all0 sf00 (D d13_5) (k_v 8 rfl ?_)
  rintro _ _ ⟨rfl, rfl⟩ -
  refine callVW0 rfl (cells' := 2) (slots' := 4) (Wd := 0) (argsL := [(.int 3)]) (rest := []) (payW_of (a0 := a0) (c_subi3_3 l G b c0 c1 c2 h0 O0 p3) (wk G 94) (wk G 12) (ew1 G)) p3.exa (wk G 90) (wk G 91) (wk G 93) (wk G 93) (wk G 92) pd4 (sz hml) all0 (D d13_8) (k_v 11 rfl ?_)
  rintro _ h1 ⟨r3, rfl, f4⟩ K2
  have K5 : Keep h0 h1 [] := ((Keep.refl h0 []).trans K2 all0)
  refine go_areturn hret hlk rfl rfl (D d13_11) (by decide) (by decide) ⟨_, rfl, ⟨r3, rfl, f4⟩⟩ K5
def Q_noun3_4 (Z : State) (a b p : Addr) (g0 g1 g2 c0 c1 c2 c3 : Int32) (h0 : Heap) (xv : Value) (h : Heap) : Prop := ∃ (r : Addr), (.ref r) = xv ∧ Str Z h r [c3]
def Q_subi3_4 (Z : State) (a : Addr) (c0 c1 c2 c3 : Int32) (h0 : Heap) (xv : Value) (h : Heap) : Prop := ∃ (r : Addr), (.ref r) = xv ∧ Str Z h r [c3]
def Q_sub3_4_4 (Z : State) (a : Addr) (c0 c1 c2 c3 : Int32) (h0 : Heap) (xv : Value) (h : Heap) : Prop := ∃ (r : Addr), (.ref r) = xv ∧ Str Z h r [c3]
def Q_news3_1_4 (Z : State) (t : Addr) (k : ClassId) (c0 c1 c2 c3 : Int32) (h0 : Heap) (xv : Value) (h : Heap) : Prop := ∃ (r : Addr), (.ref r) = xv ∧ Str Z h r [c3]
def Q_cor3_4_4 (Z : State) (t : Addr) (k : ClassId) (b0 b1 b2 b3 : Int32) (h0 : Heap) (xv : Value) (h : Heap) : Prop := ∃ (r : Addr) (k2 : ClassId), (.ref r) = xv ∧ h0.size ≤ r ∧ Arv Z h r k2 (.byte) (1 : Int32) [(.int b3)] (.int 0)
def Q_corb3_4_4 (Z : State) (t : Addr) (k : ClassId) (b0 b1 b2 b3 : Int32) (h0 : Heap) (xv : Value) (h : Heap) : Prop := ∃ (r : Addr) (k2 : ClassId), (.ref r) = xv ∧ h0.size ≤ r ∧ Arv Z h r k2 (.byte) (1 : Int32) [(.int b3)] (.int 0)
theorem c_corb3_4_4 (G : GH Z a0) (t : Addr) (k : ClassId) (b0 b1 b2 b3 : Int32) (h0 : Heap) (O0 : Old Z Z.heap.size h0) (p1 : Arv Z h0 t k (.byte) (4 : Int32) [(.int b0), (.int b1), (.int b2), (.int b3)] (.int 0)) : Con false [] l Z (⟨"java/util/Arrays", "copyOfRangeByte", "([BII)[B"⟩ : MethodName) jdk_65_method_133_code 5 (some (.array .byte)) [] (rm4 1 1 1 18) #[(.ref t), (.int 3), (.int 4)] h0 [] (rvl (Q_corb3_4_4 Z t k b0 b1 b2 b3 h0)) := by
  refine conN G (plainFor_of_name pn3) O0 (fun m => ef13 m t (3 : Int32) (4 : Int32)) ?_
  intro _ _ _ m_ _ _ _ D hml hret hlk hnm
  refine go_iload_n 1 (D d18_0) rfl rfl ?_
  refine go_iload_n 2 (D d18_1) rfl rfl ?_
  refine callS0 (cells' := 0) (slots' := 0) (Wd := 0) (argsL := [(.int 3), (.int 4)]) (rest := []) (pay_of (a0 := a0) (c_chkl l G (3 : Int32) (4 : Int32) h0 O0 (by decide)) (wk G 120) (wk G 113)) (wk G 118) (wk G 119) (wk G 113) (wk G 120) pd16 (sz hml) all0 sf00 (D d18_2) (k_n 5 rfl ?_)
  rintro  h1 rfl K2
  refine go_iload_n 6 (D d18_5) rfl rfl ?_
  refine go_iload_n 7 (D d18_6) rfl rfl ?_
  refine go_isub 8 (z := (1 : Int32)) (D d18_7) rfl (by decide) ?_
  refine go_istore_n 9 (ls' := #[vr t, vi 3, vi 4, vi 1, un]) (D d18_8) rfl rfl ?_
  refine go_iload_n 10 (D d18_9) rfl rfl ?_
  refine go_newP 12 (cells' := 1) (slots' := 1) (cap := 1) (vs := [(.int 0)]) (ty := .byte) (dv := .int 0) (wk G 14) rfl rfl (D d18_10) rfl (by decide) rfl (by decide) rfl rfl rfl (by decide) (by decide) (fun h3 a4 k8 g5 X6 A7 => ?_)
  refine go_astore 14 (ls' := #[vr t, vi 3, vi 4, vi 1, vr a4]) (D d18_12) rfl rfl rfl ?_
  refine go_aload_n 15 (D d18_14) rfl rfl rfl ?_
  refine go_iload_n 16 (D d18_15) rfl rfl ?_
  refine go_aload 18 (D d18_16) rfl rfl rfl ?_
  refine go_iconst 19 (v := 0) (D d18_18) rfl rfl ?_
  refine go_aload_n 20 (D d18_19) rfl rfl rfl ?_
  have K9 : Keep h0 h3 [] := ((Keep.refl h0 []).ext X6)
  have A10 := (p1.keep K9 nin0)
  refine go_arraylength 21 A10 (D d18_20) rfl ?_
  refine go_iload_n 22 (D d18_21) rfl rfl ?_
  refine go_isub 23 (z := (1 : Int32)) (D d18_22) rfl (by decide) ?_
  refine go_iload_n 24 (D d18_23) rfl rfl ?_
  refine go_old (fun O11 => ?_)
  refine callS0 (cells' := 1) (slots' := 1) (Wd := 4) (argsL := [(.int 1), (.int 1)]) (rest := [(.int 0), (.ref a4), (.int 3), (.ref t)]) (pay_of (a0 := a0) (c_min1_1 l G  h3 O11 ) (wk G 124) (wk G 123)) (wk G 121) (wk G 122) (wk G 123) (wk G 124) pd17 (sz hml) all0 sf00 (D d18_24) (k_v 27 rfl ?_)
  rintro _ h12 ⟨rfl, rfl⟩ K13
  refine go_acopy 30 (Wd := 0) (vd' := [(.int b3)]) (wk G 125) (wk G 128) (wk G 126) (wk G 127) rfl A10 A7 rfl (by decide) (by decide) (by decide) (nb rfl) (nb rfl) (nb rfl) (Nat.le_trans O0.2.1 (Nat.le_of_eq g5)) rfl (sz hml) (by decide) (by decide) (by decide) (D d18_27) rfl (fun h14 K15 A16 => ?_)
  refine go_aload 32 (D d18_30) rfl rfl rfl ?_
  have K17 : Keep h0 h14 [] := (K9.trans K15 (allS (Or.inr (Nat.le_of_eq g5)) all0))
  refine go_areturn hret hlk rfl rfl (D d18_32) (by decide) (by decide) ⟨_, rfl, ⟨a4, k8, rfl, (Nat.le_of_eq g5), A16⟩⟩ K17
theorem c_cor3_4_4 (G : GH Z a0) (t : Addr) (k : ClassId) (b0 b1 b2 b3 : Int32) (h0 : Heap) (O0 : Old Z Z.heap.size h0) (p1 : Arv Z h0 t k (.byte) (4 : Int32) [(.int b0), (.int b1), (.int b2), (.int b3)] (.int 0)) : Con false [] l Z (⟨"java/util/Arrays", "copyOfRange", "([BII)[B"⟩ : MethodName) jdk_65_method_132_code 3 (some (.array .byte)) [] (rm4 2 1 1 34) #[(.ref t), (.int 3), (.int 4)] h0 [] (rvl (Q_cor3_4_4 Z t k b0 b1 b2 b3 h0)) := by
  refine conN G (plainFor_of_name pn3) O0 (fun m => ef14 m t (3 : Int32) (4 : Int32)) ?_
  intro _ _ _ m_ _ _ _ D hml hret hlk hnm
  refine go_iload_n 1 (D d17_0) rfl rfl ?_
  refine go_ifT 10 (D d17_1) (by decide) rfl (by decide) ?_
  refine go_aload_n 11 (D d17_10) rfl rfl rfl ?_
  refine go_iload_n 12 (D d17_11) rfl rfl ?_
  refine go_iload_n 13 (D d17_12) rfl rfl ?_
  refine callS0 (cells' := 1) (slots' := 1) (Wd := 0) (argsL := [(.ref t), (.int 3), (.int 4)]) (rest := []) (pay_of (a0 := a0) (c_corb3_4_4 l G t k b0 b1 b2 b3 h0 O0 p1) (wk G 117) (wk G 113)) (wk G 115) (wk G 116) (wk G 113) (wk G 117) pd18 (sz hml) all0 sf00 (D d17_13) (k_v 16 rfl ?_)
  rintro _ h1 ⟨r3, r4, rfl, f5, f6⟩ K2
  have K7 : Keep h0 h1 [] := ((Keep.refl h0 []).trans K2 all0)
  refine go_areturn hret hlk rfl rfl (D d17_16) (by decide) (by decide) ⟨_, rfl, ⟨r3, r4, rfl, f5, f6⟩⟩ K7
theorem c_news3_1_4 (G : GH Z a0) (t : Addr) (k : ClassId) (c0 c1 c2 c3 : Int32) (h0 : Heap) (O0 : Old Z Z.heap.size h0) (p1 : Arv Z h0 t k (.byte) (4 : Int32) [(.int (c0).toInt8.toInt32), (.int (c1).toInt8.toInt32), (.int (c2).toInt8.toInt32), (.int (c3).toInt8.toInt32)] (.int 0)) (p2 : C8 c0) (p3 : C8 c1) (p4 : C8 c2) (p5 : C8 c3) : Con false [] l Z (⟨"java/lang/StringLatin1", "newString", "([BII)Ljava/lang/String;"⟩ : MethodName) jdk_43_method_47_code 3 (some (.object "java/lang/String")) [] (rm4 3 2 5 50) #[(.ref t), (.int 3), (.int 1)] h0 [] (rvl (Q_news3_1_4 Z t k c0 c1 c2 c3 h0)) := by
  refine conN G (plainFor_of_name pn5) O0 (fun m => ef14 m t (3 : Int32) (1 : Int32)) ?_
  intro _ _ _ m_ _ _ _ D hml hret hlk hnm
  refine go_iload_n 1 (D d16_0) rfl rfl ?_
  refine go_ifT 7 (D d16_1) (by decide) rfl (by decide) ?_
  refine go_newO 10 (cells' := 1) (slots' := 4) (wk G 110) (wk G 13) (wk G 12) (D d16_7) rfl rfl rfl (by decide) (by decide) (fun h1 a2 g3 X4 E5 D6 U7 => ?_)
  refine go_dup 11 (D d16_10) rfl rfl ?_
  refine go_aload_n 12 (D d16_11) rfl rfl rfl ?_
  refine go_iload_n 13 (D d16_12) rfl rfl ?_
  refine go_iload_n 14 (D d16_13) rfl rfl ?_
  refine go_iload_n 15 (D d16_14) rfl rfl ?_
  refine go_iadd 16 (z := (4 : Int32)) (D d16_15) rfl (by decide) ?_
  have K8 : Keep h0 h1 [] := ((Keep.refl h0 []).ext X4)
  have A9 := (p1.keep K8 nin0)
  refine go_old (fun O10 => ?_)
  refine callS0 (cells' := 2) (slots' := 5) (Wd := 2) (argsL := [(.ref t), (.int 3), (.int 4)]) (rest := [(.ref a2), (.ref a2)]) (pay_of (a0 := a0) (c_cor3_4_4 l G t k ((c0).toInt8.toInt32) ((c1).toInt8.toInt32) ((c2).toInt8.toInt32) ((c3).toInt8.toInt32) h1 O10 A9) (wk G 114) (wk G 113)) (wk G 111) (wk G 112) (wk G 113) (wk G 114) pd18 (sz hml) all0 sf00 (D d16_16) (k_v 19 rfl ?_)
  rintro _ h11 ⟨r13, r14, rfl, f15, f16⟩ K12
  refine go_iconst 20 (v := 0) (D d16_19) rfl rfl ?_
  have K17 : Keep h1 h11 [] := ((Keep.refl h1 []).trans K12 all0)
  have E18 := (E5.keep K17)
  have F19 := D6 (Or.inr (wk G 15)) (ty := (.array .byte)) (by decide)
  have F20 := (F19.keep K17 nin0)
  have F21 := D6 (Or.inr (wk G 16)) (ty := .byte) (by decide)
  have F22 := (F21.keep K17 nin0)
  refine go_old (fun O23 => ?_)
  refine callI0 (cells' := 2) (slots' := 5) (Wd := 1) (argsL := [(.ref r13), (.int 0)]) (rest := [(.ref a2)]) (pay_of (a0 := a0) (c_strbb l G a2 r13 h11 O23 E18 (Nat.le_trans O0.2.1 (Nat.le_of_eq g3)) F20 F22) (wk G 131) (wk G 12)) rfl (wk G 129) (wk G 130) (wk G 131) pd19 (sz hml) (allS (Nat.le_trans O0.2.1 (Nat.le_of_eq g3)) all0) (fun _ hal => (sfS safe_nil sf0)) (D d16_20) (k_n 23 rfl ?_)
  rintro  h24 ⟨f26, f27⟩ K25
  have K28 : Keep h0 h11 [] := (K8.trans K12 all0)
  have K29 : Keep h0 h24 [] := (K28.trans K25 (allS (Or.inr (Nat.le_of_eq g3)) all0))
  have E30 := (E18.keep K25)
  have A31 := (f16.keep K25 (ninS (Nat.ne_of_gt (Nat.lt_of_lt_of_le E5.lt f15)) nin0))
  have S32 : Str Z h24 a2 [c3] := ⟨r13, r14, E30, f26, f27, A31, (c8c p5 c8n), Nat.le_of_ble_eq_true rfl⟩
  refine go_areturn hret hlk rfl rfl (D d16_23) (by decide) (by decide) ⟨_, rfl, ⟨a2, rfl, S32⟩⟩ K29
theorem c_sub3_4_4 (G : GH Z a0) (a : Addr) (c0 c1 c2 c3 : Int32) (h0 : Heap) (O0 : Old Z Z.heap.size h0) (p1 : Str Z h0 a [c0, c1, c2, c3]) : Con false [] l Z (⟨"java/lang/String", "substring", "(II)Ljava/lang/String;"⟩ : MethodName) jdk_42_method_92_code 5 (some (.object "java/lang/String")) [] (rm4 4 2 5 64) #[(.ref a), (.int 3), (.int 4)] h0 [] (rvl (Q_sub3_4_4 Z a c0 c1 c2 c3 h0)) := by
  refine conN G (plainFor_of_name pn1) O0 (fun m => ef13 m a (3 : Int32) (4 : Int32)) ?_
  intro _ _ _ m_ _ _ _ D hml hret hlk hnm
  have q1 : C8 c0 := by obtain ⟨_, _, _, _, _, _, q, _⟩ := id p1; exact q _ (by simp)
  have q2 : C8 c1 := by obtain ⟨_, _, _, _, _, _, q, _⟩ := id p1; exact q _ (by simp)
  have q3 : C8 c2 := by obtain ⟨_, _, _, _, _, _, q, _⟩ := id p1; exact q _ (by simp)
  have q4 : C8 c3 := by obtain ⟨_, _, _, _, _, _, q, _⟩ := id p1; exact q _ (by simp)
  refine go_aload_n 1 (D d15_0) rfl rfl rfl ?_
  refine callV0 (cells' := 0) (slots' := 0) (Wd := 0) (argsL := []) (rest := []) (pay_len G O0 (n := (4 : Int32)) p1 rfl (by decide) (by decide)) p1.exa (wk G 95) (wk G 24) (wk G 26) (wk G 26) (wk G 25) pd5 (sz hml) all0 sf00 (D d15_1) (k_v 4 rfl ?_)
  rintro _ _ ⟨rfl, rfl⟩ -
  refine go_istore_n 5 (ls' := #[vr a, vi 3, vi 4, vi 4, un]) (D d15_4) rfl rfl ?_
  refine go_iload_n 6 (D d15_5) rfl rfl ?_
  refine go_iload_n 7 (D d15_6) rfl rfl ?_
  refine go_iload_n 8 (D d15_7) rfl rfl ?_
  refine callS0 (cells' := 0) (slots' := 0) (Wd := 0) (argsL := [(.int 3), (.int 4), (.int 4)]) (rest := []) (pay_of (a0 := a0) (c_cbbe l G (3 : Int32) (4 : Int32) (4 : Int32) h0 O0 (by decide) (by decide) (by decide)) (wk G 103) (wk G 12)) (wk G 101) (wk G 102) (wk G 12) (wk G 103) pd10 (sz hml) all0 sf00 (D d15_8) (k_n 11 rfl ?_)
  rintro  h5 rfl K6
  refine go_iload_n 12 (D d15_11) rfl rfl ?_
  refine go_ifT 22 (D d15_12) (by decide) rfl (by decide) ?_
  refine go_iload_n 23 (D d15_22) rfl rfl ?_
  refine go_iload_n 24 (D d15_23) rfl rfl ?_
  refine go_isub 25 (z := (1 : Int32)) (D d15_24) rfl (by decide) ?_
  refine go_istore 27 (ls' := #[vr a, vi 3, vi 4, vi 4, vi 1]) (D d15_25) rfl rfl ?_
  refine go_aload_n 28 (D d15_27) rfl rfl rfl ?_
  obtain ⟨t7, k8, E9, F10, F11, A12, B13, L14⟩ := id p1
  refine callV0 (cells' := 0) (slots' := 0) (Wd := 0) (argsL := []) (rest := []) (pay_of (a0 := a0) (c_islatin l G a h0 O0 F11) (wk G 45) (wk G 12)) E9 (wk G 41) (wk G 42) (wk G 44) (wk G 44) (wk G 43) pd11 (sz hml) all0 sf00 (D d15_28) (k_v 31 rfl ?_)
  rintro _ h15 ⟨rfl, rfl⟩ K16
  refine go_ifF 34 (D d15_31) rfl (by decide) ?_
  refine go_aload_n 35 (D d15_34) rfl rfl rfl ?_
  refine go_getF 38 (wk G 28) Via.refl F10 (D d15_35) rfl ?_
  refine go_iload_n 39 (D d15_38) rfl rfl ?_
  refine go_iload 41 (D d15_39) rfl rfl ?_
  refine callS0 (cells' := 2) (slots' := 5) (Wd := 0) (argsL := [(.ref t7), (.int 3), (.int 1)]) (rest := []) (pay_of (a0 := a0) (c_news3_1_4 l G t7 k8 c0 c1 c2 c3 h0 O0 A12 q1 q2 q3 q4) (wk G 109) (wk G 48)) (wk G 107) (wk G 108) (wk G 48) (wk G 109) pd12 (sz hml) all0 sf00 (D d15_41) (k_v 44 rfl ?_)
  rintro _ h17 ⟨r19, rfl, f20⟩ K18
  refine go_goto 57 (D d15_44) (by decide) rfl ?_
  have K21 : Keep h0 h17 [] := ((Keep.refl h0 []).trans K18 all0)
  refine go_areturn hret hlk rfl rfl (D d15_57) (by decide) (by decide) ⟨_, rfl, ⟨r19, rfl, f20⟩⟩ K21
theorem c_subi3_4 (G : GH Z a0) (a : Addr) (c0 c1 c2 c3 : Int32) (h0 : Heap) (O0 : Old Z Z.heap.size h0) (p1 : Str Z h0 a [c0, c1, c2, c3]) : Con false [] l Z (⟨"java/lang/String", "substring", "(I)Ljava/lang/String;"⟩ : MethodName) jdk_42_method_91_code 2 (some (.object "java/lang/String")) [] (rm4 5 2 5 80) #[(.ref a), (.int 3)] h0 [] (rvl (Q_subi3_4 Z a c0 c1 c2 c3 h0)) := by
  refine conN G (plainFor_of_name pn1) O0 (fun m => ef12 m a (3 : Int32)) ?_
  intro _ _ _ m_ _ _ _ D hml hret hlk hnm
  have q1 : C8 c0 := by obtain ⟨_, _, _, _, _, _, q, _⟩ := id p1; exact q _ (by simp)
  have q2 : C8 c1 := by obtain ⟨_, _, _, _, _, _, q, _⟩ := id p1; exact q _ (by simp)
  have q3 : C8 c2 := by obtain ⟨_, _, _, _, _, _, q, _⟩ := id p1; exact q _ (by simp)
  have q4 : C8 c3 := by obtain ⟨_, _, _, _, _, _, q, _⟩ := id p1; exact q _ (by simp)
  refine go_aload_n 1 (D d14_0) rfl rfl rfl ?_
  refine go_iload_n 2 (D d14_1) rfl rfl ?_
  refine go_aload_n 3 (D d14_2) rfl rfl rfl ?_
  refine callV0 (cells' := 0) (slots' := 0) (Wd := 2) (argsL := []) (rest := [(.int 3), (.ref a)]) (pay_len G O0 (n := (4 : Int32)) p1 rfl (by decide) (by decide)) p1.exa (wk G 95) (wk G 24) (wk G 26) (wk G 26) (wk G 25) pd5 (sz hml) all0 sf00 (D d14_3) (k_v 6 rfl ?_)
  rintro _ _ ⟨rfl, rfl⟩ -
  refine callV0 (cells' := 2) (slots' := 5) (Wd := 0) (argsL := [(.int 3), (.int 4)]) (rest := []) (pay_of (a0 := a0) (c_sub3_4_4 l G a c0 c1 c2 c3 h0 O0 p1) (wk G 100) (wk G 12)) p1.exa (wk G 96) (wk G 97) (wk G 99) (wk G 99) (wk G 98) pd13 (sz hml) all0 sf00 (D d14_6) (k_v 9 rfl ?_)
  rintro _ h5 ⟨r7, rfl, f8⟩ K6
  have K9 : Keep h0 h5 [] := ((Keep.refl h0 []).trans K6 all0)
  refine go_areturn hret hlk rfl rfl (D d14_9) (by decide) (by decide) ⟨_, rfl, ⟨r7, rfl, f8⟩⟩ K9
theorem c_noun3_4 (G : GH Z a0) (a b : Addr) (p : Addr) (g0 g1 g2 c0 c1 c2 c3 : Int32) (h0 : Heap) (O0 : Old Z Z.heap.size h0) (p1 : Fld Z h0 a "com/example/hew/hew/MethodKind" "prefix" "Ljava/lang/String;" (.ref p)) (p2 : Str Z h0 p [g0, g1, g2]) (p3 : Str Z h0 b [c0, c1, c2, c3]) : Con false [] l Z (⟨"com/example/hew/hew/MethodKind", "noun", "(Ljava/lang/String;)Ljava/lang/String;"⟩ : MethodName) prog_32_method_8_code 2 (some (.object "java/lang/String")) [] (rm4 6 2 5 93) #[(.ref a), (.ref b)] h0 [] (rvl (Q_noun3_4 Z a b p g0 g1 g2 c0 c1 c2 c3 h0)) := by
  refine conN G (plainFor_of_name pn6) O0 (fun m => ef3 m a b) ?_
  intro _ _ _ m_ _ _ _ D hml hret hlk hnm
  refine go_aload_n 1 (D d13_0) rfl rfl rfl ?_
  refine go_aload_n 2 (D d13_1) rfl rfl rfl ?_
  refine go_getF 5 (wk G 87) Via.refl p1 (D d13_2) rfl ?_
  refine callV0 (cells' := 0) (slots' := 0) (Wd := 1) (argsL := []) (rest := [(.ref b)]) (pay_len G O0 (n := (3 : Int32)) p2 rfl (by decide) (by decide)) p2.exa (wk G 89) (wk G 24) (wk G 26) (wk G 26) (wk G 25) pd5 (sz hml) all0 sf00 (D d13_5) (k_v 8 rfl ?_)
  rintro _ _ ⟨rfl, rfl⟩ -
  refine callV0 (cells' := 2) (slots' := 5) (Wd := 0) (argsL := [(.int 3)]) (rest := []) (pay_of (a0 := a0) (c_subi3_4 l G b c0 c1 c2 c3 h0 O0 p3) (wk G 94) (wk G 12)) p3.exa (wk G 90) (wk G 91) (wk G 93) (wk G 93) (wk G 92) pd4 (sz hml) all0 sf00 (D d13_8) (k_v 11 rfl ?_)
  rintro _ h1 ⟨r3, rfl, f4⟩ K2
  have K5 : Keep h0 h1 [] := ((Keep.refl h0 []).trans K2 all0)
  refine go_areturn hret hlk rfl rfl (D d13_11) (by decide) (by decide) ⟨_, rfl, ⟨r3, rfl, f4⟩⟩ K5
def Q_noun3_5 (Z : State) (a b p : Addr) (g0 g1 g2 c0 c1 c2 c3 c4 : Int32) (h0 : Heap) (xv : Value) (h : Heap) : Prop := ∃ (r : Addr), (.ref r) = xv ∧ Str Z h r [c3, c4]
def Q_subi3_5 (Z : State) (a : Addr) (c0 c1 c2 c3 c4 : Int32) (h0 : Heap) (xv : Value) (h : Heap) : Prop := ∃ (r : Addr), (.ref r) = xv ∧ Str Z h r [c3, c4]
def Q_sub3_5_5 (Z : State) (a : Addr) (c0 c1 c2 c3 c4 : Int32) (h0 : Heap) (xv : Value) (h : Heap) : Prop := ∃ (r : Addr), (.ref r) = xv ∧ Str Z h r [c3, c4]
def Q_news3_2_5 (Z : State) (t : Addr) (k : ClassId) (c0 c1 c2 c3 c4 : Int32) (h0 : Heap) (xv : Value) (h : Heap) : Prop := ∃ (r : Addr), (.ref r) = xv ∧ Str Z h r [c3, c4]
def Q_cor3_5_5 (Z : State) (t : Addr) (k : ClassId) (b0 b1 b2 b3 b4 : Int32) (h0 : Heap) (xv : Value) (h : Heap) : Prop := ∃ (r : Addr) (k2 : ClassId), (.ref r) = xv ∧ h0.size ≤ r ∧ Arv Z h r k2 (.byte) (2 : Int32) [(.int b3), (.int b4)] (.int 0)
def Q_corb3_5_5 (Z : State) (t : Addr) (k : ClassId) (b0 b1 b2 b3 b4 : Int32) (h0 : Heap) (xv : Value) (h : Heap) : Prop := ∃ (r : Addr) (k2 : ClassId), (.ref r) = xv ∧ h0.size ≤ r ∧ Arv Z h r k2 (.byte) (2 : Int32) [(.int b3), (.int b4)] (.int 0)
theorem c_corb3_5_5 (G : GH Z a0) (t : Addr) (k : ClassId) (b0 b1 b2 b3 b4 : Int32) (h0 : Heap) (O0 : Old Z Z.heap.size h0) (p1 : Arv Z h0 t k (.byte) (5 : Int32) [(.int b0), (.int b1), (.int b2), (.int b3), (.int b4)] (.int 0)) : Con false [] l Z (⟨"java/util/Arrays", "copyOfRangeByte", "([BII)[B"⟩ : MethodName) jdk_65_method_133_code 5 (some (.array .byte)) [] (rm4 1 1 2 18) #[(.ref t), (.int 3), (.int 5)] h0 [] (rvl (Q_corb3_5_5 Z t k b0 b1 b2 b3 b4 h0)) := by
  refine conN G (plainFor_of_name pn3) O0 (fun m => ef13 m t (3 : Int32) (5 : Int32)) ?_
  intro _ _ _ m_ _ _ _ D hml hret hlk hnm
  refine go_iload_n 1 (D d18_0) rfl rfl ?_
  refine go_iload_n 2 (D d18_1) rfl rfl ?_
  refine callS0 (cells' := 0) (slots' := 0) (Wd := 0) (argsL := [(.int 3), (.int 5)]) (rest := []) (pay_of (a0 := a0) (c_chkl l G (3 : Int32) (5 : Int32) h0 O0 (by decide)) (wk G 120) (wk G 113)) (wk G 118) (wk G 119) (wk G 113) (wk G 120) pd16 (sz hml) all0 sf00 (D d18_2) (k_n 5 rfl ?_)
  rintro  h1 rfl K2
  refine go_iload_n 6 (D d18_5) rfl rfl ?_
  refine go_iload_n 7 (D d18_6) rfl rfl ?_
  refine go_isub 8 (z := (2 : Int32)) (D d18_7) rfl (by decide) ?_
  refine go_istore_n 9 (ls' := #[vr t, vi 3, vi 5, vi 2, un]) (D d18_8) rfl rfl ?_
  refine go_iload_n 10 (D d18_9) rfl rfl ?_
  refine go_newP 12 (cells' := 1) (slots' := 2) (cap := 2) (vs := [(.int 0), (.int 0)]) (ty := .byte) (dv := .int 0) (wk G 14) rfl rfl (D d18_10) rfl (by decide) rfl (by decide) rfl rfl rfl (by decide) (by decide) (fun h3 a4 k8 g5 X6 A7 => ?_)
  refine go_astore 14 (ls' := #[vr t, vi 3, vi 5, vi 2, vr a4]) (D d18_12) rfl rfl rfl ?_
  refine go_aload_n 15 (D d18_14) rfl rfl rfl ?_
  refine go_iload_n 16 (D d18_15) rfl rfl ?_
  refine go_aload 18 (D d18_16) rfl rfl rfl ?_
  refine go_iconst 19 (v := 0) (D d18_18) rfl rfl ?_
  refine go_aload_n 20 (D d18_19) rfl rfl rfl ?_
  have K9 : Keep h0 h3 [] := ((Keep.refl h0 []).ext X6)
  have A10 := (p1.keep K9 nin0)
  refine go_arraylength 21 A10 (D d18_20) rfl ?_
  refine go_iload_n 22 (D d18_21) rfl rfl ?_
  refine go_isub 23 (z := (2 : Int32)) (D d18_22) rfl (by decide) ?_
  refine go_iload_n 24 (D d18_23) rfl rfl ?_
  refine go_old (fun O11 => ?_)
  refine callS0 (cells' := 1) (slots' := 2) (Wd := 4) (argsL := [(.int 2), (.int 2)]) (rest := [(.int 0), (.ref a4), (.int 3), (.ref t)]) (pay_of (a0 := a0) (c_min2_2 l G  h3 O11 ) (wk G 124) (wk G 123)) (wk G 121) (wk G 122) (wk G 123) (wk G 124) pd17 (sz hml) all0 sf00 (D d18_24) (k_v 27 rfl ?_)
  rintro _ h12 ⟨rfl, rfl⟩ K13
  refine go_acopy 30 (Wd := 0) (vd' := [(.int b3), (.int b4)]) (wk G 125) (wk G 128) (wk G 126) (wk G 127) rfl A10 A7 rfl (by decide) (by decide) (by decide) (nb rfl) (nb rfl) (nb rfl) (Nat.le_trans O0.2.1 (Nat.le_of_eq g5)) rfl (sz hml) (by decide) (by decide) (by decide) (D d18_27) rfl (fun h14 K15 A16 => ?_)
  refine go_aload 32 (D d18_30) rfl rfl rfl ?_
  have K17 : Keep h0 h14 [] := (K9.trans K15 (allS (Or.inr (Nat.le_of_eq g5)) all0))
  refine go_areturn hret hlk rfl rfl (D d18_32) (by decide) (by decide) ⟨_, rfl, ⟨a4, k8, rfl, (Nat.le_of_eq g5), A16⟩⟩ K17
theorem c_cor3_5_5 (G : GH Z a0) (t : Addr) (k : ClassId) (b0 b1 b2 b3 b4 : Int32) (h0 : Heap) (O0 : Old Z Z.heap.size h0) (p1 : Arv Z h0 t k (.byte) (5 : Int32) [(.int b0), (.int b1), (.int b2), (.int b3), (.int b4)] (.int 0)) : Con false [] l Z (⟨"java/util/Arrays", "copyOfRange", "([BII)[B"⟩ : MethodName) jdk_65_method_132_code 3 (some (.array .byte)) [] (rm4 2 1 2 34) #[(.ref t), (.int 3), (.int 5)] h0 [] (rvl (Q_cor3_5_5 Z t k b0 b1 b2 b3 b4 h0)) := by
  refine conN G (plainFor_of_name pn3) O0 (fun m => ef14 m t (3 : Int32) (5 : Int32)) ?_
  intro _ _ _ m_ _ _ _ D hml hret hlk hnm
  refine go_iload_n 1 (D d17_0) rfl rfl ?_
  refine go_ifT 10 (D d17_1) (by decide) rfl (by decide) ?_
  refine go_aload_n 11 (D d17_10) rfl rfl rfl ?_
  refine go_iload_n 12 (D d17_11) rfl rfl ?_
  refine go_iload_n 13 (D d17_12) rfl rfl ?_
  refine callS0 (cells' := 1) (slots' := 2) (Wd := 0) (argsL := [(.ref t), (.int 3), (.int 5)]) (rest := []) (pay_of (a0 := a0) (c_corb3_5_5 l G t k b0 b1 b2 b3 b4 h0 O0 p1) (wk G 117) (wk G 113)) (wk G 115) (wk G 116) (wk G 113) (wk G 117) pd18 (sz hml) all0 sf00 (D d17_13) (k_v 16 rfl ?_)
  rintro _ h1 ⟨r3, r4, rfl, f5, f6⟩ K2
  have K7 : Keep h0 h1 [] := ((Keep.refl h0 []).trans K2 all0)
  refine go_areturn hret hlk rfl rfl (D d17_16) (by decide) (by decide) ⟨_, rfl, ⟨r3, r4, rfl, f5, f6⟩⟩ K7
theorem c_news3_2_5 (G : GH Z a0) (t : Addr) (k : ClassId) (c0 c1 c2 c3 c4 : Int32) (h0 : Heap) (O0 : Old Z Z.heap.size h0) (p1 : Arv Z h0 t k (.byte) (5 : Int32) [(.int (c0).toInt8.toInt32), (.int (c1).toInt8.toInt32), (.int (c2).toInt8.toInt32), (.int (c3).toInt8.toInt32), (.int (c4).toInt8.toInt32)] (.int 0)) (p2 : C8 c0) (p3 : C8 c1) (p4 : C8 c2) (p5 : C8 c3) (p6 : C8 c4) : Con false [] l Z (⟨"java/lang/StringLatin1", "newString", "([BII)Ljava/lang/String;"⟩ : MethodName) jdk_43_method_47_code 3 (some (.object "java/lang/String")) [] (rm4 3 2 6 50) #[(.ref t), (.int 3), (.int 2)] h0 [] (rvl (Q_news3_2_5 Z t k c0 c1 c2 c3 c4 h0)) := by
  refine conN G (plainFor_of_name pn5) O0 (fun m => ef14 m t (3 : Int32) (2 : Int32)) ?_
  intro _ _ _ m_ _ _ _ D hml hret hlk hnm
  refine go_iload_n 1 (D d16_0) rfl rfl ?_
  refine go_ifT 7 (D d16_1) (by decide) rfl (by decide) ?_
  refine go_newO 10 (cells' := 1) (slots' := 4) (wk G 110) (wk G 13) (wk G 12) (D d16_7) rfl rfl rfl (by decide) (by decide) (fun h1 a2 g3 X4 E5 D6 U7 => ?_)
  refine go_dup 11 (D d16_10) rfl rfl ?_
  refine go_aload_n 12 (D d16_11) rfl rfl rfl ?_
  refine go_iload_n 13 (D d16_12) rfl rfl ?_
  refine go_iload_n 14 (D d16_13) rfl rfl ?_
  refine go_iload_n 15 (D d16_14) rfl rfl ?_
  refine go_iadd 16 (z := (5 : Int32)) (D d16_15) rfl (by decide) ?_
  have K8 : Keep h0 h1 [] := ((Keep.refl h0 []).ext X4)
  have A9 := (p1.keep K8 nin0)
  refine go_old (fun O10 => ?_)
  refine callS0 (cells' := 2) (slots' := 6) (Wd := 2) (argsL := [(.ref t), (.int 3), (.int 5)]) (rest := [(.ref a2), (.ref a2)]) (pay_of (a0 := a0) (c_cor3_5_5 l G t k ((c0).toInt8.toInt32) ((c1).toInt8.toInt32) ((c2).toInt8.toInt32) ((c3).toInt8.toInt32) ((c4).toInt8.toInt32) h1 O10 A9) (wk G 114) (wk G 113)) (wk G 111) (wk G 112) (wk G 113) (wk G 114) pd18 (sz hml) all0 sf00 (D d16_16) (k_v 19 rfl ?_)
  rintro _ h11 ⟨r13, r14, rfl, f15, f16⟩ K12
  refine go_iconst 20 (v := 0) (D d16_19) rfl rfl ?_
  have K17 : Keep h1 h11 [] := ((Keep.refl h1 []).trans K12 all0)
  have E18 := (E5.keep K17)
  have F19 := D6 (Or.inr (wk G 15)) (ty := (.array .byte)) (by decide)
  have F20 := (F19.keep K17 nin0)
  have F21 := D6 (Or.inr (wk G 16)) (ty := .byte) (by decide)
  have F22 := (F21.keep K17 nin0)
  refine go_old (fun O23 => ?_)
  refine callI0 (cells' := 2) (slots' := 6) (Wd := 1) (argsL := [(.ref r13), (.int 0)]) (rest := [(.ref a2)]) (pay_of (a0 := a0) (c_strbb l G a2 r13 h11 O23 E18 (Nat.le_trans O0.2.1 (Nat.le_of_eq g3)) F20 F22) (wk G 131) (wk G 12)) rfl (wk G 129) (wk G 130) (wk G 131) pd19 (sz hml) (allS (Nat.le_trans O0.2.1 (Nat.le_of_eq g3)) all0) (fun _ hal => (sfS safe_nil sf0)) (D d16_20) (k_n 23 rfl ?_)
  rintro  h24 ⟨f26, f27⟩ K25
  have K28 : Keep h0 h11 [] := (K8.trans K12 all0)
  have K29 : Keep h0 h24 [] := (K28.trans K25 (allS (Or.inr (Nat.le_of_eq g3)) all0))
  have E30 := (E18.keep K25)
  have A31 := (f16.keep K25 (ninS (Nat.ne_of_gt (Nat.lt_of_lt_of_le E5.lt f15)) nin0))
  have S32 : Str Z h24 a2 [c3, c4] := ⟨r13, r14, E30, f26, f27, A31, (c8c p5 (c8c p6 c8n)), Nat.le_of_ble_eq_true rfl⟩
  refine go_areturn hret hlk rfl rfl (D d16_23) (by decide) (by decide) ⟨_, rfl, ⟨a2, rfl, S32⟩⟩ K29
theorem c_sub3_5_5 (G : GH Z a0) (a : Addr) (c0 c1 c2 c3 c4 : Int32) (h0 : Heap) (O0 : Old Z Z.heap.size h0) (p1 : Str Z h0 a [c0, c1, c2, c3, c4]) : Con false [] l Z (⟨"java/lang/String", "substring", "(II)Ljava/lang/String;"⟩ : MethodName) jdk_42_method_92_code 5 (some (.object "java/lang/String")) [] (rm4 4 2 6 64) #[(.ref a), (.int 3), (.int 5)] h0 [] (rvl (Q_sub3_5_5 Z a c0 c1 c2 c3 c4 h0)) := by
  refine conN G (plainFor_of_name pn1) O0 (fun m => ef13 m a (3 : Int32) (5 : Int32)) ?_
  intro _ _ _ m_ _ _ _ D hml hret hlk hnm
  have q1 : C8 c0 := by obtain ⟨_, _, _, _, _, _, q, _⟩ := id p1; exact q _ (by simp)
  have q2 : C8 c1 := by obtain ⟨_, _, _, _, _, _, q, _⟩ := id p1; exact q _ (by simp)
  have q3 : C8 c2 := by obtain ⟨_, _, _, _, _, _, q, _⟩ := id p1; exact q _ (by simp)
  have q4 : C8 c3 := by obtain ⟨_, _, _, _, _, _, q, _⟩ := id p1; exact q _ (by simp)
  have q5 : C8 c4 := by obtain ⟨_, _, _, _, _, _, q, _⟩ := id p1; exact q _ (by simp)
  refine go_aload_n 1 (D d15_0) rfl rfl rfl ?_
  refine callV0 (cells' := 0) (slots' := 0) (Wd := 0) (argsL := []) (rest := []) (pay_len G O0 (n := (5 : Int32)) p1 rfl (by decide) (by decide)) p1.exa (wk G 95) (wk G 24) (wk G 26) (wk G 26) (wk G 25) pd5 (sz hml) all0 sf00 (D d15_1) (k_v 4 rfl ?_)
  rintro _ _ ⟨rfl, rfl⟩ -
  refine go_istore_n 5 (ls' := #[vr a, vi 3, vi 5, vi 5, un]) (D d15_4) rfl rfl ?_
  refine go_iload_n 6 (D d15_5) rfl rfl ?_
  refine go_iload_n 7 (D d15_6) rfl rfl ?_
  refine go_iload_n 8 (D d15_7) rfl rfl ?_
  refine callS0 (cells' := 0) (slots' := 0) (Wd := 0) (argsL := [(.int 3), (.int 5), (.int 5)]) (rest := []) (pay_of (a0 := a0) (c_cbbe l G (3 : Int32) (5 : Int32) (5 : Int32) h0 O0 (by decide) (by decide) (by decide)) (wk G 103) (wk G 12)) (wk G 101) (wk G 102) (wk G 12) (wk G 103) pd10 (sz hml) all0 sf00 (D d15_8) (k_n 11 rfl ?_)
  rintro  h6 rfl K7
  refine go_iload_n 12 (D d15_11) rfl rfl ?_
  refine go_ifT 22 (D d15_12) (by decide) rfl (by decide) ?_
  refine go_iload_n 23 (D d15_22) rfl rfl ?_
  refine go_iload_n 24 (D d15_23) rfl rfl ?_
  refine go_isub 25 (z := (2 : Int32)) (D d15_24) rfl (by decide) ?_
  refine go_istore 27 (ls' := #[vr a, vi 3, vi 5, vi 5, vi 2]) (D d15_25) rfl rfl ?_
  refine go_aload_n 28 (D d15_27) rfl rfl rfl ?_
  obtain ⟨t8, k9, E10, F11, F12, A13, B14, L15⟩ := id p1
  refine callV0 (cells' := 0) (slots' := 0) (Wd := 0) (argsL := []) (rest := []) (pay_of (a0 := a0) (c_islatin l G a h0 O0 F12) (wk G 45) (wk G 12)) E10 (wk G 41) (wk G 42) (wk G 44) (wk G 44) (wk G 43) pd11 (sz hml) all0 sf00 (D d15_28) (k_v 31 rfl ?_)
  rintro _ h16 ⟨rfl, rfl⟩ K17
  refine go_ifF 34 (D d15_31) rfl (by decide) ?_
  refine go_aload_n 35 (D d15_34) rfl rfl rfl ?_
  refine go_getF 38 (wk G 28) Via.refl F11 (D d15_35) rfl ?_
  refine go_iload_n 39 (D d15_38) rfl rfl ?_
  refine go_iload 41 (D d15_39) rfl rfl ?_
  refine callS0 (cells' := 2) (slots' := 6) (Wd := 0) (argsL := [(.ref t8), (.int 3), (.int 2)]) (rest := []) (pay_of (a0 := a0) (c_news3_2_5 l G t8 k9 c0 c1 c2 c3 c4 h0 O0 A13 q1 q2 q3 q4 q5) (wk G 109) (wk G 48)) (wk G 107) (wk G 108) (wk G 48) (wk G 109) pd12 (sz hml) all0 sf00 (D d15_41) (k_v 44 rfl ?_)
  rintro _ h18 ⟨r20, rfl, f21⟩ K19
  refine go_goto 57 (D d15_44) (by decide) rfl ?_
  have K22 : Keep h0 h18 [] := ((Keep.refl h0 []).trans K19 all0)
  refine go_areturn hret hlk rfl rfl (D d15_57) (by decide) (by decide) ⟨_, rfl, ⟨r20, rfl, f21⟩⟩ K22
theorem c_subi3_5 (G : GH Z a0) (a : Addr) (c0 c1 c2 c3 c4 : Int32) (h0 : Heap) (O0 : Old Z Z.heap.size h0) (p1 : Str Z h0 a [c0, c1, c2, c3, c4]) : Con false [] l Z (⟨"java/lang/String", "substring", "(I)Ljava/lang/String;"⟩ : MethodName) jdk_42_method_91_code 2 (some (.object "java/lang/String")) [] (rm4 5 2 6 80) #[(.ref a), (.int 3)] h0 [] (rvl (Q_subi3_5 Z a c0 c1 c2 c3 c4 h0)) := by
  refine conN G (plainFor_of_name pn1) O0 (fun m => ef12 m a (3 : Int32)) ?_
  intro _ _ _ m_ _ _ _ D hml hret hlk hnm
  have q1 : C8 c0 := by obtain ⟨_, _, _, _, _, _, q, _⟩ := id p1; exact q _ (by simp)
  have q2 : C8 c1 := by obtain ⟨_, _, _, _, _, _, q, _⟩ := id p1; exact q _ (by simp)
  have q3 : C8 c2 := by obtain ⟨_, _, _, _, _, _, q, _⟩ := id p1; exact q _ (by simp)
  have q4 : C8 c3 := by obtain ⟨_, _, _, _, _, _, q, _⟩ := id p1; exact q _ (by simp)
  have q5 : C8 c4 := by obtain ⟨_, _, _, _, _, _, q, _⟩ := id p1; exact q _ (by simp)
  refine go_aload_n 1 (D d14_0) rfl rfl rfl ?_
  refine go_iload_n 2 (D d14_1) rfl rfl ?_
  refine go_aload_n 3 (D d14_2) rfl rfl rfl ?_
  refine callV0 (cells' := 0) (slots' := 0) (Wd := 2) (argsL := []) (rest := [(.int 3), (.ref a)]) (pay_len G O0 (n := (5 : Int32)) p1 rfl (by decide) (by decide)) p1.exa (wk G 95) (wk G 24) (wk G 26) (wk G 26) (wk G 25) pd5 (sz hml) all0 sf00 (D d14_3) (k_v 6 rfl ?_)
  rintro _ _ ⟨rfl, rfl⟩ -
  refine callV0 (cells' := 2) (slots' := 6) (Wd := 0) (argsL := [(.int 3), (.int 5)]) (rest := []) (pay_of (a0 := a0) (c_sub3_5_5 l G a c0 c1 c2 c3 c4 h0 O0 p1) (wk G 100) (wk G 12)) p1.exa (wk G 96) (wk G 97) (wk G 99) (wk G 99) (wk G 98) pd13 (sz hml) all0 sf00 (D d14_6) (k_v 9 rfl ?_)
  rintro _ h6 ⟨r8, rfl, f9⟩ K7
  have K10 : Keep h0 h6 [] := ((Keep.refl h0 []).trans K7 all0)
  refine go_areturn hret hlk rfl rfl (D d14_9) (by decide) (by decide) ⟨_, rfl, ⟨r8, rfl, f9⟩⟩ K10
theorem c_noun3_5 (G : GH Z a0) (a b : Addr) (p : Addr) (g0 g1 g2 c0 c1 c2 c3 c4 : Int32) (h0 : Heap) (O0 : Old Z Z.heap.size h0) (p1 : Fld Z h0 a "com/example/hew/hew/MethodKind" "prefix" "Ljava/lang/String;" (.ref p)) (p2 : Str Z h0 p [g0, g1, g2]) (p3 : Str Z h0 b [c0, c1, c2, c3, c4]) : Con false [] l Z (⟨"com/example/hew/hew/MethodKind", "noun", "(Ljava/lang/String;)Ljava/lang/String;"⟩ : MethodName) prog_32_method_8_code 2 (some (.object "java/lang/String")) [] (rm4 6 2 6 93) #[(.ref a), (.ref b)] h0 [] (rvl (Q_noun3_5 Z a b p g0 g1 g2 c0 c1 c2 c3 c4 h0)) := by
  refine conN G (plainFor_of_name pn6) O0 (fun m => ef3 m a b) ?_
  intro _ _ _ m_ _ _ _ D hml hret hlk hnm
  refine go_aload_n 1 (D d13_0) rfl rfl rfl ?_
  refine go_aload_n 2 (D d13_1) rfl rfl rfl ?_
  refine go_getF 5 (wk G 87) Via.refl p1 (D d13_2) rfl ?_
  refine callV0 (cells' := 0) (slots' := 0) (Wd := 1) (argsL := []) (rest := [(.ref b)]) (pay_len G O0 (n := (3 : Int32)) p2 rfl (by decide) (by decide)) p2.exa (wk G 89) (wk G 24) (wk G 26) (wk G 26) (wk G 25) pd5 (sz hml) all0 sf00 (D d13_5) (k_v 8 rfl ?_)
  rintro _ _ ⟨rfl, rfl⟩ -
  refine callV0 (cells' := 2) (slots' := 6) (Wd := 0) (argsL := [(.int 3)]) (rest := []) (pay_of (a0 := a0) (c_subi3_5 l G b c0 c1 c2 c3 c4 h0 O0 p3) (wk G 94) (wk G 12)) p3.exa (wk G 90) (wk G 91) (wk G 93) (wk G 93) (wk G 92) pd4 (sz hml) all0 sf00 (D d13_8) (k_v 11 rfl ?_)
  rintro _ h1 ⟨r3, rfl, f4⟩ K2
  have K5 : Keep h0 h1 [] := ((Keep.refl h0 []).trans K2 all0)
  refine go_areturn hret hlk rfl rfl (D d13_11) (by decide) (by decide) ⟨_, rfl, ⟨r3, rfl, f4⟩⟩ K5
def Q_noun3_6 (Z : State) (a b p : Addr) (g0 g1 g2 c0 c1 c2 c3 c4 c5 : Int32) (h0 : Heap) (xv : Value) (h : Heap) : Prop := ∃ (r : Addr), (.ref r) = xv ∧ Str Z h r [c3, c4, c5]
def Q_subi3_6 (Z : State) (a : Addr) (c0 c1 c2 c3 c4 c5 : Int32) (h0 : Heap) (xv : Value) (h : Heap) : Prop := ∃ (r : Addr), (.ref r) = xv ∧ Str Z h r [c3, c4, c5]
def Q_sub3_6_6 (Z : State) (a : Addr) (c0 c1 c2 c3 c4 c5 : Int32) (h0 : Heap) (xv : Value) (h : Heap) : Prop := ∃ (r : Addr), (.ref r) = xv ∧ Str Z h r [c3, c4, c5]
def Q_news3_3_6 (Z : State) (t : Addr) (k : ClassId) (c0 c1 c2 c3 c4 c5 : Int32) (h0 : Heap) (xv : Value) (h : Heap) : Prop := ∃ (r : Addr), (.ref r) = xv ∧ Str Z h r [c3, c4, c5]
def Q_cor3_6_6 (Z : State) (t : Addr) (k : ClassId) (b0 b1 b2 b3 b4 b5 : Int32) (h0 : Heap) (xv : Value) (h : Heap) : Prop := ∃ (r : Addr) (k2 : ClassId), (.ref r) = xv ∧ h0.size ≤ r ∧ Arv Z h r k2 (.byte) (3 : Int32) [(.int b3), (.int b4), (.int b5)] (.int 0)
def Q_corb3_6_6 (Z : State) (t : Addr) (k : ClassId) (b0 b1 b2 b3 b4 b5 : Int32) (h0 : Heap) (xv : Value) (h : Heap) : Prop := ∃ (r : Addr) (k2 : ClassId), (.ref r) = xv ∧ h0.size ≤ r ∧ Arv Z h r k2 (.byte) (3 : Int32) [(.int b3), (.int b4), (.int b5)] (.int 0)
theorem c_corb3_6_6 (G : GH Z a0) (t : Addr) (k : ClassId) (b0 b1 b2 b3 b4 b5 : Int32) (h0 : Heap) (O0 : Old Z Z.heap.size h0) (p1 : Arv Z h0 t k (.byte) (6 : Int32) [(.int b0), (.int b1), (.int b2), (.int b3), (.int b4), (.int b5)] (.int 0)) : Con false [] l Z (⟨"java/util/Arrays", "copyOfRangeByte", "([BII)[B"⟩ : MethodName) jdk_65_method_133_code 5 (some (.array .byte)) [] (rm4 1 1 3 18) #[(.ref t), (.int 3), (.int 6)] h0 [] (rvl (Q_corb3_6_6 Z t k b0 b1 b2 b3 b4 b5 h0)) := by
  refine conN G (plainFor_of_name pn3) O0 (fun m => ef13 m t (3 : Int32) (6 : Int32)) ?_
  intro _ _ _ m_ _ _ _ D hml hret hlk hnm
  refine go_iload_n 1 (D d18_0) rfl rfl ?_
  refine go_iload_n 2 (D d18_1) rfl rfl ?_
  refine callS0 (cells' := 0) (slots' := 0) (Wd := 0) (argsL := [(.int 3), (.int 6)]) (rest := []) (pay_of (a0 := a0) (c_chkl l G (3 : Int32) (6 : Int32) h0 O0 (by decide)) (wk G 120) (wk G 113)) (wk G 118) (wk G 119) (wk G 113) (wk G 120) pd16 (sz hml) all0 sf00 (D d18_2) (k_n 5 rfl ?_)
  rintro  h1 rfl K2
  refine go_iload_n 6 (D d18_5) rfl rfl ?_
  refine go_iload_n 7 (D d18_6) rfl rfl ?_
  refine go_isub 8 (z := (3 : Int32)) (D d18_7) rfl (by decide) ?_
  refine go_istore_n 9 (ls' := #[vr t, vi 3, vi 6, vi 3, un]) (D d18_8) rfl rfl ?_
  refine go_iload_n 10 (D d18_9) rfl rfl ?_
  refine go_newP 12 (cells' := 1) (slots' := 3) (cap := 3) (vs := [(.int 0), (.int 0), (.int 0)]) (ty := .byte) (dv := .int 0) (wk G 14) rfl rfl (D d18_10) rfl (by decide) rfl (by decide) rfl rfl rfl (by decide) (by decide) (fun h3 a4 k8 g5 X6 A7 => ?_)
  refine go_astore 14 (ls' := #[vr t, vi 3, vi 6, vi 3, vr a4]) (D d18_12) rfl rfl rfl ?_
  refine go_aload_n 15 (D d18_14) rfl rfl rfl ?_
  refine go_iload_n 16 (D d18_15) rfl rfl ?_
  refine go_aload 18 (D d18_16) rfl rfl rfl ?_
  refine go_iconst 19 (v := 0) (D d18_18) rfl rfl ?_
  refine go_aload_n 20 (D d18_19) rfl rfl rfl ?_
  have K9 : Keep h0 h3 [] := ((Keep.refl h0 []).ext X6)
  have A10 := (p1.keep K9 nin0)
  refine go_arraylength 21 A10 (D d18_20) rfl ?_
  refine go_iload_n 22 (D d18_21) rfl rfl ?_
  refine go_isub 23 (z := (3 : Int32)) (D d18_22) rfl (by decide) ?_
  refine go_iload_n 24 (D d18_23) rfl rfl ?_
  refine go_old (fun O11 => ?_)
  refine callS0 (cells' := 1) (slots' := 3) (Wd := 4) (argsL := [(.int 3), (.int 3)]) (rest := [(.int 0), (.ref a4), (.int 3), (.ref t)]) (pay_of (a0 := a0) (c_min3_3 l G  h3 O11 ) (wk G 124) (wk G 123)) (wk G 121) (wk G 122) (wk G 123) (wk G 124) pd17 (sz hml) all0 sf00 (D d18_24) (k_v 27 rfl ?_)
  rintro _ h12 ⟨rfl, rfl⟩ K13
  refine go_acopy 30 (Wd := 0) (vd' := [(.int b3), (.int b4), (.int b5)]) (wk G 125) (wk G 128) (wk G 126) (wk G 127) rfl A10 A7 rfl (by decide) (by decide) (by decide) (nb rfl) (nb rfl) (nb rfl) (Nat.le_trans O0.2.1 (Nat.le_of_eq g5)) rfl (sz hml) (by decide) (by decide) (by decide) (D d18_27) rfl (fun h14 K15 A16 => ?_)
  refine go_aload 32 (D d18_30) rfl rfl rfl ?_
  have K17 : Keep h0 h14 [] := (K9.trans K15 (allS (Or.inr (Nat.le_of_eq g5)) all0))
  refine go_areturn hret hlk rfl rfl (D d18_32) (by decide) (by decide) ⟨_, rfl, ⟨a4, k8, rfl, (Nat.le_of_eq g5), A16⟩⟩ K17
theorem c_cor3_6_6 (G : GH Z a0) (t : Addr) (k : ClassId) (b0 b1 b2 b3 b4 b5 : Int32) (h0 : Heap) (O0 : Old Z Z.heap.size h0) (p1 : Arv Z h0 t k (.byte) (6 : Int32) [(.int b0), (.int b1), (.int b2), (.int b3), (.int b4), (.int b5)] (.int 0)) : Con false [] l Z (⟨"java/util/Arrays", "copyOfRange", "([BII)[B"⟩ : MethodName) jdk_65_method_132_code 3 (some (.array .byte)) [] (rm4 2 1 3 34) #[(.ref t), (.int 3), (.int 6)] h0 [] (rvl (Q_cor3_6_6 Z t k b0 b1 b2 b3 b4 b5 h0)) := by
  refine conN G (plainFor_of_name pn3) O0 (fun m => ef14 m t (3 : Int32) (6 : Int32)) ?_
  intro _ _ _ m_ _ _ _ D hml hret hlk hnm
  refine go_iload_n 1 (D d17_0) rfl rfl ?_
  refine go_ifT 10 (D d17_1) (by decide) rfl (by decide) ?_
  refine go_aload_n 11 (D d17_10) rfl rfl rfl ?_
  refine go_iload_n 12 (D d17_11) rfl rfl ?_
  refine go_iload_n 13 (D d17_12) rfl rfl ?_
  refine callS0 (cells' := 1) (slots' := 3) (Wd := 0) (argsL := [(.ref t), (.int 3), (.int 6)]) (rest := []) (pay_of (a0 := a0) (c_corb3_6_6 l G t k b0 b1 b2 b3 b4 b5 h0 O0 p1) (wk G 117) (wk G 113)) (wk G 115) (wk G 116) (wk G 113) (wk G 117) pd18 (sz hml) all0 sf00 (D d17_13) (k_v 16 rfl ?_)
  rintro _ h1 ⟨r3, r4, rfl, f5, f6⟩ K2
  have K7 : Keep h0 h1 [] := ((Keep.refl h0 []).trans K2 all0)
  refine go_areturn hret hlk rfl rfl (D d17_16) (by decide) (by decide) ⟨_, rfl, ⟨r3, r4, rfl, f5, f6⟩⟩ K7
theorem c_news3_3_6 (G : GH Z a0) (t : Addr) (k : ClassId) (c0 c1 c2 c3 c4 c5 : Int32) (h0 : Heap) (O0 : Old Z Z.heap.size h0) (p1 : Arv Z h0 t k (.byte) (6 : Int32) [(.int (c0).toInt8.toInt32), (.int (c1).toInt8.toInt32), (.int (c2).toInt8.toInt32), (.int (c3).toInt8.toInt32), (.int (c4).toInt8.toInt32), (.int (c5).toInt8.toInt32)] (.int 0)) (p2 : C8 c0) (p3 : C8 c1) (p4 : C8 c2) (p5 : C8 c3) (p6 : C8 c4) (p7 : C8 c5) : Con false [] l Z (⟨"java/lang/StringLatin1", "newString", "([BII)Ljava/lang/String;"⟩ : MethodName) jdk_43_method_47_code 3 (some (.object "java/lang/String")) [] (rm4 3 2 7 50) #[(.ref t), (.int 3), (.int 3)] h0 [] (rvl (Q_news3_3_6 Z t k c0 c1 c2 c3 c4 c5 h0)) := by
  refine conN G (plainFor_of_name pn5) O0 (fun m => ef14 m t (3 : Int32) (3 : Int32)) ?_
  intro _ _ _ m_ _ _ _ D hml hret hlk hnm
  refine go_iload_n 1 (D d16_0) rfl rfl ?_
  refine go_ifT 7 (D d16_1) (by decide) rfl (by decide) ?_
  refine go_newO 10 (cells' := 1) (slots' := 4) (wk G 110) (wk G 13) (wk G 12) (D d16_7) rfl rfl rfl (by decide) (by decide) (fun h1 a2 g3 X4 E5 D6 U7 => ?_)
  refine go_dup 11 (D d16_10) rfl rfl ?_
  refine go_aload_n 12 (D d16_11) rfl rfl rfl ?_
  refine go_iload_n 13 (D d16_12) rfl rfl ?_
  refine go_iload_n 14 (D d16_13) rfl rfl ?_
  refine go_iload_n 15 (D d16_14) rfl rfl ?_
  refine go_iadd 16 (z := (6 : Int32)) (D d16_15) rfl (by decide) ?_
  have K8 : Keep h0 h1 [] := ((Keep.refl h0 []).ext X4)
  have A9 := (p1.keep K8 nin0)
  refine go_old (fun O10 => ?_)
  refine callS0 (cells' := 2) (slots' := 7) (Wd := 2) (argsL := [(.ref t), (.int 3), (.int 6)]) (rest := [(.ref a2), (.ref a2)]) (pay_of (a0 := a0) (c_cor3_6_6 l G t k ((c0).toInt8.toInt32) ((c1).toInt8.toInt32) ((c2).toInt8.toInt32) ((c3).toInt8.toInt32) ((c4).toInt8.toInt32) ((c5).toInt8.toInt32) h1 O10 A9) (wk G 114) (wk G 113)) (wk G 111) (wk G 112) (wk G 113) (wk G 114) pd18 (sz hml) all0 sf00 (D d16_16) (k_v 19 rfl ?_)
  rintro _ h11 ⟨r13, r14, rfl, f15, f16⟩ K12
  refine go_iconst 20 (v := 0) (D d16_19) rfl rfl ?_
  have K17 : Keep h1 h11 [] := ((Keep.refl h1 []).trans K12 all0)
  have E18 := (E5.keep K17)
  have F19 := D6 (Or.inr (wk G 15)) (ty := (.array .byte)) (by decide)
  have F20 := (F19.keep K17 nin0)
  have F21 := D6 (Or.inr (wk G 16)) (ty := .byte) (by decide)
  have F22 := (F21.keep K17 nin0)
  refine go_old (fun O23 => ?_)
  refine callI0 (cells' := 2) (slots' := 7) (Wd := 1) (argsL := [(.ref r13), (.int 0)]) (rest := [(.ref a2)]) (pay_of (a0 := a0) (c_strbb l G a2 r13 h11 O23 E18 (Nat.le_trans O0.2.1 (Nat.le_of_eq g3)) F20 F22) (wk G 131) (wk G 12)) rfl (wk G 129) (wk G 130) (wk G 131) pd19 (sz hml) (allS (Nat.le_trans O0.2.1 (Nat.le_of_eq g3)) all0) (fun _ hal => (sfS safe_nil sf0)) (D d16_20) (k_n 23 rfl ?_)
  rintro  h24 ⟨f26, f27⟩ K25
  have K28 : Keep h0 h11 [] := (K8.trans K12 all0)
  have K29 : Keep h0 h24 [] := (K28.trans K25 (allS (Or.inr (Nat.le_of_eq g3)) all0))
  have E30 := (E18.keep K25)
  have A31 := (f16.keep K25 (ninS (Nat.ne_of_gt (Nat.lt_of_lt_of_le E5.lt f15)) nin0))
  have S32 : Str Z h24 a2 [c3, c4, c5] := ⟨r13, r14, E30, f26, f27, A31, (c8c p5 (c8c p6 (c8c p7 c8n))), Nat.le_of_ble_eq_true rfl⟩
  refine go_areturn hret hlk rfl rfl (D d16_23) (by decide) (by decide) ⟨_, rfl, ⟨a2, rfl, S32⟩⟩ K29
theorem c_sub3_6_6 (G : GH Z a0) (a : Addr) (c0 c1 c2 c3 c4 c5 : Int32) (h0 : Heap) (O0 : Old Z Z.heap.size h0) (p1 : Str Z h0 a [c0, c1, c2, c3, c4, c5]) : Con false [] l Z (⟨"java/lang/String", "substring", "(II)Ljava/lang/String;"⟩ : MethodName) jdk_42_method_92_code 5 (some (.object "java/lang/String")) [] (rm4 4 2 7 64) #[(.ref a), (.int 3), (.int 6)] h0 [] (rvl (Q_sub3_6_6 Z a c0 c1 c2 c3 c4 c5 h0)) := by
  refine conN G (plainFor_of_name pn1) O0 (fun m => ef13 m a (3 : Int32) (6 : Int32)) ?_
  intro _ _ _ m_ _ _ _ D hml hret hlk hnm
  have q1 : C8 c0 := by obtain ⟨_, _, _, _, _, _, q, _⟩ := id p1; exact q _ (by simp)
  have q2 : C8 c1 := by obtain ⟨_, _, _, _, _, _, q, _⟩ := id p1; exact q _ (by simp)
  have q3 : C8 c2 := by obtain ⟨_, _, _, _, _, _, q, _⟩ := id p1; exact q _ (by simp)
  have q4 : C8 c3 := by obtain ⟨_, _, _, _, _, _, q, _⟩ := id p1; exact q _ (by simp)
  have q5 : C8 c4 := by obtain ⟨_, _, _, _, _, _, q, _⟩ := id p1; exact q _ (by simp)
  have q6 : C8 c5 := by obtain ⟨_, _, _, _, _, _, q, _⟩ := id p1; exact q _ (by simp)
  refine go_aload_n 1 (D d15_0) rfl rfl rfl ?_
  refine callV0 (cells' := 0) (slots' := 0) (Wd := 0) (argsL := []) (rest := []) (pay_len G O0 (n := (6 : Int32)) p1 rfl (by decide) (by decide)) p1.exa (wk G 95) (wk G 24) (wk G 26) (wk G 26) (wk G 25) pd5 (sz hml) all0 sf00 (D d15_1) (k_v 4 rfl ?_)
  rintro _ _ ⟨rfl, rfl⟩ -
  refine go_istore_n 5 (ls' := #[vr a, vi 3, vi 6, vi 6, un]) (D d15_4) rfl rfl ?_
  refine go_iload_n 6 (D d15_5) rfl rfl ?_
  refine go_iload_n 7 (D d15_6) rfl rfl ?_
  refine go_iload_n 8 (D d15_7) rfl rfl ?_
  refine callS0 (cells' := 0) (slots' := 0) (Wd := 0) (argsL := [(.int 3), (.int 6), (.int 6)]) (rest := []) (pay_of (a0 := a0) (c_cbbe l G (3 : Int32) (6 : Int32) (6 : Int32) h0 O0 (by decide) (by decide) (by decide)) (wk G 103) (wk G 12)) (wk G 101) (wk G 102) (wk G 12) (wk G 103) pd10 (sz hml) all0 sf00 (D d15_8) (k_n 11 rfl ?_)
  rintro  h7 rfl K8
  refine go_iload_n 12 (D d15_11) rfl rfl ?_
  refine go_ifT 22 (D d15_12) (by decide) rfl (by decide) ?_
  refine go_iload_n 23 (D d15_22) rfl rfl ?_
  refine go_iload_n 24 (D d15_23) rfl rfl ?_
  refine go_isub 25 (z := (3 : Int32)) (D d15_24) rfl (by decide) ?_
  refine go_istore 27 (ls' := #[vr a, vi 3, vi 6, vi 6, vi 3]) (D d15_25) rfl rfl ?_
  refine go_aload_n 28 (D d15_27) rfl rfl rfl ?_
  obtain ⟨t9, k10, E11, F12, F13, A14, B15, L16⟩ := id p1
  refine callV0 (cells' := 0) (slots' := 0) (Wd := 0) (argsL := []) (rest := []) (pay_of (a0 := a0) (c_islatin l G a h0 O0 F13) (wk G 45) (wk G 12)) E11 (wk G 41) (wk G 42) (wk G 44) (wk G 44) (wk G 43) pd11 (sz hml) all0 sf00 (D d15_28) (k_v 31 rfl ?_)
  rintro _ h17 ⟨rfl, rfl⟩ K18
  refine go_ifF 34 (D d15_31) rfl (by decide) ?_
  refine go_aload_n 35 (D d15_34) rfl rfl rfl ?_
  refine go_getF 38 (wk G 28) Via.refl F12 (D d15_35) rfl ?_
  refine go_iload_n 39 (D d15_38) rfl rfl ?_
  refine go_iload 41 (D d15_39) rfl rfl ?_
  refine callS0 (cells' := 2) (slots' := 7) (Wd := 0) (argsL := [(.ref t9), (.int 3), (.int 3)]) (rest := []) (pay_of (a0 := a0) (c_news3_3_6 l G t9 k10 c0 c1 c2 c3 c4 c5 h0 O0 A14 q1 q2 q3 q4 q5 q6) (wk G 109) (wk G 48)) (wk G 107) (wk G 108) (wk G 48) (wk G 109) pd12 (sz hml) all0 sf00 (D d15_41) (k_v 44 rfl ?_)
  rintro _ h19 ⟨r21, rfl, f22⟩ K20
  refine go_goto 57 (D d15_44) (by decide) rfl ?_
  have K23 : Keep h0 h19 [] := ((Keep.refl h0 []).trans K20 all0)
  refine go_areturn hret hlk rfl rfl (D d15_57) (by decide) (by decide) ⟨_, rfl, ⟨r21, rfl, f22⟩⟩ K23
theorem c_subi3_6 (G : GH Z a0) (a : Addr) (c0 c1 c2 c3 c4 c5 : Int32) (h0 : Heap) (O0 : Old Z Z.heap.size h0) (p1 : Str Z h0 a [c0, c1, c2, c3, c4, c5]) : Con false [] l Z (⟨"java/lang/String", "substring", "(I)Ljava/lang/String;"⟩ : MethodName) jdk_42_method_91_code 2 (some (.object "java/lang/String")) [] (rm4 5 2 7 80) #[(.ref a), (.int 3)] h0 [] (rvl (Q_subi3_6 Z a c0 c1 c2 c3 c4 c5 h0)) := by
  refine conN G (plainFor_of_name pn1) O0 (fun m => ef12 m a (3 : Int32)) ?_
  intro _ _ _ m_ _ _ _ D hml hret hlk hnm
  have q1 : C8 c0 := by obtain ⟨_, _, _, _, _, _, q, _⟩ := id p1; exact q _ (by simp)
  have q2 : C8 c1 := by obtain ⟨_, _, _, _, _, _, q, _⟩ := id p1; exact q _ (by simp)
  have q3 : C8 c2 := by obtain ⟨_, _, _, _, _, _, q, _⟩ := id p1; exact q _ (by simp)
  have q4 : C8 c3 := by obtain ⟨_, _, _, _, _, _, q, _⟩ := id p1; exact q _ (by simp)
  have q5 : C8 c4 := by obtain ⟨_, _, _, _, _, _, q, _⟩ := id p1; exact q _ (by simp)
  have q6 : C8 c5 := by obtain ⟨_, _, _, _, _, _, q, _⟩ := id p1; exact q _ (by simp)
  refine go_aload_n 1 (D d14_0) rfl rfl rfl ?_
  refine go_iload_n 2 (D d14_1) rfl rfl ?_
  refine go_aload_n 3 (D d14_2) rfl rfl rfl ?_
  refine callV0 (cells' := 0) (slots' := 0) (Wd := 2) (argsL := []) (rest := [(.int 3), (.ref a)]) (pay_len G O0 (n := (6 : Int32)) p1 rfl (by decide) (by decide)) p1.exa (wk G 95) (wk G 24) (wk G 26) (wk G 26) (wk G 25) pd5 (sz hml) all0 sf00 (D d14_3) (k_v 6 rfl ?_)
  rintro _ _ ⟨rfl, rfl⟩ -
  refine callV0 (cells' := 2) (slots' := 7) (Wd := 0) (argsL := [(.int 3), (.int 6)]) (rest := []) (pay_of (a0 := a0) (c_sub3_6_6 l G a c0 c1 c2 c3 c4 c5 h0 O0 p1) (wk G 100) (wk G 12)) p1.exa (wk G 96) (wk G 97) (wk G 99) (wk G 99) (wk G 98) pd13 (sz hml) all0 sf00 (D d14_6) (k_v 9 rfl ?_)
  rintro _ h7 ⟨r9, rfl, f10⟩ K8
  have K11 : Keep h0 h7 [] := ((Keep.refl h0 []).trans K8 all0)
  refine go_areturn hret hlk rfl rfl (D d14_9) (by decide) (by decide) ⟨_, rfl, ⟨r9, rfl, f10⟩⟩ K11
theorem c_noun3_6 (G : GH Z a0) (a b : Addr) (p : Addr) (g0 g1 g2 c0 c1 c2 c3 c4 c5 : Int32) (h0 : Heap) (O0 : Old Z Z.heap.size h0) (p1 : Fld Z h0 a "com/example/hew/hew/MethodKind" "prefix" "Ljava/lang/String;" (.ref p)) (p2 : Str Z h0 p [g0, g1, g2]) (p3 : Str Z h0 b [c0, c1, c2, c3, c4, c5]) : Con false [] l Z (⟨"com/example/hew/hew/MethodKind", "noun", "(Ljava/lang/String;)Ljava/lang/String;"⟩ : MethodName) prog_32_method_8_code 2 (some (.object "java/lang/String")) [] (rm4 6 2 7 93) #[(.ref a), (.ref b)] h0 [] (rvl (Q_noun3_6 Z a b p g0 g1 g2 c0 c1 c2 c3 c4 c5 h0)) := by
  refine conN G (plainFor_of_name pn6) O0 (fun m => ef3 m a b) ?_
  intro _ _ _ m_ _ _ _ D hml hret hlk hnm
  refine go_aload_n 1 (D d13_0) rfl rfl rfl ?_
  refine go_aload_n 2 (D d13_1) rfl rfl rfl ?_
  refine go_getF 5 (wk G 87) Via.refl p1 (D d13_2) rfl ?_
  refine callV0 (cells' := 0) (slots' := 0) (Wd := 1) (argsL := []) (rest := [(.ref b)]) (pay_len G O0 (n := (3 : Int32)) p2 rfl (by decide) (by decide)) p2.exa (wk G 89) (wk G 24) (wk G 26) (wk G 26) (wk G 25) pd5 (sz hml) all0 sf00 (D d13_5) (k_v 8 rfl ?_)
  rintro _ _ ⟨rfl, rfl⟩ -
  refine callV0 (cells' := 2) (slots' := 7) (Wd := 0) (argsL := [(.int 3)]) (rest := []) (pay_of (a0 := a0) (c_subi3_6 l G b c0 c1 c2 c3 c4 c5 h0 O0 p3) (wk G 94) (wk G 12)) p3.exa (wk G 90) (wk G 91) (wk G 93) (wk G 93) (wk G 92) pd4 (sz hml) all0 sf00 (D d13_8) (k_v 11 rfl ?_)
  rintro _ h1 ⟨r3, rfl, f4⟩ K2
  have K5 : Keep h0 h1 [] := ((Keep.refl h0 []).trans K2 all0)
  refine go_areturn hret hlk rfl rfl (D d13_11) (by decide) (by decide) ⟨_, rfl, ⟨r3, rfl, f4⟩⟩ K5
def Q_kind2 (Z : State)  (h0 : Heap) (xv : Value) (h : Heap) : Prop := (.ref (s_CREATE Z)) = xv ∧ h0 = h
theorem c_kind2 (G : GH Z a0)   (h0 : Heap) (O0 : Old Z Z.heap.size h0)  : Con false [] l Z (⟨"com/example/hew/hew/MethodKindNounPinLaw", "kindOf", "(I)Lcom/example/hew/hew/MethodKind;"⟩ : MethodName) method_3_code 1 (some (.object "com/example/hew/hew/MethodKind")) [] (rm4 0 0 0 0) #[(.int 2)] h0 [] (rvl (Q_kind2 Z h0)) := by
  refine conN G (plainFor_of_name pn4) O0 (fun m => ef10 m (2 : Int32)) ?_
  intro _ _ _ m_ _ _ _ D hml hret hlk hnm
  refine go_iload_n 1 (D d9_0) rfl rfl ?_
  refine go_ifT 8 (D d9_1) (by decide) rfl (by decide) ?_
  refine go_iload_n 9 (D d9_8) rfl rfl ?_
  refine go_iconst 10 (v := 1) (D d9_9) rfl rfl ?_
  refine go_icT 17 (D d9_10) (by decide) rfl (by decide) ?_
  refine go_iload_n 18 (D d9_17) rfl rfl ?_
  refine go_iconst 19 (v := 2) (D d9_18) rfl rfl ?_
  refine go_icF 22 (D d9_19) rfl (by decide) ?_
  refine go_getS 25 (wk G 146) ((se_CREATE G).1.ext O0.2) (D d9_22) rfl ?_
  refine go_areturn hret hlk rfl rfl (D d9_25) (by decide) (by decide) ⟨_, rfl, ⟨rfl, rfl⟩⟩ (Keep.refl h0 [])
def Q_word2 (Z : State)  (h0 : Heap) (xv : Value) (h : Heap) : Prop := ∃ (r : Addr), (.ref r) = xv ∧ Str Z h r [(67 : Int32), (114 : Int32), (101 : Int32), (97 : Int32), (116 : Int32), (101 : Int32)]
theorem c_word2 (G : GH Z a0)   (h0 : Heap) (O0 : Old Z Z.heap.size h0)  : Con true EL1 l Z (⟨"com/example/hew/hew/MethodKindNounPinLaw", "wordOf", "(I)Ljava/lang/String;"⟩ : MethodName) method_4_code 1 (some (.object "java/lang/String")) [] (rm4 0 2 28 0) #[(.int 2)] h0 [] (rvl (Q_word2 Z h0)) := by
  refine conW G (plainFor_of_name pn4) O0 (fun m => ef10 m (2 : Int32)) ?_
  intro _ _ _ m_ _ _ _ D hml hret hlk hnm
  refine go_iload_n 1 (D d10_0) rfl rfl ?_
  refine go_ifT 7 (D d10_1) (by decide) rfl (by decide) ?_
  refine go_iload_n 8 (D d10_7) rfl rfl ?_
  refine go_iconst 9 (v := 1) (D d10_8) rfl rfl ?_
  refine go_icT 15 (D d10_9) (by decide) rfl (by decide) ?_
  refine go_iload_n 16 (D d10_15) rfl rfl ?_
  refine go_iconst 17 (v := 2) (D d10_16) rfl rfl ?_
  refine go_icF 20 (D d10_17) rfl (by decide) ?_
  refine go_ldcH 22 (cells' := 2) (slots' := 28) (n := 24) (vs := (([(67 : Int32), (114 : Int32), (101 : Int32), (97 : Int32), (116 : Int32), (101 : Int32)] : List Int32).map fun c => c.toInt8.toInt32).map Value.int) (z := (6 : Int32)) rfl (by decide) (wk G 148) (wS G) (by decide +kernel) (by decide) (by decide) (by decide) (by decide) (D d10_20) rfl rfl rfl (by decide) (by decide) (fun h1 a2 t4 k5 X3 E6 F7 F8 A9 => ?_)
  have S10 : Str Z h1 a2 [(67 : Int32), (114 : Int32), (101 : Int32), (97 : Int32), (116 : Int32), (101 : Int32)] := ⟨t4, k5, E6, F8, F7, A9, by decide, by decide⟩
  have K11 : Keep h0 h1 [] := ((Keep.refl h0 []).ext X3)
  refine go_areturn hret hlk rfl rfl (D d10_22) (by decide) (by decide) ⟨_, rfl, ⟨a2, rfl, S10⟩⟩ K11
def Q_at6_0 (Z : State) (a b : Addr) (k : ClassId) (c0 c1 c2 c3 c4 c5 e0 e1 e2 : Int32) (h0 : Heap) (xv : Value) (h : Heap) : Prop := (.int c0) = xv ∧ h0 = h
theorem c_at6_0 (G : GH Z a0) (a b : Addr) (k : ClassId) (c0 c1 c2 c3 c4 c5 e0 e1 e2 : Int32) (h0 : Heap) (O0 : Old Z Z.heap.size h0) (p1 : Str Z h0 a [c0, c1, c2, c3, c4, c5]) (p2 : Arv Z h0 b k (.char) (3 : Int32) [(.int e0), (.int e1), (.int e2)] (.int 0)) (p3 : C8 e0) (p4 : C8 e1) (p5 : C8 e2) : Con false [] l Z (⟨"com/example/hew/hew/MethodKindNounPinLaw", "at", "(Ljava/lang/String;[CI)C"⟩ : MethodName) method_5_code 4 (some .char) [] (rm4 4 0 0 53) #[(.ref a), (.ref b), (.int 0)] h0 [] (rvl (Q_at6_0 Z a b k c0 c1 c2 c3 c4 c5 e0 e1 e2 h0)) := by
  refine conN G (plainFor_of_name pn4) O0 (fun m => ef11 m a b (0 : Int32)) ?_
  intro _ _ _ m_ _ _ _ D hml hret hlk hnm
  refine go_iload_n 1 (D d11_0) rfl rfl ?_
  refine go_aload_n 2 (D d11_1) rfl rfl rfl ?_
  refine callV0 (cells' := 0) (slots' := 0) (Wd := 1) (argsL := []) (rest := [(.int 0)]) (pay_len G O0 (n := (6 : Int32)) p1 rfl (by decide) (by decide)) p1.exa (wk G 23) (wk G 24) (wk G 26) (wk G 26) (wk G 25) pd5 (sz hml) all0 sf00 (D d11_2) (k_v 5 rfl ?_)
  rintro _ _ ⟨rfl, rfl⟩ -
  refine go_icF 8 (D d11_5) rfl (by decide) ?_
  refine go_aload_n 9 (D d11_8) rfl rfl rfl ?_
  refine go_iload_n 10 (D d11_9) rfl rfl ?_
  have q1 : C8 c0 := by obtain ⟨_, _, _, _, _, _, q, _⟩ := id p1; exact q _ (by simp)
  refine callV0 (cells' := 0) (slots' := 0) (Wd := 0) (argsL := [(.int 0)]) (rest := []) (pay_chr G O0 (i := 0) (c := c0) p1 rfl (nb rfl) rfl (by decide) (by decide)) p1.exa (wk G 36) (wk G 37) (wk G 39) (wk G 39) (wk G 38) pd6 (sz hml) all0 sf00 (D d11_10) (k_v 13 rfl ?_)
  rintro _ _ ⟨rfl, rfl⟩ -
  refine go_ireturn hret hlk (nar_c8 q1) (by simp) (D d11_13) (by decide) (by decide) ⟨_, rfl, ⟨rfl, rfl⟩⟩ (Keep.refl h0 [])
def Q_at6_1 (Z : State) (a b : Addr) (k : ClassId) (c0 c1 c2 c3 c4 c5 e0 e1 e2 : Int32) (h0 : Heap) (xv : Value) (h : Heap) : Prop := (.int c1) = xv ∧ h0 = h
theorem c_at6_1 (G : GH Z a0) (a b : Addr) (k : ClassId) (c0 c1 c2 c3 c4 c5 e0 e1 e2 : Int32) (h0 : Heap) (O0 : Old Z Z.heap.size h0) (p1 : Str Z h0 a [c0, c1, c2, c3, c4, c5]) (p2 : Arv Z h0 b k (.char) (3 : Int32) [(.int e0), (.int e1), (.int e2)] (.int 0)) (p3 : C8 e0) (p4 : C8 e1) (p5 : C8 e2) : Con false [] l Z (⟨"com/example/hew/hew/MethodKindNounPinLaw", "at", "(Ljava/lang/String;[CI)C"⟩ : MethodName) method_5_code 4 (some .char) [] (rm4 4 0 0 53) #[(.ref a), (.ref b), (.int 1)] h0 [] (rvl (Q_at6_1 Z a b k c0 c1 c2 c3 c4 c5 e0 e1 e2 h0)) := by
  refine conN G (plainFor_of_name pn4) O0 (fun m => ef11 m a b (1 : Int32)) ?_
  intro _ _ _ m_ _ _ _ D hml hret hlk hnm
  refine go_iload_n 1 (D d11_0) rfl rfl ?_
  refine go_aload_n 2 (D d11_1) rfl rfl rfl ?_
  refine callV0 (cells' := 0) (slots' := 0) (Wd := 1) (argsL := []) (rest := [(.int 1)]) (pay_len G O0 (n := (6 : Int32)) p1 rfl (by decide) (by decide)) p1.exa (wk G 23) (wk G 24) (wk G 26) (wk G 26) (wk G 25) pd5 (sz hml) all0 sf00 (D d11_2) (k_v 5 rfl ?_)
  rintro _ _ ⟨rfl, rfl⟩ -
  refine go_icF 8 (D d11_5) rfl (by decide) ?_
  refine go_aload_n 9 (D d11_8) rfl rfl rfl ?_
  refine go_iload_n 10 (D d11_9) rfl rfl ?_
  have q1 : C8 c1 := by obtain ⟨_, _, _, _, _, _, q, _⟩ := id p1; exact q _ (by simp)
  refine callV0 (cells' := 0) (slots' := 0) (Wd := 0) (argsL := [(.int 1)]) (rest := []) (pay_chr G O0 (i := 1) (c := c1) p1 rfl (nb rfl) rfl (by decide) (by decide)) p1.exa (wk G 36) (wk G 37) (wk G 39) (wk G 39) (wk G 38) pd6 (sz hml) all0 sf00 (D d11_10) (k_v 13 rfl ?_)
  rintro _ _ ⟨rfl, rfl⟩ -
  refine go_ireturn hret hlk (nar_c8 q1) (by simp) (D d11_13) (by decide) (by decide) ⟨_, rfl, ⟨rfl, rfl⟩⟩ (Keep.refl h0 [])
def Q_at6_2 (Z : State) (a b : Addr) (k : ClassId) (c0 c1 c2 c3 c4 c5 e0 e1 e2 : Int32) (h0 : Heap) (xv : Value) (h : Heap) : Prop := (.int c2) = xv ∧ h0 = h
theorem c_at6_2 (G : GH Z a0) (a b : Addr) (k : ClassId) (c0 c1 c2 c3 c4 c5 e0 e1 e2 : Int32) (h0 : Heap) (O0 : Old Z Z.heap.size h0) (p1 : Str Z h0 a [c0, c1, c2, c3, c4, c5]) (p2 : Arv Z h0 b k (.char) (3 : Int32) [(.int e0), (.int e1), (.int e2)] (.int 0)) (p3 : C8 e0) (p4 : C8 e1) (p5 : C8 e2) : Con false [] l Z (⟨"com/example/hew/hew/MethodKindNounPinLaw", "at", "(Ljava/lang/String;[CI)C"⟩ : MethodName) method_5_code 4 (some .char) [] (rm4 4 0 0 53) #[(.ref a), (.ref b), (.int 2)] h0 [] (rvl (Q_at6_2 Z a b k c0 c1 c2 c3 c4 c5 e0 e1 e2 h0)) := by
  refine conN G (plainFor_of_name pn4) O0 (fun m => ef11 m a b (2 : Int32)) ?_
  intro _ _ _ m_ _ _ _ D hml hret hlk hnm
  refine go_iload_n 1 (D d11_0) rfl rfl ?_
  refine go_aload_n 2 (D d11_1) rfl rfl rfl ?_
  refine callV0 (cells' := 0) (slots' := 0) (Wd := 1) (argsL := []) (rest := [(.int 2)]) (pay_len G O0 (n := (6 : Int32)) p1 rfl (by decide) (by decide)) p1.exa (wk G 23) (wk G 24) (wk G 26) (wk G 26) (wk G 25) pd5 (sz hml) all0 sf00 (D d11_2) (k_v 5 rfl ?_)
  rintro _ _ ⟨rfl, rfl⟩ -
  refine go_icF 8 (D d11_5) rfl (by decide) ?_
  refine go_aload_n 9 (D d11_8) rfl rfl rfl ?_
  refine go_iload_n 10 (D d11_9) rfl rfl ?_
  have q1 : C8 c2 := by obtain ⟨_, _, _, _, _, _, q, _⟩ := id p1; exact q _ (by simp)
  refine callV0 (cells' := 0) (slots' := 0) (Wd := 0) (argsL := [(.int 2)]) (rest := []) (pay_chr G O0 (i := 2) (c := c2) p1 rfl (nb rfl) rfl (by decide) (by decide)) p1.exa (wk G 36) (wk G 37) (wk G 39) (wk G 39) (wk G 38) pd6 (sz hml) all0 sf00 (D d11_10) (k_v 13 rfl ?_)
  rintro _ _ ⟨rfl, rfl⟩ -
  refine go_ireturn hret hlk (nar_c8 q1) (by simp) (D d11_13) (by decide) (by decide) ⟨_, rfl, ⟨rfl, rfl⟩⟩ (Keep.refl h0 [])
def Q_at6_3 (Z : State) (a b : Addr) (k : ClassId) (c0 c1 c2 c3 c4 c5 e0 e1 e2 : Int32) (h0 : Heap) (xv : Value) (h : Heap) : Prop := (.int c3) = xv ∧ h0 = h
theorem c_at6_3 (G : GH Z a0) (a b : Addr) (k : ClassId) (c0 c1 c2 c3 c4 c5 e0 e1 e2 : Int32) (h0 : Heap) (O0 : Old Z Z.heap.size h0) (p1 : Str Z h0 a [c0, c1, c2, c3, c4, c5]) (p2 : Arv Z h0 b k (.char) (3 : Int32) [(.int e0), (.int e1), (.int e2)] (.int 0)) (p3 : C8 e0) (p4 : C8 e1) (p5 : C8 e2) : Con false [] l Z (⟨"com/example/hew/hew/MethodKindNounPinLaw", "at", "(Ljava/lang/String;[CI)C"⟩ : MethodName) method_5_code 4 (some .char) [] (rm4 4 0 0 53) #[(.ref a), (.ref b), (.int 3)] h0 [] (rvl (Q_at6_3 Z a b k c0 c1 c2 c3 c4 c5 e0 e1 e2 h0)) := by
  refine conN G (plainFor_of_name pn4) O0 (fun m => ef11 m a b (3 : Int32)) ?_
  intro _ _ _ m_ _ _ _ D hml hret hlk hnm
  refine go_iload_n 1 (D d11_0) rfl rfl ?_
  refine go_aload_n 2 (D d11_1) rfl rfl rfl ?_
  refine callV0 (cells' := 0) (slots' := 0) (Wd := 1) (argsL := []) (rest := [(.int 3)]) (pay_len G O0 (n := (6 : Int32)) p1 rfl (by decide) (by decide)) p1.exa (wk G 23) (wk G 24) (wk G 26) (wk G 26) (wk G 25) pd5 (sz hml) all0 sf00 (D d11_2) (k_v 5 rfl ?_)
  rintro _ _ ⟨rfl, rfl⟩ -
  refine go_icF 8 (D d11_5) rfl (by decide) ?_
  refine go_aload_n 9 (D d11_8) rfl rfl rfl ?_
  refine go_iload_n 10 (D d11_9) rfl rfl ?_
  have q1 : C8 c3 := by obtain ⟨_, _, _, _, _, _, q, _⟩ := id p1; exact q _ (by simp)
  refine callV0 (cells' := 0) (slots' := 0) (Wd := 0) (argsL := [(.int 3)]) (rest := []) (pay_chr G O0 (i := 3) (c := c3) p1 rfl (nb rfl) rfl (by decide) (by decide)) p1.exa (wk G 36) (wk G 37) (wk G 39) (wk G 39) (wk G 38) pd6 (sz hml) all0 sf00 (D d11_10) (k_v 13 rfl ?_)
  rintro _ _ ⟨rfl, rfl⟩ -
  refine go_ireturn hret hlk (nar_c8 q1) (by simp) (D d11_13) (by decide) (by decide) ⟨_, rfl, ⟨rfl, rfl⟩⟩ (Keep.refl h0 [])
def Q_at6_4 (Z : State) (a b : Addr) (k : ClassId) (c0 c1 c2 c3 c4 c5 e0 e1 e2 : Int32) (h0 : Heap) (xv : Value) (h : Heap) : Prop := (.int c4) = xv ∧ h0 = h
theorem c_at6_4 (G : GH Z a0) (a b : Addr) (k : ClassId) (c0 c1 c2 c3 c4 c5 e0 e1 e2 : Int32) (h0 : Heap) (O0 : Old Z Z.heap.size h0) (p1 : Str Z h0 a [c0, c1, c2, c3, c4, c5]) (p2 : Arv Z h0 b k (.char) (3 : Int32) [(.int e0), (.int e1), (.int e2)] (.int 0)) (p3 : C8 e0) (p4 : C8 e1) (p5 : C8 e2) : Con false [] l Z (⟨"com/example/hew/hew/MethodKindNounPinLaw", "at", "(Ljava/lang/String;[CI)C"⟩ : MethodName) method_5_code 4 (some .char) [] (rm4 4 0 0 53) #[(.ref a), (.ref b), (.int 4)] h0 [] (rvl (Q_at6_4 Z a b k c0 c1 c2 c3 c4 c5 e0 e1 e2 h0)) := by
  refine conN G (plainFor_of_name pn4) O0 (fun m => ef11 m a b (4 : Int32)) ?_
  intro _ _ _ m_ _ _ _ D hml hret hlk hnm
  refine go_iload_n 1 (D d11_0) rfl rfl ?_
  refine go_aload_n 2 (D d11_1) rfl rfl rfl ?_
  refine callV0 (cells' := 0) (slots' := 0) (Wd := 1) (argsL := []) (rest := [(.int 4)]) (pay_len G O0 (n := (6 : Int32)) p1 rfl (by decide) (by decide)) p1.exa (wk G 23) (wk G 24) (wk G 26) (wk G 26) (wk G 25) pd5 (sz hml) all0 sf00 (D d11_2) (k_v 5 rfl ?_)
  rintro _ _ ⟨rfl, rfl⟩ -
  refine go_icF 8 (D d11_5) rfl (by decide) ?_
  refine go_aload_n 9 (D d11_8) rfl rfl rfl ?_
  refine go_iload_n 10 (D d11_9) rfl rfl ?_
  have q1 : C8 c4 := by obtain ⟨_, _, _, _, _, _, q, _⟩ := id p1; exact q _ (by simp)
  refine callV0 (cells' := 0) (slots' := 0) (Wd := 0) (argsL := [(.int 4)]) (rest := []) (pay_chr G O0 (i := 4) (c := c4) p1 rfl (nb rfl) rfl (by decide) (by decide)) p1.exa (wk G 36) (wk G 37) (wk G 39) (wk G 39) (wk G 38) pd6 (sz hml) all0 sf00 (D d11_10) (k_v 13 rfl ?_)
  rintro _ _ ⟨rfl, rfl⟩ -
  refine go_ireturn hret hlk (nar_c8 q1) (by simp) (D d11_13) (by decide) (by decide) ⟨_, rfl, ⟨rfl, rfl⟩⟩ (Keep.refl h0 [])
def Q_at6_5 (Z : State) (a b : Addr) (k : ClassId) (c0 c1 c2 c3 c4 c5 e0 e1 e2 : Int32) (h0 : Heap) (xv : Value) (h : Heap) : Prop := (.int c5) = xv ∧ h0 = h
theorem c_at6_5 (G : GH Z a0) (a b : Addr) (k : ClassId) (c0 c1 c2 c3 c4 c5 e0 e1 e2 : Int32) (h0 : Heap) (O0 : Old Z Z.heap.size h0) (p1 : Str Z h0 a [c0, c1, c2, c3, c4, c5]) (p2 : Arv Z h0 b k (.char) (3 : Int32) [(.int e0), (.int e1), (.int e2)] (.int 0)) (p3 : C8 e0) (p4 : C8 e1) (p5 : C8 e2) : Con false [] l Z (⟨"com/example/hew/hew/MethodKindNounPinLaw", "at", "(Ljava/lang/String;[CI)C"⟩ : MethodName) method_5_code 4 (some .char) [] (rm4 4 0 0 53) #[(.ref a), (.ref b), (.int 5)] h0 [] (rvl (Q_at6_5 Z a b k c0 c1 c2 c3 c4 c5 e0 e1 e2 h0)) := by
  refine conN G (plainFor_of_name pn4) O0 (fun m => ef11 m a b (5 : Int32)) ?_
  intro _ _ _ m_ _ _ _ D hml hret hlk hnm
  refine go_iload_n 1 (D d11_0) rfl rfl ?_
  refine go_aload_n 2 (D d11_1) rfl rfl rfl ?_
  refine callV0 (cells' := 0) (slots' := 0) (Wd := 1) (argsL := []) (rest := [(.int 5)]) (pay_len G O0 (n := (6 : Int32)) p1 rfl (by decide) (by decide)) p1.exa (wk G 23) (wk G 24) (wk G 26) (wk G 26) (wk G 25) pd5 (sz hml) all0 sf00 (D d11_2) (k_v 5 rfl ?_)
  rintro _ _ ⟨rfl, rfl⟩ -
  refine go_icF 8 (D d11_5) rfl (by decide) ?_
  refine go_aload_n 9 (D d11_8) rfl rfl rfl ?_
  refine go_iload_n 10 (D d11_9) rfl rfl ?_
  have q1 : C8 c5 := by obtain ⟨_, _, _, _, _, _, q, _⟩ := id p1; exact q _ (by simp)
  refine callV0 (cells' := 0) (slots' := 0) (Wd := 0) (argsL := [(.int 5)]) (rest := []) (pay_chr G O0 (i := 5) (c := c5) p1 rfl (nb rfl) rfl (by decide) (by decide)) p1.exa (wk G 36) (wk G 37) (wk G 39) (wk G 39) (wk G 38) pd6 (sz hml) all0 sf00 (D d11_10) (k_v 13 rfl ?_)
  rintro _ _ ⟨rfl, rfl⟩ -
  refine go_ireturn hret hlk (nar_c8 q1) (by simp) (D d11_13) (by decide) (by decide) ⟨_, rfl, ⟨rfl, rfl⟩⟩ (Keep.refl h0 [])
def Q_at6_6 (Z : State) (a b : Addr) (k : ClassId) (c0 c1 c2 c3 c4 c5 e0 e1 e2 : Int32) (h0 : Heap) (xv : Value) (h : Heap) : Prop := (.int e0) = xv ∧ h0 = h
theorem c_at6_6 (G : GH Z a0) (a b : Addr) (k : ClassId) (c0 c1 c2 c3 c4 c5 e0 e1 e2 : Int32) (h0 : Heap) (O0 : Old Z Z.heap.size h0) (p1 : Str Z h0 a [c0, c1, c2, c3, c4, c5]) (p2 : Arv Z h0 b k (.char) (3 : Int32) [(.int e0), (.int e1), (.int e2)] (.int 0)) (p3 : C8 e0) (p4 : C8 e1) (p5 : C8 e2) : Con false [] l Z (⟨"com/example/hew/hew/MethodKindNounPinLaw", "at", "(Ljava/lang/String;[CI)C"⟩ : MethodName) method_5_code 4 (some .char) [] (rm4 2 0 0 26) #[(.ref a), (.ref b), (.int 6)] h0 [] (rvl (Q_at6_6 Z a b k c0 c1 c2 c3 c4 c5 e0 e1 e2 h0)) := by
  refine conN G (plainFor_of_name pn4) O0 (fun m => ef11 m a b (6 : Int32)) ?_
  intro _ _ _ m_ _ _ _ D hml hret hlk hnm
  refine go_iload_n 1 (D d11_0) rfl rfl ?_
  refine go_aload_n 2 (D d11_1) rfl rfl rfl ?_
  refine callV0 (cells' := 0) (slots' := 0) (Wd := 1) (argsL := []) (rest := [(.int 6)]) (pay_len G O0 (n := (6 : Int32)) p1 rfl (by decide) (by decide)) p1.exa (wk G 23) (wk G 24) (wk G 26) (wk G 26) (wk G 25) pd5 (sz hml) all0 sf00 (D d11_2) (k_v 5 rfl ?_)
  rintro _ _ ⟨rfl, rfl⟩ -
  refine go_icT 14 (D d11_5) (by decide) rfl (by decide) ?_
  refine go_iload_n 15 (D d11_14) rfl rfl ?_
  refine go_aload_n 16 (D d11_15) rfl rfl rfl ?_
  refine callV0 (cells' := 0) (slots' := 0) (Wd := 1) (argsL := []) (rest := [(.int 6)]) (pay_len G O0 (n := (6 : Int32)) p1 rfl (by decide) (by decide)) p1.exa (wk G 23) (wk G 24) (wk G 26) (wk G 26) (wk G 25) pd5 (sz hml) all0 sf00 (D d11_16) (k_v 19 rfl ?_)
  rintro _ _ ⟨rfl, rfl⟩ -
  refine go_isub 20 (z := (0 : Int32)) (D d11_19) rfl (by decide) ?_
  refine go_istore_n 21 (ls' := #[vr a, vr b, vi 6, vi 0]) (D d11_20) rfl rfl ?_
  refine go_iload_n 22 (D d11_21) rfl rfl ?_
  refine go_aload_n 23 (D d11_22) rfl rfl rfl ?_
  refine go_arraylength 24 p2 (D d11_23) rfl ?_
  refine go_icF 27 (D d11_24) rfl (by decide) ?_
  refine go_aload_n 28 (D d11_27) rfl rfl rfl ?_
  refine go_iload_n 29 (D d11_28) rfl rfl ?_
  refine go_caload 30 (i := 0) (v := (.int e0)) p2 (by decide) (by decide) rfl rfl (D d11_29) rfl ?_
  refine go_ireturn hret hlk (nar_c8 p3) (by simp) (D d11_30) (by decide) (by decide) ⟨_, rfl, ⟨rfl, rfl⟩⟩ (Keep.refl h0 [])
def Q_at6_7 (Z : State) (a b : Addr) (k : ClassId) (c0 c1 c2 c3 c4 c5 e0 e1 e2 : Int32) (h0 : Heap) (xv : Value) (h : Heap) : Prop := (.int e1) = xv ∧ h0 = h
theorem c_at6_7 (G : GH Z a0) (a b : Addr) (k : ClassId) (c0 c1 c2 c3 c4 c5 e0 e1 e2 : Int32) (h0 : Heap) (O0 : Old Z Z.heap.size h0) (p1 : Str Z h0 a [c0, c1, c2, c3, c4, c5]) (p2 : Arv Z h0 b k (.char) (3 : Int32) [(.int e0), (.int e1), (.int e2)] (.int 0)) (p3 : C8 e0) (p4 : C8 e1) (p5 : C8 e2) : Con false [] l Z (⟨"com/example/hew/hew/MethodKindNounPinLaw", "at", "(Ljava/lang/String;[CI)C"⟩ : MethodName) method_5_code 4 (some .char) [] (rm4 2 0 0 26) #[(.ref a), (.ref b), (.int 7)] h0 [] (rvl (Q_at6_7 Z a b k c0 c1 c2 c3 c4 c5 e0 e1 e2 h0)) := by
  refine conN G (plainFor_of_name pn4) O0 (fun m => ef11 m a b (7 : Int32)) ?_
  intro _ _ _ m_ _ _ _ D hml hret hlk hnm
  refine go_iload_n 1 (D d11_0) rfl rfl ?_
  refine go_aload_n 2 (D d11_1) rfl rfl rfl ?_
  refine callV0 (cells' := 0) (slots' := 0) (Wd := 1) (argsL := []) (rest := [(.int 7)]) (pay_len G O0 (n := (6 : Int32)) p1 rfl (by decide) (by decide)) p1.exa (wk G 23) (wk G 24) (wk G 26) (wk G 26) (wk G 25) pd5 (sz hml) all0 sf00 (D d11_2) (k_v 5 rfl ?_)
  rintro _ _ ⟨rfl, rfl⟩ -
  refine go_icT 14 (D d11_5) (by decide) rfl (by decide) ?_
  refine go_iload_n 15 (D d11_14) rfl rfl ?_
  refine go_aload_n 16 (D d11_15) rfl rfl rfl ?_
  refine callV0 (cells' := 0) (slots' := 0) (Wd := 1) (argsL := []) (rest := [(.int 7)]) (pay_len G O0 (n := (6 : Int32)) p1 rfl (by decide) (by decide)) p1.exa (wk G 23) (wk G 24) (wk G 26) (wk G 26) (wk G 25) pd5 (sz hml) all0 sf00 (D d11_16) (k_v 19 rfl ?_)
  rintro _ _ ⟨rfl, rfl⟩ -
  refine go_isub 20 (z := (1 : Int32)) (D d11_19) rfl (by decide) ?_
  refine go_istore_n 21 (ls' := #[vr a, vr b, vi 7, vi 1]) (D d11_20) rfl rfl ?_
  refine go_iload_n 22 (D d11_21) rfl rfl ?_
  refine go_aload_n 23 (D d11_22) rfl rfl rfl ?_
  refine go_arraylength 24 p2 (D d11_23) rfl ?_
  refine go_icF 27 (D d11_24) rfl (by decide) ?_
  refine go_aload_n 28 (D d11_27) rfl rfl rfl ?_
  refine go_iload_n 29 (D d11_28) rfl rfl ?_
  refine go_caload 30 (i := 1) (v := (.int e1)) p2 (by decide) (by decide) rfl rfl (D d11_29) rfl ?_
  refine go_ireturn hret hlk (nar_c8 p4) (by simp) (D d11_30) (by decide) (by decide) ⟨_, rfl, ⟨rfl, rfl⟩⟩ (Keep.refl h0 [])
def Q_at6_8 (Z : State) (a b : Addr) (k : ClassId) (c0 c1 c2 c3 c4 c5 e0 e1 e2 : Int32) (h0 : Heap) (xv : Value) (h : Heap) : Prop := (.int e2) = xv ∧ h0 = h
theorem c_at6_8 (G : GH Z a0) (a b : Addr) (k : ClassId) (c0 c1 c2 c3 c4 c5 e0 e1 e2 : Int32) (h0 : Heap) (O0 : Old Z Z.heap.size h0) (p1 : Str Z h0 a [c0, c1, c2, c3, c4, c5]) (p2 : Arv Z h0 b k (.char) (3 : Int32) [(.int e0), (.int e1), (.int e2)] (.int 0)) (p3 : C8 e0) (p4 : C8 e1) (p5 : C8 e2) : Con false [] l Z (⟨"com/example/hew/hew/MethodKindNounPinLaw", "at", "(Ljava/lang/String;[CI)C"⟩ : MethodName) method_5_code 4 (some .char) [] (rm4 2 0 0 26) #[(.ref a), (.ref b), (.int 8)] h0 [] (rvl (Q_at6_8 Z a b k c0 c1 c2 c3 c4 c5 e0 e1 e2 h0)) := by
  refine conN G (plainFor_of_name pn4) O0 (fun m => ef11 m a b (8 : Int32)) ?_
  intro _ _ _ m_ _ _ _ D hml hret hlk hnm
  refine go_iload_n 1 (D d11_0) rfl rfl ?_
  refine go_aload_n 2 (D d11_1) rfl rfl rfl ?_
  refine callV0 (cells' := 0) (slots' := 0) (Wd := 1) (argsL := []) (rest := [(.int 8)]) (pay_len G O0 (n := (6 : Int32)) p1 rfl (by decide) (by decide)) p1.exa (wk G 23) (wk G 24) (wk G 26) (wk G 26) (wk G 25) pd5 (sz hml) all0 sf00 (D d11_2) (k_v 5 rfl ?_)
  rintro _ _ ⟨rfl, rfl⟩ -
  refine go_icT 14 (D d11_5) (by decide) rfl (by decide) ?_
  refine go_iload_n 15 (D d11_14) rfl rfl ?_
  refine go_aload_n 16 (D d11_15) rfl rfl rfl ?_
  refine callV0 (cells' := 0) (slots' := 0) (Wd := 1) (argsL := []) (rest := [(.int 8)]) (pay_len G O0 (n := (6 : Int32)) p1 rfl (by decide) (by decide)) p1.exa (wk G 23) (wk G 24) (wk G 26) (wk G 26) (wk G 25) pd5 (sz hml) all0 sf00 (D d11_16) (k_v 19 rfl ?_)
  rintro _ _ ⟨rfl, rfl⟩ -
  refine go_isub 20 (z := (2 : Int32)) (D d11_19) rfl (by decide) ?_
  refine go_istore_n 21 (ls' := #[vr a, vr b, vi 8, vi 2]) (D d11_20) rfl rfl ?_
  refine go_iload_n 22 (D d11_21) rfl rfl ?_
  refine go_aload_n 23 (D d11_22) rfl rfl rfl ?_
  refine go_arraylength 24 p2 (D d11_23) rfl ?_
  refine go_icF 27 (D d11_24) rfl (by decide) ?_
  refine go_aload_n 28 (D d11_27) rfl rfl rfl ?_
  refine go_iload_n 29 (D d11_28) rfl rfl ?_
  refine go_caload 30 (i := 2) (v := (.int e2)) p2 (by decide) (by decide) rfl rfl (D d11_29) rfl ?_
  refine go_ireturn hret hlk (nar_c8 p5) (by simp) (D d11_30) (by decide) (by decide) ⟨_, rfl, ⟨rfl, rfl⟩⟩ (Keep.refl h0 [])
def Q_noun6_6 (Z : State) (a b p : Addr) (g0 g1 g2 g3 g4 g5 c0 c1 c2 c3 c4 c5 : Int32) (h0 : Heap) (xv : Value) (h : Heap) : Prop := ∃ (r : Addr), (.ref r) = xv ∧ Str Z h r []
def Q_subi6_6 (Z : State) (a : Addr) (c0 c1 c2 c3 c4 c5 : Int32) (h0 : Heap) (xv : Value) (h : Heap) : Prop := ∃ (r : Addr), (.ref r) = xv ∧ Str Z h r []
def Q_sub6_6_6 (Z : State) (a : Addr) (c0 c1 c2 c3 c4 c5 : Int32) (h0 : Heap) (xv : Value) (h : Heap) : Prop := ∃ (r : Addr), (.ref r) = xv ∧ Str Z h r []
def Q_news6_0_6 (Z : State) (t : Addr) (k : ClassId) (c0 c1 c2 c3 c4 c5 : Int32) (h0 : Heap) (xv : Value) (h : Heap) : Prop := ∃ (r : Addr), (.ref r) = xv ∧ Str Z h r []
theorem c_news6_0_6 (G : GH Z a0) (t : Addr) (k : ClassId) (c0 c1 c2 c3 c4 c5 : Int32) (h0 : Heap) (O0 : Old Z Z.heap.size h0) (p1 : Arv Z h0 t k (.byte) (6 : Int32) [(.int (c0).toInt8.toInt32), (.int (c1).toInt8.toInt32), (.int (c2).toInt8.toInt32), (.int (c3).toInt8.toInt32), (.int (c4).toInt8.toInt32), (.int (c5).toInt8.toInt32)] (.int 0)) (p2 : C8 c0) (p3 : C8 c1) (p4 : C8 c2) (p5 : C8 c3) (p6 : C8 c4) (p7 : C8 c5) : Con true EL1 l Z (⟨"java/lang/StringLatin1", "newString", "([BII)Ljava/lang/String;"⟩ : MethodName) jdk_43_method_47_code 3 (some (.object "java/lang/String")) [] (rm4 0 2 4 0) #[(.ref t), (.int 6), (.int 0)] h0 [] (rvl (Q_news6_0_6 Z t k c0 c1 c2 c3 c4 c5 h0)) := by
  refine conW G (plainFor_of_name pn5) O0 (fun m => ef14 m t (6 : Int32) (0 : Int32)) ?_
  intro _ _ _ m_ _ _ _ D hml hret hlk hnm
  refine go_iload_n 1 (D d16_0) rfl rfl ?_
  refine go_ifF 4 (D d16_1) rfl (by decide) ?_
  refine go_ldcH 6 (cells' := 2) (slots' := 4) (n := 0) (vs := (([] : List Int32).map fun c => c.toInt8.toInt32).map Value.int) (z := (0 : Int32)) rfl (by decide) (wk G 145) (wS G) (by decide +kernel) (by decide) (by decide) (by decide) (by decide) (D d16_4) rfl rfl rfl (by decide) (by decide) (fun h1 a2 t4 k5 X3 E6 F7 F8 A9 => ?_)
  have S10 : Str Z h1 a2 [] := ⟨t4, k5, E6, F8, F7, A9, by decide, by decide⟩
  have K11 : Keep h0 h1 [] := ((Keep.refl h0 []).ext X3)
  refine go_areturn hret hlk rfl rfl (D d16_6) (by decide) (by decide) ⟨_, rfl, ⟨a2, rfl, S10⟩⟩ K11
theorem c_sub6_6_6 (G : GH Z a0) (a : Addr) (c0 c1 c2 c3 c4 c5 : Int32) (h0 : Heap) (O0 : Old Z Z.heap.size h0) (p1 : Str Z h0 a [c0, c1, c2, c3, c4, c5]) : Con true EL1 l Z (⟨"java/lang/String", "substring", "(II)Ljava/lang/String;"⟩ : MethodName) jdk_42_method_92_code 5 (some (.object "java/lang/String")) [] (rm4 2 2 4 29) #[(.ref a), (.int 6), (.int 6)] h0 [] (rvl (Q_sub6_6_6 Z a c0 c1 c2 c3 c4 c5 h0)) := by
  refine conW G (plainFor_of_name pn1) O0 (fun m => ef13 m a (6 : Int32) (6 : Int32)) ?_
  intro _ _ _ m_ _ _ _ D hml hret hlk hnm
  have q1 : C8 c0 := by obtain ⟨_, _, _, _, _, _, q, _⟩ := id p1; exact q _ (by simp)
  have q2 : C8 c1 := by obtain ⟨_, _, _, _, _, _, q, _⟩ := id p1; exact q _ (by simp)
  have q3 : C8 c2 := by obtain ⟨_, _, _, _, _, _, q, _⟩ := id p1; exact q _ (by simp)
  have q4 : C8 c3 := by obtain ⟨_, _, _, _, _, _, q, _⟩ := id p1; exact q _ (by simp)
  have q5 : C8 c4 := by obtain ⟨_, _, _, _, _, _, q, _⟩ := id p1; exact q _ (by simp)
  have q6 : C8 c5 := by obtain ⟨_, _, _, _, _, _, q, _⟩ := id p1; exact q _ (by simp)
  refine go_aload_n 1 (D d15_0) rfl rfl rfl ?_
  refine callV0 (cells' := 0) (slots' := 0) (Wd := 0) (argsL := []) (rest := []) (pay_len G O0 (n := (6 : Int32)) p1 rfl (by decide) (by decide)) p1.exa (wk G 95) (wk G 24) (wk G 26) (wk G 26) (wk G 25) pd5 (sz hml) all0 sf00 (D d15_1) (k_v 4 rfl ?_)
  rintro _ _ ⟨rfl, rfl⟩ -
  refine go_istore_n 5 (ls' := #[vr a, vi 6, vi 6, vi 6, un]) (D d15_4) rfl rfl ?_
  refine go_iload_n 6 (D d15_5) rfl rfl ?_
  refine go_iload_n 7 (D d15_6) rfl rfl ?_
  refine go_iload_n 8 (D d15_7) rfl rfl ?_
  refine callS0 (cells' := 0) (slots' := 0) (Wd := 0) (argsL := [(.int 6), (.int 6), (.int 6)]) (rest := []) (pay_of (a0 := a0) (c_cbbe l G (6 : Int32) (6 : Int32) (6 : Int32) h0 O0 (by decide) (by decide) (by decide)) (wk G 103) (wk G 12)) (wk G 101) (wk G 102) (wk G 12) (wk G 103) pd10 (sz hml) all0 sf00 (D d15_8) (k_n 11 rfl ?_)
  rintro  h7 rfl K8
  refine go_iload_n 12 (D d15_11) rfl rfl ?_
  refine go_ifT 22 (D d15_12) (by decide) rfl (by decide) ?_
  refine go_iload_n 23 (D d15_22) rfl rfl ?_
  refine go_iload_n 24 (D d15_23) rfl rfl ?_
  refine go_isub 25 (z := (0 : Int32)) (D d15_24) rfl (by decide) ?_
  refine go_istore 27 (ls' := #[vr a, vi 6, vi 6, vi 6, vi 0]) (D d15_25) rfl rfl ?_
  refine go_aload_n 28 (D d15_27) rfl rfl rfl ?_
  obtain ⟨t9, k10, E11, F12, F13, A14, B15, L16⟩ := id p1
  refine callV0 (cells' := 0) (slots' := 0) (Wd := 0) (argsL := []) (rest := []) (pay_of (a0 := a0) (c_islatin l G a h0 O0 F13) (wk G 45) (wk G 12)) E11 (wk G 41) (wk G 42) (wk G 44) (wk G 44) (wk G 43) pd11 (sz hml) all0 sf00 (D d15_28) (k_v 31 rfl ?_)
  rintro _ h17 ⟨rfl, rfl⟩ K18
  refine go_ifF 34 (D d15_31) rfl (by decide) ?_
  refine go_aload_n 35 (D d15_34) rfl rfl rfl ?_
  refine go_getF 38 (wk G 28) Via.refl F12 (D d15_35) rfl ?_
  refine go_iload_n 39 (D d15_38) rfl rfl ?_
  refine go_iload 41 (D d15_39) rfl rfl ?_
  refine callSW0 rfl (cells' := 2) (slots' := 4) (Wd := 0) (argsL := [(.ref t9), (.int 6), (.int 0)]) (rest := []) (payW_of (a0 := a0) (c_news6_0_6 l G t9 k10 c0 c1 c2 c3 c4 c5 h0 O0 A14 q1 q2 q3 q4 q5 q6) (wk G 109) (wk G 48) (ew1 G)) (wk G 107) (wk G 108) (wk G 48) (wk G 109) pd12 (sz hml) all0 (D d15_41) (k_v 44 rfl ?_)
  rintro _ h19 ⟨r21, rfl, f22⟩ K20
  refine go_goto 57 (D d15_44) (by decide) rfl ?_
  have K23 : Keep h0 h19 [] := ((Keep.refl h0 []).trans K20 all0)
  refine go_areturn hret hlk rfl rfl (D d15_57) (by decide) (by decide) ⟨_, rfl, ⟨r21, rfl, f22⟩⟩ K23
theorem c_subi6_6 (G : GH Z a0) (a : Addr) (c0 c1 c2 c3 c4 c5 : Int32) (h0 : Heap) (O0 : Old Z Z.heap.size h0) (p1 : Str Z h0 a [c0, c1, c2, c3, c4, c5]) : Con true EL1 l Z (⟨"java/lang/String", "substring", "(I)Ljava/lang/String;"⟩ : MethodName) jdk_42_method_91_code 2 (some (.object "java/lang/String")) [] (rm4 3 2 4 45) #[(.ref a), (.int 6)] h0 [] (rvl (Q_subi6_6 Z a c0 c1 c2 c3 c4 c5 h0)) := by
  refine conW G (plainFor_of_name pn1) O0 (fun m => ef12 m a (6 : Int32)) ?_
  intro _ _ _ m_ _ _ _ D hml hret hlk hnm
  have q1 : C8 c0 := by obtain ⟨_, _, _, _, _, _, q, _⟩ := id p1; exact q _ (by simp)
  have q2 : C8 c1 := by obtain ⟨_, _, _, _, _, _, q, _⟩ := id p1; exact q _ (by simp)
  have q3 : C8 c2 := by obtain ⟨_, _, _, _, _, _, q, _⟩ := id p1; exact q _ (by simp)
  have q4 : C8 c3 := by obtain ⟨_, _, _, _, _, _, q, _⟩ := id p1; exact q _ (by simp)
  have q5 : C8 c4 := by obtain ⟨_, _, _, _, _, _, q, _⟩ := id p1; exact q _ (by simp)
  have q6 : C8 c5 := by obtain ⟨_, _, _, _, _, _, q, _⟩ := id p1; exact q _ (by simp)
  refine go_aload_n 1 (D d14_0) rfl rfl rfl ?_
  refine go_iload_n 2 (D d14_1) rfl rfl ?_
  refine go_aload_n 3 (D d14_2) rfl rfl rfl ?_
  refine callV0 (cells' := 0) (slots' := 0) (Wd := 2) (argsL := []) (rest := [(.int 6), (.ref a)]) (pay_len G O0 (n := (6 : Int32)) p1 rfl (by decide) (by decide)) p1.exa (wk G 95) (wk G 24) (wk G 26) (wk G 26) (wk G 25) pd5 (sz hml) all0 sf00 (D d14_3) (k_v 6 rfl ?_)
  rintro _ _ ⟨rfl, rfl⟩ -
  refine callVW0 rfl (cells' := 2) (slots' := 4) (Wd := 0) (argsL := [(.int 6), (.int 6)]) (rest := []) (payW_of (a0 := a0) (c_sub6_6_6 l G a c0 c1 c2 c3 c4 c5 h0 O0 p1) (wk G 100) (wk G 12) (ew1 G)) p1.exa (wk G 96) (wk G 97) (wk G 99) (wk G 99) (wk G 98) pd13 (sz hml) all0 (D d14_6) (k_v 9 rfl ?_)
  rintro _ h7 ⟨r9, rfl, f10⟩ K8
  have K11 : Keep h0 h7 [] := ((Keep.refl h0 []).trans K8 all0)
  refine go_areturn hret hlk rfl rfl (D d14_9) (by decide) (by decide) ⟨_, rfl, ⟨r9, rfl, f10⟩⟩ K11
theorem c_noun6_6 (G : GH Z a0) (a b : Addr) (p : Addr) (g0 g1 g2 g3 g4 g5 c0 c1 c2 c3 c4 c5 : Int32) (h0 : Heap) (O0 : Old Z Z.heap.size h0) (p1 : Fld Z h0 a "com/example/hew/hew/MethodKind" "prefix" "Ljava/lang/String;" (.ref p)) (p2 : Str Z h0 p [g0, g1, g2, g3, g4, g5]) (p3 : Str Z h0 b [c0, c1, c2, c3, c4, c5]) : Con true EL1 l Z (⟨"com/example/hew/hew/MethodKind", "noun", "(Ljava/lang/String;)Ljava/lang/String;"⟩ : MethodName) prog_32_method_8_code 2 (some (.object "java/lang/String")) [] (rm4 4 2 4 58) #[(.ref a), (.ref b)] h0 [] (rvl (Q_noun6_6 Z a b p g0 g1 g2 g3 g4 g5 c0 c1 c2 c3 c4 c5 h0)) := by
  refine conW G (plainFor_of_name pn6) O0 (fun m => ef3 m a b) ?_
  intro _ _ _ m_ _ _ _ D hml hret hlk hnm
  refine go_aload_n 1 (D d13_0) rfl rfl rfl ?_
  refine go_aload_n 2 (D d13_1) rfl rfl rfl ?_
  refine go_getF 5 (wk G 87) Via.refl p1 (D d13_2) rfl ?_
  refine callV0 (cells' := 0) (slots' := 0) (Wd := 1) (argsL := []) (rest := [(.ref b)]) (pay_len G O0 (n := (6 : Int32)) p2 rfl (by decide) (by decide)) p2.exa (wk G 89) (wk G 24) (wk G 26) (wk G 26) (wk G 25) pd5 (sz hml) all0 sf00 (D d13_5) (k_v 8 rfl ?_)
  rintro _ _ ⟨rfl, rfl⟩ -
  refine callVW0 rfl (cells' := 2) (slots' := 4) (Wd := 0) (argsL := [(.int 6)]) (rest := []) (payW_of (a0 := a0) (c_subi6_6 l G b c0 c1 c2 c3 c4 c5 h0 O0 p3) (wk G 94) (wk G 12) (ew1 G)) p3.exa (wk G 90) (wk G 91) (wk G 93) (wk G 93) (wk G 92) pd4 (sz hml) all0 (D d13_8) (k_v 11 rfl ?_)
  rintro _ h1 ⟨r3, rfl, f4⟩ K2
  have K5 : Keep h0 h1 [] := ((Keep.refl h0 []).trans K2 all0)
  refine go_areturn hret hlk rfl rfl (D d13_11) (by decide) (by decide) ⟨_, rfl, ⟨r3, rfl, f4⟩⟩ K5
def Q_noun6_7 (Z : State) (a b p : Addr) (g0 g1 g2 g3 g4 g5 c0 c1 c2 c3 c4 c5 c6 : Int32) (h0 : Heap) (xv : Value) (h : Heap) : Prop := ∃ (r : Addr), (.ref r) = xv ∧ Str Z h r [c6]
def Q_subi6_7 (Z : State) (a : Addr) (c0 c1 c2 c3 c4 c5 c6 : Int32) (h0 : Heap) (xv : Value) (h : Heap) : Prop := ∃ (r : Addr), (.ref r) = xv ∧ Str Z h r [c6]
def Q_sub6_7_7 (Z : State) (a : Addr) (c0 c1 c2 c3 c4 c5 c6 : Int32) (h0 : Heap) (xv : Value) (h : Heap) : Prop := ∃ (r : Addr), (.ref r) = xv ∧ Str Z h r [c6]
def Q_news6_1_7 (Z : State) (t : Addr) (k : ClassId) (c0 c1 c2 c3 c4 c5 c6 : Int32) (h0 : Heap) (xv : Value) (h : Heap) : Prop := ∃ (r : Addr), (.ref r) = xv ∧ Str Z h r [c6]
def Q_cor6_7_7 (Z : State) (t : Addr) (k : ClassId) (b0 b1 b2 b3 b4 b5 b6 : Int32) (h0 : Heap) (xv : Value) (h : Heap) : Prop := ∃ (r : Addr) (k2 : ClassId), (.ref r) = xv ∧ h0.size ≤ r ∧ Arv Z h r k2 (.byte) (1 : Int32) [(.int b6)] (.int 0)
def Q_corb6_7_7 (Z : State) (t : Addr) (k : ClassId) (b0 b1 b2 b3 b4 b5 b6 : Int32) (h0 : Heap) (xv : Value) (h : Heap) : Prop := ∃ (r : Addr) (k2 : ClassId), (.ref r) = xv ∧ h0.size ≤ r ∧ Arv Z h r k2 (.byte) (1 : Int32) [(.int b6)] (.int 0)
theorem c_corb6_7_7 (G : GH Z a0) (t : Addr) (k : ClassId) (b0 b1 b2 b3 b4 b5 b6 : Int32) (h0 : Heap) (O0 : Old Z Z.heap.size h0) (p1 : Arv Z h0 t k (.byte) (7 : Int32) [(.int b0), (.int b1), (.int b2), (.int b3), (.int b4), (.int b5), (.int b6)] (.int 0)) : Con false [] l Z (⟨"java/util/Arrays", "copyOfRangeByte", "([BII)[B"⟩ : MethodName) jdk_65_method_133_code 5 (some (.array .byte)) [] (rm4 1 1 1 18) #[(.ref t), (.int 6), (.int 7)] h0 [] (rvl (Q_corb6_7_7 Z t k b0 b1 b2 b3 b4 b5 b6 h0)) := by
  refine conN G (plainFor_of_name pn3) O0 (fun m => ef13 m t (6 : Int32) (7 : Int32)) ?_
  intro _ _ _ m_ _ _ _ D hml hret hlk hnm
  refine go_iload_n 1 (D d18_0) rfl rfl ?_
  refine go_iload_n 2 (D d18_1) rfl rfl ?_
  refine callS0 (cells' := 0) (slots' := 0) (Wd := 0) (argsL := [(.int 6), (.int 7)]) (rest := []) (pay_of (a0 := a0) (c_chkl l G (6 : Int32) (7 : Int32) h0 O0 (by decide)) (wk G 120) (wk G 113)) (wk G 118) (wk G 119) (wk G 113) (wk G 120) pd16 (sz hml) all0 sf00 (D d18_2) (k_n 5 rfl ?_)
  rintro  h1 rfl K2
  refine go_iload_n 6 (D d18_5) rfl rfl ?_
  refine go_iload_n 7 (D d18_6) rfl rfl ?_
  refine go_isub 8 (z := (1 : Int32)) (D d18_7) rfl (by decide) ?_
  refine go_istore_n 9 (ls' := #[vr t, vi 6, vi 7, vi 1, un]) (D d18_8) rfl rfl ?_
  refine go_iload_n 10 (D d18_9) rfl rfl ?_
  refine go_newP 12 (cells' := 1) (slots' := 1) (cap := 1) (vs := [(.int 0)]) (ty := .byte) (dv := .int 0) (wk G 14) rfl rfl (D d18_10) rfl (by decide) rfl (by decide) rfl rfl rfl (by decide) (by decide) (fun h3 a4 k8 g5 X6 A7 => ?_)
  refine go_astore 14 (ls' := #[vr t, vi 6, vi 7, vi 1, vr a4]) (D d18_12) rfl rfl rfl ?_
  refine go_aload_n 15 (D d18_14) rfl rfl rfl ?_
  refine go_iload_n 16 (D d18_15) rfl rfl ?_
  refine go_aload 18 (D d18_16) rfl rfl rfl ?_
  refine go_iconst 19 (v := 0) (D d18_18) rfl rfl ?_
  refine go_aload_n 20 (D d18_19) rfl rfl rfl ?_
  have K9 : Keep h0 h3 [] := ((Keep.refl h0 []).ext X6)
  have A10 := (p1.keep K9 nin0)
  refine go_arraylength 21 A10 (D d18_20) rfl ?_
  refine go_iload_n 22 (D d18_21) rfl rfl ?_
  refine go_isub 23 (z := (1 : Int32)) (D d18_22) rfl (by decide) ?_
  refine go_iload_n 24 (D d18_23) rfl rfl ?_
  refine go_old (fun O11 => ?_)
  refine callS0 (cells' := 1) (slots' := 1) (Wd := 4) (argsL := [(.int 1), (.int 1)]) (rest := [(.int 0), (.ref a4), (.int 6), (.ref t)]) (pay_of (a0 := a0) (c_min1_1 l G  h3 O11 ) (wk G 124) (wk G 123)) (wk G 121) (wk G 122) (wk G 123) (wk G 124) pd17 (sz hml) all0 sf00 (D d18_24) (k_v 27 rfl ?_)
  rintro _ h12 ⟨rfl, rfl⟩ K13
  refine go_acopy 30 (Wd := 0) (vd' := [(.int b6)]) (wk G 125) (wk G 128) (wk G 126) (wk G 127) rfl A10 A7 rfl (by decide) (by decide) (by decide) (nb rfl) (nb rfl) (nb rfl) (Nat.le_trans O0.2.1 (Nat.le_of_eq g5)) rfl (sz hml) (by decide) (by decide) (by decide) (D d18_27) rfl (fun h14 K15 A16 => ?_)
  refine go_aload 32 (D d18_30) rfl rfl rfl ?_
  have K17 : Keep h0 h14 [] := (K9.trans K15 (allS (Or.inr (Nat.le_of_eq g5)) all0))
  refine go_areturn hret hlk rfl rfl (D d18_32) (by decide) (by decide) ⟨_, rfl, ⟨a4, k8, rfl, (Nat.le_of_eq g5), A16⟩⟩ K17
theorem c_cor6_7_7 (G : GH Z a0) (t : Addr) (k : ClassId) (b0 b1 b2 b3 b4 b5 b6 : Int32) (h0 : Heap) (O0 : Old Z Z.heap.size h0) (p1 : Arv Z h0 t k (.byte) (7 : Int32) [(.int b0), (.int b1), (.int b2), (.int b3), (.int b4), (.int b5), (.int b6)] (.int 0)) : Con false [] l Z (⟨"java/util/Arrays", "copyOfRange", "([BII)[B"⟩ : MethodName) jdk_65_method_132_code 3 (some (.array .byte)) [] (rm4 2 1 1 34) #[(.ref t), (.int 6), (.int 7)] h0 [] (rvl (Q_cor6_7_7 Z t k b0 b1 b2 b3 b4 b5 b6 h0)) := by
  refine conN G (plainFor_of_name pn3) O0 (fun m => ef14 m t (6 : Int32) (7 : Int32)) ?_
  intro _ _ _ m_ _ _ _ D hml hret hlk hnm
  refine go_iload_n 1 (D d17_0) rfl rfl ?_
  refine go_ifT 10 (D d17_1) (by decide) rfl (by decide) ?_
  refine go_aload_n 11 (D d17_10) rfl rfl rfl ?_
  refine go_iload_n 12 (D d17_11) rfl rfl ?_
  refine go_iload_n 13 (D d17_12) rfl rfl ?_
  refine callS0 (cells' := 1) (slots' := 1) (Wd := 0) (argsL := [(.ref t), (.int 6), (.int 7)]) (rest := []) (pay_of (a0 := a0) (c_corb6_7_7 l G t k b0 b1 b2 b3 b4 b5 b6 h0 O0 p1) (wk G 117) (wk G 113)) (wk G 115) (wk G 116) (wk G 113) (wk G 117) pd18 (sz hml) all0 sf00 (D d17_13) (k_v 16 rfl ?_)
  rintro _ h1 ⟨r3, r4, rfl, f5, f6⟩ K2
  have K7 : Keep h0 h1 [] := ((Keep.refl h0 []).trans K2 all0)
  refine go_areturn hret hlk rfl rfl (D d17_16) (by decide) (by decide) ⟨_, rfl, ⟨r3, r4, rfl, f5, f6⟩⟩ K7
theorem c_news6_1_7 (G : GH Z a0) (t : Addr) (k : ClassId) (c0 c1 c2 c3 c4 c5 c6 : Int32) (h0 : Heap) (O0 : Old Z Z.heap.size h0) (p1 : Arv Z h0 t k (.byte) (7 : Int32) [(.int (c0).toInt8.toInt32), (.int (c1).toInt8.toInt32), (.int (c2).toInt8.toInt32), (.int (c3).toInt8.toInt32), (.int (c4).toInt8.toInt32), (.int (c5).toInt8.toInt32), (.int (c6).toInt8.toInt32)] (.int 0)) (p2 : C8 c0) (p3 : C8 c1) (p4 : C8 c2) (p5 : C8 c3) (p6 : C8 c4) (p7 : C8 c5) (p8 : C8 c6) : Con false [] l Z (⟨"java/lang/StringLatin1", "newString", "([BII)Ljava/lang/String;"⟩ : MethodName) jdk_43_method_47_code 3 (some (.object "java/lang/String")) [] (rm4 3 2 5 50) #[(.ref t), (.int 6), (.int 1)] h0 [] (rvl (Q_news6_1_7 Z t k c0 c1 c2 c3 c4 c5 c6 h0)) := by
  refine conN G (plainFor_of_name pn5) O0 (fun m => ef14 m t (6 : Int32) (1 : Int32)) ?_
  intro _ _ _ m_ _ _ _ D hml hret hlk hnm
  refine go_iload_n 1 (D d16_0) rfl rfl ?_
  refine go_ifT 7 (D d16_1) (by decide) rfl (by decide) ?_
  refine go_newO 10 (cells' := 1) (slots' := 4) (wk G 110) (wk G 13) (wk G 12) (D d16_7) rfl rfl rfl (by decide) (by decide) (fun h1 a2 g3 X4 E5 D6 U7 => ?_)
  refine go_dup 11 (D d16_10) rfl rfl ?_
  refine go_aload_n 12 (D d16_11) rfl rfl rfl ?_
  refine go_iload_n 13 (D d16_12) rfl rfl ?_
  refine go_iload_n 14 (D d16_13) rfl rfl ?_
  refine go_iload_n 15 (D d16_14) rfl rfl ?_
  refine go_iadd 16 (z := (7 : Int32)) (D d16_15) rfl (by decide) ?_
  have K8 : Keep h0 h1 [] := ((Keep.refl h0 []).ext X4)
  have A9 := (p1.keep K8 nin0)
  refine go_old (fun O10 => ?_)
  refine callS0 (cells' := 2) (slots' := 5) (Wd := 2) (argsL := [(.ref t), (.int 6), (.int 7)]) (rest := [(.ref a2), (.ref a2)]) (pay_of (a0 := a0) (c_cor6_7_7 l G t k ((c0).toInt8.toInt32) ((c1).toInt8.toInt32) ((c2).toInt8.toInt32) ((c3).toInt8.toInt32) ((c4).toInt8.toInt32) ((c5).toInt8.toInt32) ((c6).toInt8.toInt32) h1 O10 A9) (wk G 114) (wk G 113)) (wk G 111) (wk G 112) (wk G 113) (wk G 114) pd18 (sz hml) all0 sf00 (D d16_16) (k_v 19 rfl ?_)
  rintro _ h11 ⟨r13, r14, rfl, f15, f16⟩ K12
  refine go_iconst 20 (v := 0) (D d16_19) rfl rfl ?_
  have K17 : Keep h1 h11 [] := ((Keep.refl h1 []).trans K12 all0)
  have E18 := (E5.keep K17)
  have F19 := D6 (Or.inr (wk G 15)) (ty := (.array .byte)) (by decide)
  have F20 := (F19.keep K17 nin0)
  have F21 := D6 (Or.inr (wk G 16)) (ty := .byte) (by decide)
  have F22 := (F21.keep K17 nin0)
  refine go_old (fun O23 => ?_)
  refine callI0 (cells' := 2) (slots' := 5) (Wd := 1) (argsL := [(.ref r13), (.int 0)]) (rest := [(.ref a2)]) (pay_of (a0 := a0) (c_strbb l G a2 r13 h11 O23 E18 (Nat.le_trans O0.2.1 (Nat.le_of_eq g3)) F20 F22) (wk G 131) (wk G 12)) rfl (wk G 129) (wk G 130) (wk G 131) pd19 (sz hml) (allS (Nat.le_trans O0.2.1 (Nat.le_of_eq g3)) all0) (fun _ hal => (sfS safe_nil sf0)) (D d16_20) (k_n 23 rfl ?_)
  rintro  h24 ⟨f26, f27⟩ K25
  have K28 : Keep h0 h11 [] := (K8.trans K12 all0)
  have K29 : Keep h0 h24 [] := (K28.trans K25 (allS (Or.inr (Nat.le_of_eq g3)) all0))
  have E30 := (E18.keep K25)
  have A31 := (f16.keep K25 (ninS (Nat.ne_of_gt (Nat.lt_of_lt_of_le E5.lt f15)) nin0))
  have S32 : Str Z h24 a2 [c6] := ⟨r13, r14, E30, f26, f27, A31, (c8c p8 c8n), Nat.le_of_ble_eq_true rfl⟩
  refine go_areturn hret hlk rfl rfl (D d16_23) (by decide) (by decide) ⟨_, rfl, ⟨a2, rfl, S32⟩⟩ K29
theorem c_sub6_7_7 (G : GH Z a0) (a : Addr) (c0 c1 c2 c3 c4 c5 c6 : Int32) (h0 : Heap) (O0 : Old Z Z.heap.size h0) (p1 : Str Z h0 a [c0, c1, c2, c3, c4, c5, c6]) : Con false [] l Z (⟨"java/lang/String", "substring", "(II)Ljava/lang/String;"⟩ : MethodName) jdk_42_method_92_code 5 (some (.object "java/lang/String")) [] (rm4 4 2 5 64) #[(.ref a), (.int 6), (.int 7)] h0 [] (rvl (Q_sub6_7_7 Z a c0 c1 c2 c3 c4 c5 c6 h0)) := by
  refine conN G (plainFor_of_name pn1) O0 (fun m => ef13 m a (6 : Int32) (7 : Int32)) ?_
  intro _ _ _ m_ _ _ _ D hml hret hlk hnm
  have q1 : C8 c0 := by obtain ⟨_, _, _, _, _, _, q, _⟩ := id p1; exact q _ (by simp)
  have q2 : C8 c1 := by obtain ⟨_, _, _, _, _, _, q, _⟩ := id p1; exact q _ (by simp)
  have q3 : C8 c2 := by obtain ⟨_, _, _, _, _, _, q, _⟩ := id p1; exact q _ (by simp)
  have q4 : C8 c3 := by obtain ⟨_, _, _, _, _, _, q, _⟩ := id p1; exact q _ (by simp)
  have q5 : C8 c4 := by obtain ⟨_, _, _, _, _, _, q, _⟩ := id p1; exact q _ (by simp)
  have q6 : C8 c5 := by obtain ⟨_, _, _, _, _, _, q, _⟩ := id p1; exact q _ (by simp)
  have q7 : C8 c6 := by obtain ⟨_, _, _, _, _, _, q, _⟩ := id p1; exact q _ (by simp)
  refine go_aload_n 1 (D d15_0) rfl rfl rfl ?_
  refine callV0 (cells' := 0) (slots' := 0) (Wd := 0) (argsL := []) (rest := []) (pay_len G O0 (n := (7 : Int32)) p1 rfl (by decide) (by decide)) p1.exa (wk G 95) (wk G 24) (wk G 26) (wk G 26) (wk G 25) pd5 (sz hml) all0 sf00 (D d15_1) (k_v 4 rfl ?_)
  rintro _ _ ⟨rfl, rfl⟩ -
  refine go_istore_n 5 (ls' := #[vr a, vi 6, vi 7, vi 7, un]) (D d15_4) rfl rfl ?_
  refine go_iload_n 6 (D d15_5) rfl rfl ?_
  refine go_iload_n 7 (D d15_6) rfl rfl ?_
  refine go_iload_n 8 (D d15_7) rfl rfl ?_
  refine callS0 (cells' := 0) (slots' := 0) (Wd := 0) (argsL := [(.int 6), (.int 7), (.int 7)]) (rest := []) (pay_of (a0 := a0) (c_cbbe l G (6 : Int32) (7 : Int32) (7 : Int32) h0 O0 (by decide) (by decide) (by decide)) (wk G 103) (wk G 12)) (wk G 101) (wk G 102) (wk G 12) (wk G 103) pd10 (sz hml) all0 sf00 (D d15_8) (k_n 11 rfl ?_)
  rintro  h8 rfl K9
  refine go_iload_n 12 (D d15_11) rfl rfl ?_
  refine go_ifT 22 (D d15_12) (by decide) rfl (by decide) ?_
  refine go_iload_n 23 (D d15_22) rfl rfl ?_
  refine go_iload_n 24 (D d15_23) rfl rfl ?_
  refine go_isub 25 (z := (1 : Int32)) (D d15_24) rfl (by decide) ?_
  refine go_istore 27 (ls' := #[vr a, vi 6, vi 7, vi 7, vi 1]) (D d15_25) rfl rfl ?_
  refine go_aload_n 28 (D d15_27) rfl rfl rfl ?_
  obtain ⟨t10, k11, E12, F13, F14, A15, B16, L17⟩ := id p1
  refine callV0 (cells' := 0) (slots' := 0) (Wd := 0) (argsL := []) (rest := []) (pay_of (a0 := a0) (c_islatin l G a h0 O0 F14) (wk G 45) (wk G 12)) E12 (wk G 41) (wk G 42) (wk G 44) (wk G 44) (wk G 43) pd11 (sz hml) all0 sf00 (D d15_28) (k_v 31 rfl ?_)
  rintro _ h18 ⟨rfl, rfl⟩ K19
  refine go_ifF 34 (D d15_31) rfl (by decide) ?_
  refine go_aload_n 35 (D d15_34) rfl rfl rfl ?_
  refine go_getF 38 (wk G 28) Via.refl F13 (D d15_35) rfl ?_
  refine go_iload_n 39 (D d15_38) rfl rfl ?_
  refine go_iload 41 (D d15_39) rfl rfl ?_
  refine callS0 (cells' := 2) (slots' := 5) (Wd := 0) (argsL := [(.ref t10), (.int 6), (.int 1)]) (rest := []) (pay_of (a0 := a0) (c_news6_1_7 l G t10 k11 c0 c1 c2 c3 c4 c5 c6 h0 O0 A15 q1 q2 q3 q4 q5 q6 q7) (wk G 109) (wk G 48)) (wk G 107) (wk G 108) (wk G 48) (wk G 109) pd12 (sz hml) all0 sf00 (D d15_41) (k_v 44 rfl ?_)
  rintro _ h20 ⟨r22, rfl, f23⟩ K21
  refine go_goto 57 (D d15_44) (by decide) rfl ?_
  have K24 : Keep h0 h20 [] := ((Keep.refl h0 []).trans K21 all0)
  refine go_areturn hret hlk rfl rfl (D d15_57) (by decide) (by decide) ⟨_, rfl, ⟨r22, rfl, f23⟩⟩ K24
theorem c_subi6_7 (G : GH Z a0) (a : Addr) (c0 c1 c2 c3 c4 c5 c6 : Int32) (h0 : Heap) (O0 : Old Z Z.heap.size h0) (p1 : Str Z h0 a [c0, c1, c2, c3, c4, c5, c6]) : Con false [] l Z (⟨"java/lang/String", "substring", "(I)Ljava/lang/String;"⟩ : MethodName) jdk_42_method_91_code 2 (some (.object "java/lang/String")) [] (rm4 5 2 5 80) #[(.ref a), (.int 6)] h0 [] (rvl (Q_subi6_7 Z a c0 c1 c2 c3 c4 c5 c6 h0)) := by
  refine conN G (plainFor_of_name pn1) O0 (fun m => ef12 m a (6 : Int32)) ?_
  intro _ _ _ m_ _ _ _ D hml hret hlk hnm
  have q1 : C8 c0 := by obtain ⟨_, _, _, _, _, _, q, _⟩ := id p1; exact q _ (by simp)
  have q2 : C8 c1 := by obtain ⟨_, _, _, _, _, _, q, _⟩ := id p1; exact q _ (by simp)
  have q3 : C8 c2 := by obtain ⟨_, _, _, _, _, _, q, _⟩ := id p1; exact q _ (by simp)
  have q4 : C8 c3 := by obtain ⟨_, _, _, _, _, _, q, _⟩ := id p1; exact q _ (by simp)
  have q5 : C8 c4 := by obtain ⟨_, _, _, _, _, _, q, _⟩ := id p1; exact q _ (by simp)
  have q6 : C8 c5 := by obtain ⟨_, _, _, _, _, _, q, _⟩ := id p1; exact q _ (by simp)
  have q7 : C8 c6 := by obtain ⟨_, _, _, _, _, _, q, _⟩ := id p1; exact q _ (by simp)
  refine go_aload_n 1 (D d14_0) rfl rfl rfl ?_
  refine go_iload_n 2 (D d14_1) rfl rfl ?_
  refine go_aload_n 3 (D d14_2) rfl rfl rfl ?_
  refine callV0 (cells' := 0) (slots' := 0) (Wd := 2) (argsL := []) (rest := [(.int 6), (.ref a)]) (pay_len G O0 (n := (7 : Int32)) p1 rfl (by decide) (by decide)) p1.exa (wk G 95) (wk G 24) (wk G 26) (wk G 26) (wk G 25) pd5 (sz hml) all0 sf00 (D d14_3) (k_v 6 rfl ?_)
  rintro _ _ ⟨rfl, rfl⟩ -
  refine callV0 (cells' := 2) (slots' := 5) (Wd := 0) (argsL := [(.int 6), (.int 7)]) (rest := []) (pay_of (a0 := a0) (c_sub6_7_7 l G a c0 c1 c2 c3 c4 c5 c6 h0 O0 p1) (wk G 100) (wk G 12)) p1.exa (wk G 96) (wk G 97) (wk G 99) (wk G 99) (wk G 98) pd13 (sz hml) all0 sf00 (D d14_6) (k_v 9 rfl ?_)
  rintro _ h8 ⟨r10, rfl, f11⟩ K9
  have K12 : Keep h0 h8 [] := ((Keep.refl h0 []).trans K9 all0)
  refine go_areturn hret hlk rfl rfl (D d14_9) (by decide) (by decide) ⟨_, rfl, ⟨r10, rfl, f11⟩⟩ K12
theorem c_noun6_7 (G : GH Z a0) (a b : Addr) (p : Addr) (g0 g1 g2 g3 g4 g5 c0 c1 c2 c3 c4 c5 c6 : Int32) (h0 : Heap) (O0 : Old Z Z.heap.size h0) (p1 : Fld Z h0 a "com/example/hew/hew/MethodKind" "prefix" "Ljava/lang/String;" (.ref p)) (p2 : Str Z h0 p [g0, g1, g2, g3, g4, g5]) (p3 : Str Z h0 b [c0, c1, c2, c3, c4, c5, c6]) : Con false [] l Z (⟨"com/example/hew/hew/MethodKind", "noun", "(Ljava/lang/String;)Ljava/lang/String;"⟩ : MethodName) prog_32_method_8_code 2 (some (.object "java/lang/String")) [] (rm4 6 2 5 93) #[(.ref a), (.ref b)] h0 [] (rvl (Q_noun6_7 Z a b p g0 g1 g2 g3 g4 g5 c0 c1 c2 c3 c4 c5 c6 h0)) := by
  refine conN G (plainFor_of_name pn6) O0 (fun m => ef3 m a b) ?_
  intro _ _ _ m_ _ _ _ D hml hret hlk hnm
  refine go_aload_n 1 (D d13_0) rfl rfl rfl ?_
  refine go_aload_n 2 (D d13_1) rfl rfl rfl ?_
  refine go_getF 5 (wk G 87) Via.refl p1 (D d13_2) rfl ?_
  refine callV0 (cells' := 0) (slots' := 0) (Wd := 1) (argsL := []) (rest := [(.ref b)]) (pay_len G O0 (n := (6 : Int32)) p2 rfl (by decide) (by decide)) p2.exa (wk G 89) (wk G 24) (wk G 26) (wk G 26) (wk G 25) pd5 (sz hml) all0 sf00 (D d13_5) (k_v 8 rfl ?_)
  rintro _ _ ⟨rfl, rfl⟩ -
  refine callV0 (cells' := 2) (slots' := 5) (Wd := 0) (argsL := [(.int 6)]) (rest := []) (pay_of (a0 := a0) (c_subi6_7 l G b c0 c1 c2 c3 c4 c5 c6 h0 O0 p3) (wk G 94) (wk G 12)) p3.exa (wk G 90) (wk G 91) (wk G 93) (wk G 93) (wk G 92) pd4 (sz hml) all0 sf00 (D d13_8) (k_v 11 rfl ?_)
  rintro _ h1 ⟨r3, rfl, f4⟩ K2
  have K5 : Keep h0 h1 [] := ((Keep.refl h0 []).trans K2 all0)
  refine go_areturn hret hlk rfl rfl (D d13_11) (by decide) (by decide) ⟨_, rfl, ⟨r3, rfl, f4⟩⟩ K5
def Q_take9_8 (Z : State) (a : Addr) (k : ClassId) (e0 e1 e2 e3 e4 e5 e6 e7 e8 : Int32) (h0 : Heap) (xv : Value) (h : Heap) : Prop := ∃ (r : Addr), (.ref r) = xv ∧ h0.size ≤ r ∧ Str Z h r [e0, e1, e2, e3, e4, e5, e6, e7]
theorem c_take9_8 (G : GH Z a0) (a : Addr) (k : ClassId) (e0 e1 e2 e3 e4 e5 e6 e7 e8 : Int32) (h0 : Heap) (O0 : Old Z Z.heap.size h0) (p1 : Arv Z h0 a k (.char) (9 : Int32) [(.int e0), (.int e1), (.int e2), (.int e3), (.int e4), (.int e5), (.int e6), (.int e7), (.int e8)] (.int 0)) (p2 : C8 e0) (p3 : C8 e1) (p4 : C8 e2) (p5 : C8 e3) (p6 : C8 e4) (p7 : C8 e5) (p8 : C8 e6) (p9 : C8 e7) : Con false [] l Z (⟨"com/example/hew/hew/MethodKindNounPinLaw", "take", "([CI)Ljava/lang/String;"⟩ : MethodName) method_6_code 2 (some (.object "java/lang/String")) [] (rm4 4 3 20 66) #[(.ref a), (.int 8)] h0 [] (rvl (Q_take9_8 Z a k e0 e1 e2 e3 e4 e5 e6 e7 e8 h0)) := by
  refine conN G (plainFor_of_name pn4) O0 (fun m => ef12 m a (8 : Int32)) ?_
  intro _ _ _ m_ _ _ _ D hml hret hlk hnm
  refine go_iload_n 1 (D d12_0) rfl rfl ?_
  refine go_ifT 15 (D d12_1) (by decide) rfl (by decide) ?_
  refine go_iload_n 16 (D d12_15) rfl rfl ?_
  refine go_iconst 17 (v := 1) (D d12_16) rfl rfl ?_
  refine go_icT 37 (D d12_17) (by decide) rfl (by decide) ?_
  refine go_iload_n 38 (D d12_37) rfl rfl ?_
  refine go_iconst 39 (v := 2) (D d12_38) rfl rfl ?_
  refine go_icT 65 (D d12_39) (by decide) rfl (by decide) ?_
  refine go_iload_n 66 (D d12_65) rfl rfl ?_
  refine go_iconst 67 (v := 3) (D d12_66) rfl rfl ?_
  refine go_icT 99 (D d12_67) (by decide) rfl (by decide) ?_
  refine go_iload_n 100 (D d12_99) rfl rfl ?_
  refine go_iconst 101 (v := 4) (D d12_100) rfl rfl ?_
  refine go_icT 139 (D d12_101) (by decide) rfl (by decide) ?_
  refine go_iload_n 140 (D d12_139) rfl rfl ?_
  refine go_iconst 141 (v := 5) (D d12_140) rfl rfl ?_
  refine go_icT 185 (D d12_141) (by decide) rfl (by decide) ?_
  refine go_iload_n 186 (D d12_185) rfl rfl ?_
  refine go_bipush 188 (v := 6) (D d12_186) rfl rfl ?_
  refine go_icT 239 (D d12_188) (by decide) rfl (by decide) ?_
  refine go_iload_n 240 (D d12_239) rfl rfl ?_
  refine go_bipush 242 (v := 7) (D d12_240) rfl rfl ?_
  refine go_icT 301 (D d12_242) (by decide) rfl (by decide) ?_
  refine go_iload_n 302 (D d12_301) rfl rfl ?_
  refine go_bipush 304 (v := 8) (D d12_302) rfl rfl ?_
  refine go_icF 307 (D d12_304) rfl (by decide) ?_
  refine go_newO 310 (cells' := 1) (slots' := 4) (wk G 61) (wk G 13) (wk G 12) (D d12_307) rfl rfl rfl (by decide) (by decide) (fun h1 a2 g3 X4 E5 D6 U7 => ?_)
  refine go_dup 311 (D d12_310) rfl rfl ?_
  refine go_bipush 313 (v := 8) (D d12_311) rfl rfl ?_
  refine go_newP 315 (cells' := 2) (slots' := 12) (cap := 8) (vs := [(.int 0), (.int 0), (.int 0), (.int 0), (.int 0), (.int 0), (.int 0), (.int 0)]) (ty := .char) (dv := .int 0) (wk G 19) rfl rfl (D d12_313) rfl (by decide) rfl (by decide) rfl rfl rfl (by decide) (by decide) (fun h8 a9 k13 g10 X11 A12 => ?_)
  refine go_dup 316 (D d12_315) rfl rfl ?_
  refine go_iconst 317 (v := 0) (D d12_316) rfl rfl ?_
  refine go_aload_n 318 (D d12_317) rfl rfl rfl ?_
  refine go_iconst 319 (v := 0) (D d12_318) rfl rfl ?_
  have K14 : Keep h0 h1 [] := ((Keep.refl h0 []).ext X4)
  have K15 : Keep h0 h8 [] := (K14.ext X11)
  have A16 := (p1.keep K15 nin0)
  refine go_caload 320 (i := 0) (v := (.int e0)) A16 (by decide) (by decide) rfl rfl (D d12_319) rfl ?_
  refine go_stC 321 (i := 0) (x' := e0) (vs' := [(.int e0), (.int 0), (.int 0), (.int 0), (.int 0), (.int 0), (.int 0), (.int 0)]) A12 (Nat.le_trans O0.2.1 (Nat.le_trans K14.1 (Nat.le_of_eq g10))) (by decide) (by decide) rfl (nb rfl) (i2c_c8 p2) rfl (D d12_320) rfl (fun h17 W18 A19 => ?_)
  refine go_dup 322 (D d12_321) rfl rfl ?_
  refine go_iconst 323 (v := 1) (D d12_322) rfl rfl ?_
  refine go_aload_n 324 (D d12_323) rfl rfl rfl ?_
  refine go_iconst 325 (v := 1) (D d12_324) rfl rfl ?_
  have A20 := (A16.other W18 (Nat.ne_of_lt (Nat.lt_of_lt_of_le (Nat.lt_of_lt_of_le p1.lt K14.1) (Nat.le_of_eq g10))))
  refine go_caload 326 (i := 1) (v := (.int e1)) A20 (by decide) (by decide) rfl rfl (D d12_325) rfl ?_
  refine go_stC 327 (i := 1) (x' := e1) (vs' := [(.int e0), (.int e1), (.int 0), (.int 0), (.int 0), (.int 0), (.int 0), (.int 0)]) A19 (Nat.le_trans O0.2.1 (Nat.le_trans K14.1 (Nat.le_of_eq g10))) (by decide) (by decide) rfl (nb rfl) (i2c_c8 p3) rfl (D d12_326) rfl (fun h21 W22 A23 => ?_)
  refine go_dup 328 (D d12_327) rfl rfl ?_
  refine go_iconst 329 (v := 2) (D d12_328) rfl rfl ?_
  refine go_aload_n 330 (D d12_329) rfl rfl rfl ?_
  refine go_iconst 331 (v := 2) (D d12_330) rfl rfl ?_
  have A24 := (A20.other W22 (Nat.ne_of_lt (Nat.lt_of_lt_of_le (Nat.lt_of_lt_of_le p1.lt K14.1) (Nat.le_of_eq g10))))
  refine go_caload 332 (i := 2) (v := (.int e2)) A24 (by decide) (by decide) rfl rfl (D d12_331) rfl ?_
  refine go_stC 333 (i := 2) (x' := e2) (vs' := [(.int e0), (.int e1), (.int e2), (.int 0), (.int 0), (.int 0), (.int 0), (.int 0)]) A23 (Nat.le_trans O0.2.1 (Nat.le_trans K14.1 (Nat.le_of_eq g10))) (by decide) (by decide) rfl (nb rfl) (i2c_c8 p4) rfl (D d12_332) rfl (fun h25 W26 A27 => ?_)
  refine go_dup 334 (D d12_333) rfl rfl ?_
  refine go_iconst 335 (v := 3) (D d12_334) rfl rfl ?_
  refine go_aload_n 336 (D d12_335) rfl rfl rfl ?_
  refine go_iconst 337 (v := 3) (D d12_336) rfl rfl ?_
  have A28 := (A24.other W26 (Nat.ne_of_lt (Nat.lt_of_lt_of_le (Nat.lt_of_lt_of_le p1.lt K14.1) (Nat.le_of_eq g10))))
  refine go_caload 338 (i := 3) (v := (.int e3)) A28 (by decide) (by decide) rfl rfl (D d12_337) rfl ?_
  refine go_stC 339 (i := 3) (x' := e3) (vs' := [(.int e0), (.int e1), (.int e2), (.int e3), (.int 0), (.int 0), (.int 0), (.int 0)]) A27 (Nat.le_trans O0.2.1 (Nat.le_trans K14.1 (Nat.le_of_eq g10))) (by decide) (by decide) rfl (nb rfl) (i2c_c8 p5) rfl (D d12_338) rfl (fun h29 W30 A31 => ?_)
  refine go_dup 340 (D d12_339) rfl rfl ?_
  refine go_iconst 341 (v := 4) (D d12_340) rfl rfl ?_
  refine go_aload_n 342 (D d12_341) rfl rfl rfl ?_
  refine go_iconst 343 (v := 4) (D d12_342) rfl rfl ?_
  have A32 := (A28.other W30 (Nat.ne_of_lt (Nat.lt_of_lt_of_le (Nat.lt_of_lt_of_le p1.lt K14.1) (Nat.le_of_eq g10))))
  refine go_caload 344 (i := 4) (v := (.int e4)) A32 (by decide) (by decide) rfl rfl (D d12_343) rfl ?_
  refine go_stC 345 (i := 4) (x' := e4) (vs' := [(.int e0), (.int e1), (.int e2), (.int e3), (.int e4), (.int 0), (.int 0), (.int 0)]) A31 (Nat.le_trans O0.2.1 (Nat.le_trans K14.1 (Nat.le_of_eq g10))) (by decide) (by decide) rfl (nb rfl) (i2c_c8 p6) rfl (D d12_344) rfl (fun h33 W34 A35 => ?_)
  refine go_dup 346 (D d12_345) rfl rfl ?_
  refine go_iconst 347 (v := 5) (D d12_346) rfl rfl ?_
  refine go_aload_n 348 (D d12_347) rfl rfl rfl ?_
  refine go_iconst 349 (v := 5) (D d12_348) rfl rfl ?_
  have A36 := (A32.other W34 (Nat.ne_of_lt (Nat.lt_of_lt_of_le (Nat.lt_of_lt_of_le p1.lt K14.1) (Nat.le_of_eq g10))))
  refine go_caload 350 (i := 5) (v := (.int e5)) A36 (by decide) (by decide) rfl rfl (D d12_349) rfl ?_
  refine go_stC 351 (i := 5) (x' := e5) (vs' := [(.int e0), (.int e1), (.int e2), (.int e3), (.int e4), (.int e5), (.int 0), (.int 0)]) A35 (Nat.le_trans O0.2.1 (Nat.le_trans K14.1 (Nat.le_of_eq g10))) (by decide) (by decide) rfl (nb rfl) (i2c_c8 p7) rfl (D d12_350) rfl (fun h37 W38 A39 => ?_)
  refine go_dup 352 (D d12_351) rfl rfl ?_
  refine go_bipush 354 (v := 6) (D d12_352) rfl rfl ?_
  refine go_aload_n 355 (D d12_354) rfl rfl rfl ?_
  refine go_bipush 357 (v := 6) (D d12_355) rfl rfl ?_
  have A40 := (A36.other W38 (Nat.ne_of_lt (Nat.lt_of_lt_of_le (Nat.lt_of_lt_of_le p1.lt K14.1) (Nat.le_of_eq g10))))
  refine go_caload 358 (i := 6) (v := (.int e6)) A40 (by decide) (by decide) rfl rfl (D d12_357) rfl ?_
  refine go_stC 359 (i := 6) (x' := e6) (vs' := [(.int e0), (.int e1), (.int e2), (.int e3), (.int e4), (.int e5), (.int e6), (.int 0)]) A39 (Nat.le_trans O0.2.1 (Nat.le_trans K14.1 (Nat.le_of_eq g10))) (by decide) (by decide) rfl (nb rfl) (i2c_c8 p8) rfl (D d12_358) rfl (fun h41 W42 A43 => ?_)
  refine go_dup 360 (D d12_359) rfl rfl ?_
  refine go_bipush 362 (v := 7) (D d12_360) rfl rfl ?_
  refine go_aload_n 363 (D d12_362) rfl rfl rfl ?_
  refine go_bipush 365 (v := 7) (D d12_363) rfl rfl ?_
  have A44 := (A40.other W42 (Nat.ne_of_lt (Nat.lt_of_lt_of_le (Nat.lt_of_lt_of_le p1.lt K14.1) (Nat.le_of_eq g10))))
  refine go_caload 366 (i := 7) (v := (.int e7)) A44 (by decide) (by decide) rfl rfl (D d12_365) rfl ?_
  refine go_stC 367 (i := 7) (x' := e7) (vs' := [(.int e0), (.int e1), (.int e2), (.int e3), (.int e4), (.int e5), (.int e6), (.int e7)]) A43 (Nat.le_trans O0.2.1 (Nat.le_trans K14.1 (Nat.le_of_eq g10))) (by decide) (by decide) rfl (nb rfl) (i2c_c8 p9) rfl (D d12_366) rfl (fun h45 W46 A47 => ?_)
  have K48 : Keep h1 h8 [] := ((Keep.refl h1 []).ext X11)
  have K49 : Keep h1 h17 [] := (K48.wr W18 (Or.inr (Nat.le_of_eq g10)))
  have K50 : Keep h1 h21 [] := (K49.wr W22 (Or.inr (Nat.le_of_eq g10)))
  have K51 : Keep h1 h25 [] := (K50.wr W26 (Or.inr (Nat.le_of_eq g10)))
  have K52 : Keep h1 h29 [] := (K51.wr W30 (Or.inr (Nat.le_of_eq g10)))
  have K53 : Keep h1 h33 [] := (K52.wr W34 (Or.inr (Nat.le_of_eq g10)))
  have K54 : Keep h1 h37 [] := (K53.wr W38 (Or.inr (Nat.le_of_eq g10)))
  have K55 : Keep h1 h41 [] := (K54.wr W42 (Or.inr (Nat.le_of_eq g10)))
  have K56 : Keep h1 h45 [] := (K55.wr W46 (Or.inr (Nat.le_of_eq g10)))
  have E57 := (E5.keep K56)
  have F58 := D6 (Or.inr (wk G 15)) (ty := (.array .byte)) (by decide)
  have F59 := (F58.keep K56 nin0)
  have F60 := D6 (Or.inr (wk G 16)) (ty := .byte) (by decide)
  have F61 := (F60.keep K56 nin0)
  refine go_old (fun O62 => ?_)
  refine callI0 (cells' := 3) (slots' := 20) (Wd := 1) (argsL := [(.ref a9)]) (rest := [(.ref a2)]) (pay_new G O62 (cs := [e0, e1, e2, e3, e4, e5, e6, e7]) (n := 8) (Nat.le_trans O0.2.1 (Nat.le_of_eq g3)) E57 F59 F61 A47 rfl rfl (by decide) (by decide) (c8c p2 (c8c p3 (c8c p4 (c8c p5 (c8c p6 (c8c p7 (c8c p8 (c8c p9 c8n)))))))) (by decide) (by decide)) rfl (wk G 62) (wk G 63) (wk G 64) pd8 (sz hml) (allS (Nat.le_trans O0.2.1 (Nat.le_of_eq g3)) all0) (fun _ hal => (sfS safe_nil sf0)) (D d12_367) (k_n 370 rfl ?_)
  rintro h63 S65 K64
  have K66 : Keep h0 h17 [] := (K15.wr W18 (Or.inr (Nat.le_trans K14.1 (Nat.le_of_eq g10))))
  have K67 : Keep h0 h21 [] := (K66.wr W22 (Or.inr (Nat.le_trans K14.1 (Nat.le_of_eq g10))))
  have K68 : Keep h0 h25 [] := (K67.wr W26 (Or.inr (Nat.le_trans K14.1 (Nat.le_of_eq g10))))
  have K69 : Keep h0 h29 [] := (K68.wr W30 (Or.inr (Nat.le_trans K14.1 (Nat.le_of_eq g10))))
  have K70 : Keep h0 h33 [] := (K69.wr W34 (Or.inr (Nat.le_trans K14.1 (Nat.le_of_eq g10))))
  have K71 : Keep h0 h37 [] := (K70.wr W38 (Or.inr (Nat.le_trans K14.1 (Nat.le_of_eq g10))))
  have K72 : Keep h0 h41 [] := (K71.wr W42 (Or.inr (Nat.le_trans K14.1 (Nat.le_of_eq g10))))
  have K73 : Keep h0 h45 [] := (K72.wr W46 (Or.inr (Nat.le_trans K14.1 (Nat.le_of_eq g10))))
  have K74 : Keep h0 h63 [] := (K73.trans K64 (allS (Or.inr (Nat.le_of_eq g3)) all0))
  refine go_areturn hret hlk rfl rfl (D d12_370) (by decide) (by decide) ⟨_, rfl, ⟨a2, rfl, (Nat.le_of_eq g3), S65⟩⟩ K74
def Q_noun6_8 (Z : State) (a b p : Addr) (g0 g1 g2 g3 g4 g5 c0 c1 c2 c3 c4 c5 c6 c7 : Int32) (h0 : Heap) (xv : Value) (h : Heap) : Prop := ∃ (r : Addr), (.ref r) = xv ∧ Str Z h r [c6, c7]
def Q_subi6_8 (Z : State) (a : Addr) (c0 c1 c2 c3 c4 c5 c6 c7 : Int32) (h0 : Heap) (xv : Value) (h : Heap) : Prop := ∃ (r : Addr), (.ref r) = xv ∧ Str Z h r [c6, c7]
def Q_sub6_8_8 (Z : State) (a : Addr) (c0 c1 c2 c3 c4 c5 c6 c7 : Int32) (h0 : Heap) (xv : Value) (h : Heap) : Prop := ∃ (r : Addr), (.ref r) = xv ∧ Str Z h r [c6, c7]
def Q_news6_2_8 (Z : State) (t : Addr) (k : ClassId) (c0 c1 c2 c3 c4 c5 c6 c7 : Int32) (h0 : Heap) (xv : Value) (h : Heap) : Prop := ∃ (r : Addr), (.ref r) = xv ∧ Str Z h r [c6, c7]
def Q_cor6_8_8 (Z : State) (t : Addr) (k : ClassId) (b0 b1 b2 b3 b4 b5 b6 b7 : Int32) (h0 : Heap) (xv : Value) (h : Heap) : Prop := ∃ (r : Addr) (k2 : ClassId), (.ref r) = xv ∧ h0.size ≤ r ∧ Arv Z h r k2 (.byte) (2 : Int32) [(.int b6), (.int b7)] (.int 0)
def Q_corb6_8_8 (Z : State) (t : Addr) (k : ClassId) (b0 b1 b2 b3 b4 b5 b6 b7 : Int32) (h0 : Heap) (xv : Value) (h : Heap) : Prop := ∃ (r : Addr) (k2 : ClassId), (.ref r) = xv ∧ h0.size ≤ r ∧ Arv Z h r k2 (.byte) (2 : Int32) [(.int b6), (.int b7)] (.int 0)
theorem c_corb6_8_8 (G : GH Z a0) (t : Addr) (k : ClassId) (b0 b1 b2 b3 b4 b5 b6 b7 : Int32) (h0 : Heap) (O0 : Old Z Z.heap.size h0) (p1 : Arv Z h0 t k (.byte) (8 : Int32) [(.int b0), (.int b1), (.int b2), (.int b3), (.int b4), (.int b5), (.int b6), (.int b7)] (.int 0)) : Con false [] l Z (⟨"java/util/Arrays", "copyOfRangeByte", "([BII)[B"⟩ : MethodName) jdk_65_method_133_code 5 (some (.array .byte)) [] (rm4 1 1 2 18) #[(.ref t), (.int 6), (.int 8)] h0 [] (rvl (Q_corb6_8_8 Z t k b0 b1 b2 b3 b4 b5 b6 b7 h0)) := by
  refine conN G (plainFor_of_name pn3) O0 (fun m => ef13 m t (6 : Int32) (8 : Int32)) ?_
  intro _ _ _ m_ _ _ _ D hml hret hlk hnm
  refine go_iload_n 1 (D d18_0) rfl rfl ?_
  refine go_iload_n 2 (D d18_1) rfl rfl ?_
  refine callS0 (cells' := 0) (slots' := 0) (Wd := 0) (argsL := [(.int 6), (.int 8)]) (rest := []) (pay_of (a0 := a0) (c_chkl l G (6 : Int32) (8 : Int32) h0 O0 (by decide)) (wk G 120) (wk G 113)) (wk G 118) (wk G 119) (wk G 113) (wk G 120) pd16 (sz hml) all0 sf00 (D d18_2) (k_n 5 rfl ?_)
  rintro  h1 rfl K2
  refine go_iload_n 6 (D d18_5) rfl rfl ?_
  refine go_iload_n 7 (D d18_6) rfl rfl ?_
  refine go_isub 8 (z := (2 : Int32)) (D d18_7) rfl (by decide) ?_
  refine go_istore_n 9 (ls' := #[vr t, vi 6, vi 8, vi 2, un]) (D d18_8) rfl rfl ?_
  refine go_iload_n 10 (D d18_9) rfl rfl ?_
  refine go_newP 12 (cells' := 1) (slots' := 2) (cap := 2) (vs := [(.int 0), (.int 0)]) (ty := .byte) (dv := .int 0) (wk G 14) rfl rfl (D d18_10) rfl (by decide) rfl (by decide) rfl rfl rfl (by decide) (by decide) (fun h3 a4 k8 g5 X6 A7 => ?_)
  refine go_astore 14 (ls' := #[vr t, vi 6, vi 8, vi 2, vr a4]) (D d18_12) rfl rfl rfl ?_
  refine go_aload_n 15 (D d18_14) rfl rfl rfl ?_
  refine go_iload_n 16 (D d18_15) rfl rfl ?_
  refine go_aload 18 (D d18_16) rfl rfl rfl ?_
  refine go_iconst 19 (v := 0) (D d18_18) rfl rfl ?_
  refine go_aload_n 20 (D d18_19) rfl rfl rfl ?_
  have K9 : Keep h0 h3 [] := ((Keep.refl h0 []).ext X6)
  have A10 := (p1.keep K9 nin0)
  refine go_arraylength 21 A10 (D d18_20) rfl ?_
  refine go_iload_n 22 (D d18_21) rfl rfl ?_
  refine go_isub 23 (z := (2 : Int32)) (D d18_22) rfl (by decide) ?_
  refine go_iload_n 24 (D d18_23) rfl rfl ?_
  refine go_old (fun O11 => ?_)
  refine callS0 (cells' := 1) (slots' := 2) (Wd := 4) (argsL := [(.int 2), (.int 2)]) (rest := [(.int 0), (.ref a4), (.int 6), (.ref t)]) (pay_of (a0 := a0) (c_min2_2 l G  h3 O11 ) (wk G 124) (wk G 123)) (wk G 121) (wk G 122) (wk G 123) (wk G 124) pd17 (sz hml) all0 sf00 (D d18_24) (k_v 27 rfl ?_)
  rintro _ h12 ⟨rfl, rfl⟩ K13
  refine go_acopy 30 (Wd := 0) (vd' := [(.int b6), (.int b7)]) (wk G 125) (wk G 128) (wk G 126) (wk G 127) rfl A10 A7 rfl (by decide) (by decide) (by decide) (nb rfl) (nb rfl) (nb rfl) (Nat.le_trans O0.2.1 (Nat.le_of_eq g5)) rfl (sz hml) (by decide) (by decide) (by decide) (D d18_27) rfl (fun h14 K15 A16 => ?_)
  refine go_aload 32 (D d18_30) rfl rfl rfl ?_
  have K17 : Keep h0 h14 [] := (K9.trans K15 (allS (Or.inr (Nat.le_of_eq g5)) all0))
  refine go_areturn hret hlk rfl rfl (D d18_32) (by decide) (by decide) ⟨_, rfl, ⟨a4, k8, rfl, (Nat.le_of_eq g5), A16⟩⟩ K17
theorem c_cor6_8_8 (G : GH Z a0) (t : Addr) (k : ClassId) (b0 b1 b2 b3 b4 b5 b6 b7 : Int32) (h0 : Heap) (O0 : Old Z Z.heap.size h0) (p1 : Arv Z h0 t k (.byte) (8 : Int32) [(.int b0), (.int b1), (.int b2), (.int b3), (.int b4), (.int b5), (.int b6), (.int b7)] (.int 0)) : Con false [] l Z (⟨"java/util/Arrays", "copyOfRange", "([BII)[B"⟩ : MethodName) jdk_65_method_132_code 3 (some (.array .byte)) [] (rm4 2 1 2 34) #[(.ref t), (.int 6), (.int 8)] h0 [] (rvl (Q_cor6_8_8 Z t k b0 b1 b2 b3 b4 b5 b6 b7 h0)) := by
  refine conN G (plainFor_of_name pn3) O0 (fun m => ef14 m t (6 : Int32) (8 : Int32)) ?_
  intro _ _ _ m_ _ _ _ D hml hret hlk hnm
  refine go_iload_n 1 (D d17_0) rfl rfl ?_
  refine go_ifT 10 (D d17_1) (by decide) rfl (by decide) ?_
  refine go_aload_n 11 (D d17_10) rfl rfl rfl ?_
  refine go_iload_n 12 (D d17_11) rfl rfl ?_
  refine go_iload_n 13 (D d17_12) rfl rfl ?_
  refine callS0 (cells' := 1) (slots' := 2) (Wd := 0) (argsL := [(.ref t), (.int 6), (.int 8)]) (rest := []) (pay_of (a0 := a0) (c_corb6_8_8 l G t k b0 b1 b2 b3 b4 b5 b6 b7 h0 O0 p1) (wk G 117) (wk G 113)) (wk G 115) (wk G 116) (wk G 113) (wk G 117) pd18 (sz hml) all0 sf00 (D d17_13) (k_v 16 rfl ?_)
  rintro _ h1 ⟨r3, r4, rfl, f5, f6⟩ K2
  have K7 : Keep h0 h1 [] := ((Keep.refl h0 []).trans K2 all0)
  refine go_areturn hret hlk rfl rfl (D d17_16) (by decide) (by decide) ⟨_, rfl, ⟨r3, r4, rfl, f5, f6⟩⟩ K7
theorem c_news6_2_8 (G : GH Z a0) (t : Addr) (k : ClassId) (c0 c1 c2 c3 c4 c5 c6 c7 : Int32) (h0 : Heap) (O0 : Old Z Z.heap.size h0) (p1 : Arv Z h0 t k (.byte) (8 : Int32) [(.int (c0).toInt8.toInt32), (.int (c1).toInt8.toInt32), (.int (c2).toInt8.toInt32), (.int (c3).toInt8.toInt32), (.int (c4).toInt8.toInt32), (.int (c5).toInt8.toInt32), (.int (c6).toInt8.toInt32), (.int (c7).toInt8.toInt32)] (.int 0)) (p2 : C8 c0) (p3 : C8 c1) (p4 : C8 c2) (p5 : C8 c3) (p6 : C8 c4) (p7 : C8 c5) (p8 : C8 c6) (p9 : C8 c7) : Con false [] l Z (⟨"java/lang/StringLatin1", "newString", "([BII)Ljava/lang/String;"⟩ : MethodName) jdk_43_method_47_code 3 (some (.object "java/lang/String")) [] (rm4 3 2 6 50) #[(.ref t), (.int 6), (.int 2)] h0 [] (rvl (Q_news6_2_8 Z t k c0 c1 c2 c3 c4 c5 c6 c7 h0)) := by
  refine conN G (plainFor_of_name pn5) O0 (fun m => ef14 m t (6 : Int32) (2 : Int32)) ?_
  intro _ _ _ m_ _ _ _ D hml hret hlk hnm
  refine go_iload_n 1 (D d16_0) rfl rfl ?_
  refine go_ifT 7 (D d16_1) (by decide) rfl (by decide) ?_
  refine go_newO 10 (cells' := 1) (slots' := 4) (wk G 110) (wk G 13) (wk G 12) (D d16_7) rfl rfl rfl (by decide) (by decide) (fun h1 a2 g3 X4 E5 D6 U7 => ?_)
  refine go_dup 11 (D d16_10) rfl rfl ?_
  refine go_aload_n 12 (D d16_11) rfl rfl rfl ?_
  refine go_iload_n 13 (D d16_12) rfl rfl ?_
  refine go_iload_n 14 (D d16_13) rfl rfl ?_
  refine go_iload_n 15 (D d16_14) rfl rfl ?_
  refine go_iadd 16 (z := (8 : Int32)) (D d16_15) rfl (by decide) ?_
  have K8 : Keep h0 h1 [] := ((Keep.refl h0 []).ext X4)
  have A9 := (p1.keep K8 nin0)
  refine go_old (fun O10 => ?_)
  refine callS0 (cells' := 2) (slots' := 6) (Wd := 2) (argsL := [(.ref t), (.int 6), (.int 8)]) (rest := [(.ref a2), (.ref a2)]) (pay_of (a0 := a0) (c_cor6_8_8 l G t k ((c0).toInt8.toInt32) ((c1).toInt8.toInt32) ((c2).toInt8.toInt32) ((c3).toInt8.toInt32) ((c4).toInt8.toInt32) ((c5).toInt8.toInt32) ((c6).toInt8.toInt32) ((c7).toInt8.toInt32) h1 O10 A9) (wk G 114) (wk G 113)) (wk G 111) (wk G 112) (wk G 113) (wk G 114) pd18 (sz hml) all0 sf00 (D d16_16) (k_v 19 rfl ?_)
  rintro _ h11 ⟨r13, r14, rfl, f15, f16⟩ K12
  refine go_iconst 20 (v := 0) (D d16_19) rfl rfl ?_
  have K17 : Keep h1 h11 [] := ((Keep.refl h1 []).trans K12 all0)
  have E18 := (E5.keep K17)
  have F19 := D6 (Or.inr (wk G 15)) (ty := (.array .byte)) (by decide)
  have F20 := (F19.keep K17 nin0)
  have F21 := D6 (Or.inr (wk G 16)) (ty := .byte) (by decide)
  have F22 := (F21.keep K17 nin0)
  refine go_old (fun O23 => ?_)
  refine callI0 (cells' := 2) (slots' := 6) (Wd := 1) (argsL := [(.ref r13), (.int 0)]) (rest := [(.ref a2)]) (pay_of (a0 := a0) (c_strbb l G a2 r13 h11 O23 E18 (Nat.le_trans O0.2.1 (Nat.le_of_eq g3)) F20 F22) (wk G 131) (wk G 12)) rfl (wk G 129) (wk G 130) (wk G 131) pd19 (sz hml) (allS (Nat.le_trans O0.2.1 (Nat.le_of_eq g3)) all0) (fun _ hal => (sfS safe_nil sf0)) (D d16_20) (k_n 23 rfl ?_)
  rintro  h24 ⟨f26, f27⟩ K25
  have K28 : Keep h0 h11 [] := (K8.trans K12 all0)
  have K29 : Keep h0 h24 [] := (K28.trans K25 (allS (Or.inr (Nat.le_of_eq g3)) all0))
  have E30 := (E18.keep K25)
  have A31 := (f16.keep K25 (ninS (Nat.ne_of_gt (Nat.lt_of_lt_of_le E5.lt f15)) nin0))
  have S32 : Str Z h24 a2 [c6, c7] := ⟨r13, r14, E30, f26, f27, A31, (c8c p8 (c8c p9 c8n)), Nat.le_of_ble_eq_true rfl⟩
  refine go_areturn hret hlk rfl rfl (D d16_23) (by decide) (by decide) ⟨_, rfl, ⟨a2, rfl, S32⟩⟩ K29
theorem c_sub6_8_8 (G : GH Z a0) (a : Addr) (c0 c1 c2 c3 c4 c5 c6 c7 : Int32) (h0 : Heap) (O0 : Old Z Z.heap.size h0) (p1 : Str Z h0 a [c0, c1, c2, c3, c4, c5, c6, c7]) : Con false [] l Z (⟨"java/lang/String", "substring", "(II)Ljava/lang/String;"⟩ : MethodName) jdk_42_method_92_code 5 (some (.object "java/lang/String")) [] (rm4 4 2 6 64) #[(.ref a), (.int 6), (.int 8)] h0 [] (rvl (Q_sub6_8_8 Z a c0 c1 c2 c3 c4 c5 c6 c7 h0)) := by
  refine conN G (plainFor_of_name pn1) O0 (fun m => ef13 m a (6 : Int32) (8 : Int32)) ?_
  intro _ _ _ m_ _ _ _ D hml hret hlk hnm
  have q1 : C8 c0 := by obtain ⟨_, _, _, _, _, _, q, _⟩ := id p1; exact q _ (by simp)
  have q2 : C8 c1 := by obtain ⟨_, _, _, _, _, _, q, _⟩ := id p1; exact q _ (by simp)
  have q3 : C8 c2 := by obtain ⟨_, _, _, _, _, _, q, _⟩ := id p1; exact q _ (by simp)
  have q4 : C8 c3 := by obtain ⟨_, _, _, _, _, _, q, _⟩ := id p1; exact q _ (by simp)
  have q5 : C8 c4 := by obtain ⟨_, _, _, _, _, _, q, _⟩ := id p1; exact q _ (by simp)
  have q6 : C8 c5 := by obtain ⟨_, _, _, _, _, _, q, _⟩ := id p1; exact q _ (by simp)
  have q7 : C8 c6 := by obtain ⟨_, _, _, _, _, _, q, _⟩ := id p1; exact q _ (by simp)
  have q8 : C8 c7 := by obtain ⟨_, _, _, _, _, _, q, _⟩ := id p1; exact q _ (by simp)
  refine go_aload_n 1 (D d15_0) rfl rfl rfl ?_
  refine callV0 (cells' := 0) (slots' := 0) (Wd := 0) (argsL := []) (rest := []) (pay_len G O0 (n := (8 : Int32)) p1 rfl (by decide) (by decide)) p1.exa (wk G 95) (wk G 24) (wk G 26) (wk G 26) (wk G 25) pd5 (sz hml) all0 sf00 (D d15_1) (k_v 4 rfl ?_)
  rintro _ _ ⟨rfl, rfl⟩ -
  refine go_istore_n 5 (ls' := #[vr a, vi 6, vi 8, vi 8, un]) (D d15_4) rfl rfl ?_
  refine go_iload_n 6 (D d15_5) rfl rfl ?_
  refine go_iload_n 7 (D d15_6) rfl rfl ?_
  refine go_iload_n 8 (D d15_7) rfl rfl ?_
  refine callS0 (cells' := 0) (slots' := 0) (Wd := 0) (argsL := [(.int 6), (.int 8), (.int 8)]) (rest := []) (pay_of (a0 := a0) (c_cbbe l G (6 : Int32) (8 : Int32) (8 : Int32) h0 O0 (by decide) (by decide) (by decide)) (wk G 103) (wk G 12)) (wk G 101) (wk G 102) (wk G 12) (wk G 103) pd10 (sz hml) all0 sf00 (D d15_8) (k_n 11 rfl ?_)
  rintro  h9 rfl K10
  refine go_iload_n 12 (D d15_11) rfl rfl ?_
  refine go_ifT 22 (D d15_12) (by decide) rfl (by decide) ?_
  refine go_iload_n 23 (D d15_22) rfl rfl ?_
  refine go_iload_n 24 (D d15_23) rfl rfl ?_
  refine go_isub 25 (z := (2 : Int32)) (D d15_24) rfl (by decide) ?_
  refine go_istore 27 (ls' := #[vr a, vi 6, vi 8, vi 8, vi 2]) (D d15_25) rfl rfl ?_
  refine go_aload_n 28 (D d15_27) rfl rfl rfl ?_
  obtain ⟨t11, k12, E13, F14, F15, A16, B17, L18⟩ := id p1
  refine callV0 (cells' := 0) (slots' := 0) (Wd := 0) (argsL := []) (rest := []) (pay_of (a0 := a0) (c_islatin l G a h0 O0 F15) (wk G 45) (wk G 12)) E13 (wk G 41) (wk G 42) (wk G 44) (wk G 44) (wk G 43) pd11 (sz hml) all0 sf00 (D d15_28) (k_v 31 rfl ?_)
  rintro _ h19 ⟨rfl, rfl⟩ K20
  refine go_ifF 34 (D d15_31) rfl (by decide) ?_
  refine go_aload_n 35 (D d15_34) rfl rfl rfl ?_
  refine go_getF 38 (wk G 28) Via.refl F14 (D d15_35) rfl ?_
  refine go_iload_n 39 (D d15_38) rfl rfl ?_
  refine go_iload 41 (D d15_39) rfl rfl ?_
  refine callS0 (cells' := 2) (slots' := 6) (Wd := 0) (argsL := [(.ref t11), (.int 6), (.int 2)]) (rest := []) (pay_of (a0 := a0) (c_news6_2_8 l G t11 k12 c0 c1 c2 c3 c4 c5 c6 c7 h0 O0 A16 q1 q2 q3 q4 q5 q6 q7 q8) (wk G 109) (wk G 48)) (wk G 107) (wk G 108) (wk G 48) (wk G 109) pd12 (sz hml) all0 sf00 (D d15_41) (k_v 44 rfl ?_)
  rintro _ h21 ⟨r23, rfl, f24⟩ K22
  refine go_goto 57 (D d15_44) (by decide) rfl ?_
  have K25 : Keep h0 h21 [] := ((Keep.refl h0 []).trans K22 all0)
  refine go_areturn hret hlk rfl rfl (D d15_57) (by decide) (by decide) ⟨_, rfl, ⟨r23, rfl, f24⟩⟩ K25
theorem c_subi6_8 (G : GH Z a0) (a : Addr) (c0 c1 c2 c3 c4 c5 c6 c7 : Int32) (h0 : Heap) (O0 : Old Z Z.heap.size h0) (p1 : Str Z h0 a [c0, c1, c2, c3, c4, c5, c6, c7]) : Con false [] l Z (⟨"java/lang/String", "substring", "(I)Ljava/lang/String;"⟩ : MethodName) jdk_42_method_91_code 2 (some (.object "java/lang/String")) [] (rm4 5 2 6 80) #[(.ref a), (.int 6)] h0 [] (rvl (Q_subi6_8 Z a c0 c1 c2 c3 c4 c5 c6 c7 h0)) := by
  refine conN G (plainFor_of_name pn1) O0 (fun m => ef12 m a (6 : Int32)) ?_
  intro _ _ _ m_ _ _ _ D hml hret hlk hnm
  have q1 : C8 c0 := by obtain ⟨_, _, _, _, _, _, q, _⟩ := id p1; exact q _ (by simp)
  have q2 : C8 c1 := by obtain ⟨_, _, _, _, _, _, q, _⟩ := id p1; exact q _ (by simp)
  have q3 : C8 c2 := by obtain ⟨_, _, _, _, _, _, q, _⟩ := id p1; exact q _ (by simp)
  have q4 : C8 c3 := by obtain ⟨_, _, _, _, _, _, q, _⟩ := id p1; exact q _ (by simp)
  have q5 : C8 c4 := by obtain ⟨_, _, _, _, _, _, q, _⟩ := id p1; exact q _ (by simp)
  have q6 : C8 c5 := by obtain ⟨_, _, _, _, _, _, q, _⟩ := id p1; exact q _ (by simp)
  have q7 : C8 c6 := by obtain ⟨_, _, _, _, _, _, q, _⟩ := id p1; exact q _ (by simp)
  have q8 : C8 c7 := by obtain ⟨_, _, _, _, _, _, q, _⟩ := id p1; exact q _ (by simp)
  refine go_aload_n 1 (D d14_0) rfl rfl rfl ?_
  refine go_iload_n 2 (D d14_1) rfl rfl ?_
  refine go_aload_n 3 (D d14_2) rfl rfl rfl ?_
  refine callV0 (cells' := 0) (slots' := 0) (Wd := 2) (argsL := []) (rest := [(.int 6), (.ref a)]) (pay_len G O0 (n := (8 : Int32)) p1 rfl (by decide) (by decide)) p1.exa (wk G 95) (wk G 24) (wk G 26) (wk G 26) (wk G 25) pd5 (sz hml) all0 sf00 (D d14_3) (k_v 6 rfl ?_)
  rintro _ _ ⟨rfl, rfl⟩ -
  refine callV0 (cells' := 2) (slots' := 6) (Wd := 0) (argsL := [(.int 6), (.int 8)]) (rest := []) (pay_of (a0 := a0) (c_sub6_8_8 l G a c0 c1 c2 c3 c4 c5 c6 c7 h0 O0 p1) (wk G 100) (wk G 12)) p1.exa (wk G 96) (wk G 97) (wk G 99) (wk G 99) (wk G 98) pd13 (sz hml) all0 sf00 (D d14_6) (k_v 9 rfl ?_)
  rintro _ h9 ⟨r11, rfl, f12⟩ K10
  have K13 : Keep h0 h9 [] := ((Keep.refl h0 []).trans K10 all0)
  refine go_areturn hret hlk rfl rfl (D d14_9) (by decide) (by decide) ⟨_, rfl, ⟨r11, rfl, f12⟩⟩ K13
theorem c_noun6_8 (G : GH Z a0) (a b : Addr) (p : Addr) (g0 g1 g2 g3 g4 g5 c0 c1 c2 c3 c4 c5 c6 c7 : Int32) (h0 : Heap) (O0 : Old Z Z.heap.size h0) (p1 : Fld Z h0 a "com/example/hew/hew/MethodKind" "prefix" "Ljava/lang/String;" (.ref p)) (p2 : Str Z h0 p [g0, g1, g2, g3, g4, g5]) (p3 : Str Z h0 b [c0, c1, c2, c3, c4, c5, c6, c7]) : Con false [] l Z (⟨"com/example/hew/hew/MethodKind", "noun", "(Ljava/lang/String;)Ljava/lang/String;"⟩ : MethodName) prog_32_method_8_code 2 (some (.object "java/lang/String")) [] (rm4 6 2 6 93) #[(.ref a), (.ref b)] h0 [] (rvl (Q_noun6_8 Z a b p g0 g1 g2 g3 g4 g5 c0 c1 c2 c3 c4 c5 c6 c7 h0)) := by
  refine conN G (plainFor_of_name pn6) O0 (fun m => ef3 m a b) ?_
  intro _ _ _ m_ _ _ _ D hml hret hlk hnm
  refine go_aload_n 1 (D d13_0) rfl rfl rfl ?_
  refine go_aload_n 2 (D d13_1) rfl rfl rfl ?_
  refine go_getF 5 (wk G 87) Via.refl p1 (D d13_2) rfl ?_
  refine callV0 (cells' := 0) (slots' := 0) (Wd := 1) (argsL := []) (rest := [(.ref b)]) (pay_len G O0 (n := (6 : Int32)) p2 rfl (by decide) (by decide)) p2.exa (wk G 89) (wk G 24) (wk G 26) (wk G 26) (wk G 25) pd5 (sz hml) all0 sf00 (D d13_5) (k_v 8 rfl ?_)
  rintro _ _ ⟨rfl, rfl⟩ -
  refine callV0 (cells' := 2) (slots' := 6) (Wd := 0) (argsL := [(.int 6)]) (rest := []) (pay_of (a0 := a0) (c_subi6_8 l G b c0 c1 c2 c3 c4 c5 c6 c7 h0 O0 p3) (wk G 94) (wk G 12)) p3.exa (wk G 90) (wk G 91) (wk G 93) (wk G 93) (wk G 92) pd4 (sz hml) all0 sf00 (D d13_8) (k_v 11 rfl ?_)
  rintro _ h1 ⟨r3, rfl, f4⟩ K2
  have K5 : Keep h0 h1 [] := ((Keep.refl h0 []).trans K2 all0)
  refine go_areturn hret hlk rfl rfl (D d13_11) (by decide) (by decide) ⟨_, rfl, ⟨r3, rfl, f4⟩⟩ K5
def Q_take9_9 (Z : State) (a : Addr) (k : ClassId) (e0 e1 e2 e3 e4 e5 e6 e7 e8 : Int32) (h0 : Heap) (xv : Value) (h : Heap) : Prop := ∃ (r : Addr), (.ref r) = xv ∧ h0.size ≤ r ∧ Str Z h r [e0, e1, e2, e3, e4, e5, e6, e7, e8]
theorem c_take9_9 (G : GH Z a0) (a : Addr) (k : ClassId) (e0 e1 e2 e3 e4 e5 e6 e7 e8 : Int32) (h0 : Heap) (O0 : Old Z Z.heap.size h0) (p1 : Arv Z h0 a k (.char) (9 : Int32) [(.int e0), (.int e1), (.int e2), (.int e3), (.int e4), (.int e5), (.int e6), (.int e7), (.int e8)] (.int 0)) (p2 : C8 e0) (p3 : C8 e1) (p4 : C8 e2) (p5 : C8 e3) (p6 : C8 e4) (p7 : C8 e5) (p8 : C8 e6) (p9 : C8 e7) (p10 : C8 e8) : Con false [] l Z (⟨"com/example/hew/hew/MethodKindNounPinLaw", "take", "([CI)Ljava/lang/String;"⟩ : MethodName) method_6_code 2 (some (.object "java/lang/String")) [] (rm4 4 3 22 66) #[(.ref a), (.int 9)] h0 [] (rvl (Q_take9_9 Z a k e0 e1 e2 e3 e4 e5 e6 e7 e8 h0)) := by
  refine conN G (plainFor_of_name pn4) O0 (fun m => ef12 m a (9 : Int32)) ?_
  intro _ _ _ m_ _ _ _ D hml hret hlk hnm
  refine go_iload_n 1 (D d12_0) rfl rfl ?_
  refine go_ifT 15 (D d12_1) (by decide) rfl (by decide) ?_
  refine go_iload_n 16 (D d12_15) rfl rfl ?_
  refine go_iconst 17 (v := 1) (D d12_16) rfl rfl ?_
  refine go_icT 37 (D d12_17) (by decide) rfl (by decide) ?_
  refine go_iload_n 38 (D d12_37) rfl rfl ?_
  refine go_iconst 39 (v := 2) (D d12_38) rfl rfl ?_
  refine go_icT 65 (D d12_39) (by decide) rfl (by decide) ?_
  refine go_iload_n 66 (D d12_65) rfl rfl ?_
  refine go_iconst 67 (v := 3) (D d12_66) rfl rfl ?_
  refine go_icT 99 (D d12_67) (by decide) rfl (by decide) ?_
  refine go_iload_n 100 (D d12_99) rfl rfl ?_
  refine go_iconst 101 (v := 4) (D d12_100) rfl rfl ?_
  refine go_icT 139 (D d12_101) (by decide) rfl (by decide) ?_
  refine go_iload_n 140 (D d12_139) rfl rfl ?_
  refine go_iconst 141 (v := 5) (D d12_140) rfl rfl ?_
  refine go_icT 185 (D d12_141) (by decide) rfl (by decide) ?_
  refine go_iload_n 186 (D d12_185) rfl rfl ?_
  refine go_bipush 188 (v := 6) (D d12_186) rfl rfl ?_
  refine go_icT 239 (D d12_188) (by decide) rfl (by decide) ?_
  refine go_iload_n 240 (D d12_239) rfl rfl ?_
  refine go_bipush 242 (v := 7) (D d12_240) rfl rfl ?_
  refine go_icT 301 (D d12_242) (by decide) rfl (by decide) ?_
  refine go_iload_n 302 (D d12_301) rfl rfl ?_
  refine go_bipush 304 (v := 8) (D d12_302) rfl rfl ?_
  refine go_icT 371 (D d12_304) (by decide) rfl (by decide) ?_
  refine go_newO 374 (cells' := 1) (slots' := 4) (wk G 61) (wk G 13) (wk G 12) (D d12_371) rfl rfl rfl (by decide) (by decide) (fun h1 a2 g3 X4 E5 D6 U7 => ?_)
  refine go_dup 375 (D d12_374) rfl rfl ?_
  refine go_bipush 377 (v := 9) (D d12_375) rfl rfl ?_
  refine go_newP 379 (cells' := 2) (slots' := 13) (cap := 9) (vs := [(.int 0), (.int 0), (.int 0), (.int 0), (.int 0), (.int 0), (.int 0), (.int 0), (.int 0)]) (ty := .char) (dv := .int 0) (wk G 19) rfl rfl (D d12_377) rfl (by decide) rfl (by decide) rfl rfl rfl (by decide) (by decide) (fun h8 a9 k13 g10 X11 A12 => ?_)
  refine go_dup 380 (D d12_379) rfl rfl ?_
  refine go_iconst 381 (v := 0) (D d12_380) rfl rfl ?_
  refine go_aload_n 382 (D d12_381) rfl rfl rfl ?_
  refine go_iconst 383 (v := 0) (D d12_382) rfl rfl ?_
  have K14 : Keep h0 h1 [] := ((Keep.refl h0 []).ext X4)
  have K15 : Keep h0 h8 [] := (K14.ext X11)
  have A16 := (p1.keep K15 nin0)
  refine go_caload 384 (i := 0) (v := (.int e0)) A16 (by decide) (by decide) rfl rfl (D d12_383) rfl ?_
  refine go_stC 385 (i := 0) (x' := e0) (vs' := [(.int e0), (.int 0), (.int 0), (.int 0), (.int 0), (.int 0), (.int 0), (.int 0), (.int 0)]) A12 (Nat.le_trans O0.2.1 (Nat.le_trans K14.1 (Nat.le_of_eq g10))) (by decide) (by decide) rfl (nb rfl) (i2c_c8 p2) rfl (D d12_384) rfl (fun h17 W18 A19 => ?_)
  refine go_dup 386 (D d12_385) rfl rfl ?_
  refine go_iconst 387 (v := 1) (D d12_386) rfl rfl ?_
  refine go_aload_n 388 (D d12_387) rfl rfl rfl ?_
  refine go_iconst 389 (v := 1) (D d12_388) rfl rfl ?_
  have A20 := (A16.other W18 (Nat.ne_of_lt (Nat.lt_of_lt_of_le (Nat.lt_of_lt_of_le p1.lt K14.1) (Nat.le_of_eq g10))))
  refine go_caload 390 (i := 1) (v := (.int e1)) A20 (by decide) (by decide) rfl rfl (D d12_389) rfl ?_
  refine go_stC 391 (i := 1) (x' := e1) (vs' := [(.int e0), (.int e1), (.int 0), (.int 0), (.int 0), (.int 0), (.int 0), (.int 0), (.int 0)]) A19 (Nat.le_trans O0.2.1 (Nat.le_trans K14.1 (Nat.le_of_eq g10))) (by decide) (by decide) rfl (nb rfl) (i2c_c8 p3) rfl (D d12_390) rfl (fun h21 W22 A23 => ?_)
  refine go_dup 392 (D d12_391) rfl rfl ?_
  refine go_iconst 393 (v := 2) (D d12_392) rfl rfl ?_
  refine go_aload_n 394 (D d12_393) rfl rfl rfl ?_
  refine go_iconst 395 (v := 2) (D d12_394) rfl rfl ?_
  have A24 := (A20.other W22 (Nat.ne_of_lt (Nat.lt_of_lt_of_le (Nat.lt_of_lt_of_le p1.lt K14.1) (Nat.le_of_eq g10))))
  refine go_caload 396 (i := 2) (v := (.int e2)) A24 (by decide) (by decide) rfl rfl (D d12_395) rfl ?_
  refine go_stC 397 (i := 2) (x' := e2) (vs' := [(.int e0), (.int e1), (.int e2), (.int 0), (.int 0), (.int 0), (.int 0), (.int 0), (.int 0)]) A23 (Nat.le_trans O0.2.1 (Nat.le_trans K14.1 (Nat.le_of_eq g10))) (by decide) (by decide) rfl (nb rfl) (i2c_c8 p4) rfl (D d12_396) rfl (fun h25 W26 A27 => ?_)
  refine go_dup 398 (D d12_397) rfl rfl ?_
  refine go_iconst 399 (v := 3) (D d12_398) rfl rfl ?_
  refine go_aload_n 400 (D d12_399) rfl rfl rfl ?_
  refine go_iconst 401 (v := 3) (D d12_400) rfl rfl ?_
  have A28 := (A24.other W26 (Nat.ne_of_lt (Nat.lt_of_lt_of_le (Nat.lt_of_lt_of_le p1.lt K14.1) (Nat.le_of_eq g10))))
  refine go_caload 402 (i := 3) (v := (.int e3)) A28 (by decide) (by decide) rfl rfl (D d12_401) rfl ?_
  refine go_stC 403 (i := 3) (x' := e3) (vs' := [(.int e0), (.int e1), (.int e2), (.int e3), (.int 0), (.int 0), (.int 0), (.int 0), (.int 0)]) A27 (Nat.le_trans O0.2.1 (Nat.le_trans K14.1 (Nat.le_of_eq g10))) (by decide) (by decide) rfl (nb rfl) (i2c_c8 p5) rfl (D d12_402) rfl (fun h29 W30 A31 => ?_)
  refine go_dup 404 (D d12_403) rfl rfl ?_
  refine go_iconst 405 (v := 4) (D d12_404) rfl rfl ?_
  refine go_aload_n 406 (D d12_405) rfl rfl rfl ?_
  refine go_iconst 407 (v := 4) (D d12_406) rfl rfl ?_
  have A32 := (A28.other W30 (Nat.ne_of_lt (Nat.lt_of_lt_of_le (Nat.lt_of_lt_of_le p1.lt K14.1) (Nat.le_of_eq g10))))
  refine go_caload 408 (i := 4) (v := (.int e4)) A32 (by decide) (by decide) rfl rfl (D d12_407) rfl ?_
  refine go_stC 409 (i := 4) (x' := e4) (vs' := [(.int e0), (.int e1), (.int e2), (.int e3), (.int e4), (.int 0), (.int 0), (.int 0), (.int 0)]) A31 (Nat.le_trans O0.2.1 (Nat.le_trans K14.1 (Nat.le_of_eq g10))) (by decide) (by decide) rfl (nb rfl) (i2c_c8 p6) rfl (D d12_408) rfl (fun h33 W34 A35 => ?_)
  refine go_dup 410 (D d12_409) rfl rfl ?_
  refine go_iconst 411 (v := 5) (D d12_410) rfl rfl ?_
  refine go_aload_n 412 (D d12_411) rfl rfl rfl ?_
  refine go_iconst 413 (v := 5) (D d12_412) rfl rfl ?_
  have A36 := (A32.other W34 (Nat.ne_of_lt (Nat.lt_of_lt_of_le (Nat.lt_of_lt_of_le p1.lt K14.1) (Nat.le_of_eq g10))))
  refine go_caload 414 (i := 5) (v := (.int e5)) A36 (by decide) (by decide) rfl rfl (D d12_413) rfl ?_
  refine go_stC 415 (i := 5) (x' := e5) (vs' := [(.int e0), (.int e1), (.int e2), (.int e3), (.int e4), (.int e5), (.int 0), (.int 0), (.int 0)]) A35 (Nat.le_trans O0.2.1 (Nat.le_trans K14.1 (Nat.le_of_eq g10))) (by decide) (by decide) rfl (nb rfl) (i2c_c8 p7) rfl (D d12_414) rfl (fun h37 W38 A39 => ?_)
  refine go_dup 416 (D d12_415) rfl rfl ?_
  refine go_bipush 418 (v := 6) (D d12_416) rfl rfl ?_
  refine go_aload_n 419 (D d12_418) rfl rfl rfl ?_
  refine go_bipush 421 (v := 6) (D d12_419) rfl rfl ?_
  have A40 := (A36.other W38 (Nat.ne_of_lt (Nat.lt_of_lt_of_le (Nat.lt_of_lt_of_le p1.lt K14.1) (Nat.le_of_eq g10))))
  refine go_caload 422 (i := 6) (v := (.int e6)) A40 (by decide) (by decide) rfl rfl (D d12_421) rfl ?_
  refine go_stC 423 (i := 6) (x' := e6) (vs' := [(.int e0), (.int e1), (.int e2), (.int e3), (.int e4), (.int e5), (.int e6), (.int 0), (.int 0)]) A39 (Nat.le_trans O0.2.1 (Nat.le_trans K14.1 (Nat.le_of_eq g10))) (by decide) (by decide) rfl (nb rfl) (i2c_c8 p8) rfl (D d12_422) rfl (fun h41 W42 A43 => ?_)
  refine go_dup 424 (D d12_423) rfl rfl ?_
  refine go_bipush 426 (v := 7) (D d12_424) rfl rfl ?_
  refine go_aload_n 427 (D d12_426) rfl rfl rfl ?_
  refine go_bipush 429 (v := 7) (D d12_427) rfl rfl ?_
  have A44 := (A40.other W42 (Nat.ne_of_lt (Nat.lt_of_lt_of_le (Nat.lt_of_lt_of_le p1.lt K14.1) (Nat.le_of_eq g10))))
  refine go_caload 430 (i := 7) (v := (.int e7)) A44 (by decide) (by decide) rfl rfl (D d12_429) rfl ?_
  refine go_stC 431 (i := 7) (x' := e7) (vs' := [(.int e0), (.int e1), (.int e2), (.int e3), (.int e4), (.int e5), (.int e6), (.int e7), (.int 0)]) A43 (Nat.le_trans O0.2.1 (Nat.le_trans K14.1 (Nat.le_of_eq g10))) (by decide) (by decide) rfl (nb rfl) (i2c_c8 p9) rfl (D d12_430) rfl (fun h45 W46 A47 => ?_)
  refine go_dup 432 (D d12_431) rfl rfl ?_
  refine go_bipush 434 (v := 8) (D d12_432) rfl rfl ?_
  refine go_aload_n 435 (D d12_434) rfl rfl rfl ?_
  refine go_bipush 437 (v := 8) (D d12_435) rfl rfl ?_
  have A48 := (A44.other W46 (Nat.ne_of_lt (Nat.lt_of_lt_of_le (Nat.lt_of_lt_of_le p1.lt K14.1) (Nat.le_of_eq g10))))
  refine go_caload 438 (i := 8) (v := (.int e8)) A48 (by decide) (by decide) rfl rfl (D d12_437) rfl ?_
  refine go_stC 439 (i := 8) (x' := e8) (vs' := [(.int e0), (.int e1), (.int e2), (.int e3), (.int e4), (.int e5), (.int e6), (.int e7), (.int e8)]) A47 (Nat.le_trans O0.2.1 (Nat.le_trans K14.1 (Nat.le_of_eq g10))) (by decide) (by decide) rfl (nb rfl) (i2c_c8 p10) rfl (D d12_438) rfl (fun h49 W50 A51 => ?_)
  have K52 : Keep h1 h8 [] := ((Keep.refl h1 []).ext X11)
  have K53 : Keep h1 h17 [] := (K52.wr W18 (Or.inr (Nat.le_of_eq g10)))
  have K54 : Keep h1 h21 [] := (K53.wr W22 (Or.inr (Nat.le_of_eq g10)))
  have K55 : Keep h1 h25 [] := (K54.wr W26 (Or.inr (Nat.le_of_eq g10)))
  have K56 : Keep h1 h29 [] := (K55.wr W30 (Or.inr (Nat.le_of_eq g10)))
  have K57 : Keep h1 h33 [] := (K56.wr W34 (Or.inr (Nat.le_of_eq g10)))
  have K58 : Keep h1 h37 [] := (K57.wr W38 (Or.inr (Nat.le_of_eq g10)))
  have K59 : Keep h1 h41 [] := (K58.wr W42 (Or.inr (Nat.le_of_eq g10)))
  have K60 : Keep h1 h45 [] := (K59.wr W46 (Or.inr (Nat.le_of_eq g10)))
  have K61 : Keep h1 h49 [] := (K60.wr W50 (Or.inr (Nat.le_of_eq g10)))
  have E62 := (E5.keep K61)
  have F63 := D6 (Or.inr (wk G 15)) (ty := (.array .byte)) (by decide)
  have F64 := (F63.keep K61 nin0)
  have F65 := D6 (Or.inr (wk G 16)) (ty := .byte) (by decide)
  have F66 := (F65.keep K61 nin0)
  refine go_old (fun O67 => ?_)
  refine callI0 (cells' := 3) (slots' := 22) (Wd := 1) (argsL := [(.ref a9)]) (rest := [(.ref a2)]) (pay_new G O67 (cs := [e0, e1, e2, e3, e4, e5, e6, e7, e8]) (n := 9) (Nat.le_trans O0.2.1 (Nat.le_of_eq g3)) E62 F64 F66 A51 rfl rfl (by decide) (by decide) (c8c p2 (c8c p3 (c8c p4 (c8c p5 (c8c p6 (c8c p7 (c8c p8 (c8c p9 (c8c p10 c8n))))))))) (by decide) (by decide)) rfl (wk G 62) (wk G 63) (wk G 64) pd8 (sz hml) (allS (Nat.le_trans O0.2.1 (Nat.le_of_eq g3)) all0) (fun _ hal => (sfS safe_nil sf0)) (D d12_439) (k_n 442 rfl ?_)
  rintro h68 S70 K69
  have K71 : Keep h0 h17 [] := (K15.wr W18 (Or.inr (Nat.le_trans K14.1 (Nat.le_of_eq g10))))
  have K72 : Keep h0 h21 [] := (K71.wr W22 (Or.inr (Nat.le_trans K14.1 (Nat.le_of_eq g10))))
  have K73 : Keep h0 h25 [] := (K72.wr W26 (Or.inr (Nat.le_trans K14.1 (Nat.le_of_eq g10))))
  have K74 : Keep h0 h29 [] := (K73.wr W30 (Or.inr (Nat.le_trans K14.1 (Nat.le_of_eq g10))))
  have K75 : Keep h0 h33 [] := (K74.wr W34 (Or.inr (Nat.le_trans K14.1 (Nat.le_of_eq g10))))
  have K76 : Keep h0 h37 [] := (K75.wr W38 (Or.inr (Nat.le_trans K14.1 (Nat.le_of_eq g10))))
  have K77 : Keep h0 h41 [] := (K76.wr W42 (Or.inr (Nat.le_trans K14.1 (Nat.le_of_eq g10))))
  have K78 : Keep h0 h45 [] := (K77.wr W46 (Or.inr (Nat.le_trans K14.1 (Nat.le_of_eq g10))))
  have K79 : Keep h0 h49 [] := (K78.wr W50 (Or.inr (Nat.le_trans K14.1 (Nat.le_of_eq g10))))
  have K80 : Keep h0 h68 [] := (K79.trans K69 (allS (Or.inr (Nat.le_of_eq g3)) all0))
  refine go_areturn hret hlk rfl rfl (D d12_442) (by decide) (by decide) ⟨_, rfl, ⟨a2, rfl, (Nat.le_of_eq g3), S70⟩⟩ K80
def Q_noun6_9 (Z : State) (a b p : Addr) (g0 g1 g2 g3 g4 g5 c0 c1 c2 c3 c4 c5 c6 c7 c8 : Int32) (h0 : Heap) (xv : Value) (h : Heap) : Prop := ∃ (r : Addr), (.ref r) = xv ∧ Str Z h r [c6, c7, c8]
def Q_subi6_9 (Z : State) (a : Addr) (c0 c1 c2 c3 c4 c5 c6 c7 c8 : Int32) (h0 : Heap) (xv : Value) (h : Heap) : Prop := ∃ (r : Addr), (.ref r) = xv ∧ Str Z h r [c6, c7, c8]
def Q_sub6_9_9 (Z : State) (a : Addr) (c0 c1 c2 c3 c4 c5 c6 c7 c8 : Int32) (h0 : Heap) (xv : Value) (h : Heap) : Prop := ∃ (r : Addr), (.ref r) = xv ∧ Str Z h r [c6, c7, c8]
def Q_news6_3_9 (Z : State) (t : Addr) (k : ClassId) (c0 c1 c2 c3 c4 c5 c6 c7 c8 : Int32) (h0 : Heap) (xv : Value) (h : Heap) : Prop := ∃ (r : Addr), (.ref r) = xv ∧ Str Z h r [c6, c7, c8]
def Q_cor6_9_9 (Z : State) (t : Addr) (k : ClassId) (b0 b1 b2 b3 b4 b5 b6 b7 b8 : Int32) (h0 : Heap) (xv : Value) (h : Heap) : Prop := ∃ (r : Addr) (k2 : ClassId), (.ref r) = xv ∧ h0.size ≤ r ∧ Arv Z h r k2 (.byte) (3 : Int32) [(.int b6), (.int b7), (.int b8)] (.int 0)
def Q_corb6_9_9 (Z : State) (t : Addr) (k : ClassId) (b0 b1 b2 b3 b4 b5 b6 b7 b8 : Int32) (h0 : Heap) (xv : Value) (h : Heap) : Prop := ∃ (r : Addr) (k2 : ClassId), (.ref r) = xv ∧ h0.size ≤ r ∧ Arv Z h r k2 (.byte) (3 : Int32) [(.int b6), (.int b7), (.int b8)] (.int 0)
theorem c_corb6_9_9 (G : GH Z a0) (t : Addr) (k : ClassId) (b0 b1 b2 b3 b4 b5 b6 b7 b8 : Int32) (h0 : Heap) (O0 : Old Z Z.heap.size h0) (p1 : Arv Z h0 t k (.byte) (9 : Int32) [(.int b0), (.int b1), (.int b2), (.int b3), (.int b4), (.int b5), (.int b6), (.int b7), (.int b8)] (.int 0)) : Con false [] l Z (⟨"java/util/Arrays", "copyOfRangeByte", "([BII)[B"⟩ : MethodName) jdk_65_method_133_code 5 (some (.array .byte)) [] (rm4 1 1 3 18) #[(.ref t), (.int 6), (.int 9)] h0 [] (rvl (Q_corb6_9_9 Z t k b0 b1 b2 b3 b4 b5 b6 b7 b8 h0)) := by
  refine conN G (plainFor_of_name pn3) O0 (fun m => ef13 m t (6 : Int32) (9 : Int32)) ?_
  intro _ _ _ m_ _ _ _ D hml hret hlk hnm
  refine go_iload_n 1 (D d18_0) rfl rfl ?_
  refine go_iload_n 2 (D d18_1) rfl rfl ?_
  refine callS0 (cells' := 0) (slots' := 0) (Wd := 0) (argsL := [(.int 6), (.int 9)]) (rest := []) (pay_of (a0 := a0) (c_chkl l G (6 : Int32) (9 : Int32) h0 O0 (by decide)) (wk G 120) (wk G 113)) (wk G 118) (wk G 119) (wk G 113) (wk G 120) pd16 (sz hml) all0 sf00 (D d18_2) (k_n 5 rfl ?_)
  rintro  h1 rfl K2
  refine go_iload_n 6 (D d18_5) rfl rfl ?_
  refine go_iload_n 7 (D d18_6) rfl rfl ?_
  refine go_isub 8 (z := (3 : Int32)) (D d18_7) rfl (by decide) ?_
  refine go_istore_n 9 (ls' := #[vr t, vi 6, vi 9, vi 3, un]) (D d18_8) rfl rfl ?_
  refine go_iload_n 10 (D d18_9) rfl rfl ?_
  refine go_newP 12 (cells' := 1) (slots' := 3) (cap := 3) (vs := [(.int 0), (.int 0), (.int 0)]) (ty := .byte) (dv := .int 0) (wk G 14) rfl rfl (D d18_10) rfl (by decide) rfl (by decide) rfl rfl rfl (by decide) (by decide) (fun h3 a4 k8 g5 X6 A7 => ?_)
  refine go_astore 14 (ls' := #[vr t, vi 6, vi 9, vi 3, vr a4]) (D d18_12) rfl rfl rfl ?_
  refine go_aload_n 15 (D d18_14) rfl rfl rfl ?_
  refine go_iload_n 16 (D d18_15) rfl rfl ?_
  refine go_aload 18 (D d18_16) rfl rfl rfl ?_
  refine go_iconst 19 (v := 0) (D d18_18) rfl rfl ?_
  refine go_aload_n 20 (D d18_19) rfl rfl rfl ?_
  have K9 : Keep h0 h3 [] := ((Keep.refl h0 []).ext X6)
  have A10 := (p1.keep K9 nin0)
  refine go_arraylength 21 A10 (D d18_20) rfl ?_
  refine go_iload_n 22 (D d18_21) rfl rfl ?_
  refine go_isub 23 (z := (3 : Int32)) (D d18_22) rfl (by decide) ?_
  refine go_iload_n 24 (D d18_23) rfl rfl ?_
  refine go_old (fun O11 => ?_)
  refine callS0 (cells' := 1) (slots' := 3) (Wd := 4) (argsL := [(.int 3), (.int 3)]) (rest := [(.int 0), (.ref a4), (.int 6), (.ref t)]) (pay_of (a0 := a0) (c_min3_3 l G  h3 O11 ) (wk G 124) (wk G 123)) (wk G 121) (wk G 122) (wk G 123) (wk G 124) pd17 (sz hml) all0 sf00 (D d18_24) (k_v 27 rfl ?_)
  rintro _ h12 ⟨rfl, rfl⟩ K13
  refine go_acopy 30 (Wd := 0) (vd' := [(.int b6), (.int b7), (.int b8)]) (wk G 125) (wk G 128) (wk G 126) (wk G 127) rfl A10 A7 rfl (by decide) (by decide) (by decide) (nb rfl) (nb rfl) (nb rfl) (Nat.le_trans O0.2.1 (Nat.le_of_eq g5)) rfl (sz hml) (by decide) (by decide) (by decide) (D d18_27) rfl (fun h14 K15 A16 => ?_)
  refine go_aload 32 (D d18_30) rfl rfl rfl ?_
  have K17 : Keep h0 h14 [] := (K9.trans K15 (allS (Or.inr (Nat.le_of_eq g5)) all0))
  refine go_areturn hret hlk rfl rfl (D d18_32) (by decide) (by decide) ⟨_, rfl, ⟨a4, k8, rfl, (Nat.le_of_eq g5), A16⟩⟩ K17
theorem c_cor6_9_9 (G : GH Z a0) (t : Addr) (k : ClassId) (b0 b1 b2 b3 b4 b5 b6 b7 b8 : Int32) (h0 : Heap) (O0 : Old Z Z.heap.size h0) (p1 : Arv Z h0 t k (.byte) (9 : Int32) [(.int b0), (.int b1), (.int b2), (.int b3), (.int b4), (.int b5), (.int b6), (.int b7), (.int b8)] (.int 0)) : Con false [] l Z (⟨"java/util/Arrays", "copyOfRange", "([BII)[B"⟩ : MethodName) jdk_65_method_132_code 3 (some (.array .byte)) [] (rm4 2 1 3 34) #[(.ref t), (.int 6), (.int 9)] h0 [] (rvl (Q_cor6_9_9 Z t k b0 b1 b2 b3 b4 b5 b6 b7 b8 h0)) := by
  refine conN G (plainFor_of_name pn3) O0 (fun m => ef14 m t (6 : Int32) (9 : Int32)) ?_
  intro _ _ _ m_ _ _ _ D hml hret hlk hnm
  refine go_iload_n 1 (D d17_0) rfl rfl ?_
  refine go_ifT 10 (D d17_1) (by decide) rfl (by decide) ?_
  refine go_aload_n 11 (D d17_10) rfl rfl rfl ?_
  refine go_iload_n 12 (D d17_11) rfl rfl ?_
  refine go_iload_n 13 (D d17_12) rfl rfl ?_
  refine callS0 (cells' := 1) (slots' := 3) (Wd := 0) (argsL := [(.ref t), (.int 6), (.int 9)]) (rest := []) (pay_of (a0 := a0) (c_corb6_9_9 l G t k b0 b1 b2 b3 b4 b5 b6 b7 b8 h0 O0 p1) (wk G 117) (wk G 113)) (wk G 115) (wk G 116) (wk G 113) (wk G 117) pd18 (sz hml) all0 sf00 (D d17_13) (k_v 16 rfl ?_)
  rintro _ h1 ⟨r3, r4, rfl, f5, f6⟩ K2
  have K7 : Keep h0 h1 [] := ((Keep.refl h0 []).trans K2 all0)
  refine go_areturn hret hlk rfl rfl (D d17_16) (by decide) (by decide) ⟨_, rfl, ⟨r3, r4, rfl, f5, f6⟩⟩ K7
theorem c_news6_3_9 (G : GH Z a0) (t : Addr) (k : ClassId) (c0 c1 c2 c3 c4 c5 c6 c7 c8 : Int32) (h0 : Heap) (O0 : Old Z Z.heap.size h0) (p1 : Arv Z h0 t k (.byte) (9 : Int32) [(.int (c0).toInt8.toInt32), (.int (c1).toInt8.toInt32), (.int (c2).toInt8.toInt32), (.int (c3).toInt8.toInt32), (.int (c4).toInt8.toInt32), (.int (c5).toInt8.toInt32), (.int (c6).toInt8.toInt32), (.int (c7).toInt8.toInt32), (.int (c8).toInt8.toInt32)] (.int 0)) (p2 : C8 c0) (p3 : C8 c1) (p4 : C8 c2) (p5 : C8 c3) (p6 : C8 c4) (p7 : C8 c5) (p8 : C8 c6) (p9 : C8 c7) (p10 : C8 c8) : Con false [] l Z (⟨"java/lang/StringLatin1", "newString", "([BII)Ljava/lang/String;"⟩ : MethodName) jdk_43_method_47_code 3 (some (.object "java/lang/String")) [] (rm4 3 2 7 50) #[(.ref t), (.int 6), (.int 3)] h0 [] (rvl (Q_news6_3_9 Z t k c0 c1 c2 c3 c4 c5 c6 c7 c8 h0)) := by
  refine conN G (plainFor_of_name pn5) O0 (fun m => ef14 m t (6 : Int32) (3 : Int32)) ?_
  intro _ _ _ m_ _ _ _ D hml hret hlk hnm
  refine go_iload_n 1 (D d16_0) rfl rfl ?_
  refine go_ifT 7 (D d16_1) (by decide) rfl (by decide) ?_
  refine go_newO 10 (cells' := 1) (slots' := 4) (wk G 110) (wk G 13) (wk G 12) (D d16_7) rfl rfl rfl (by decide) (by decide) (fun h1 a2 g3 X4 E5 D6 U7 => ?_)
  refine go_dup 11 (D d16_10) rfl rfl ?_
  refine go_aload_n 12 (D d16_11) rfl rfl rfl ?_
  refine go_iload_n 13 (D d16_12) rfl rfl ?_
  refine go_iload_n 14 (D d16_13) rfl rfl ?_
  refine go_iload_n 15 (D d16_14) rfl rfl ?_
  refine go_iadd 16 (z := (9 : Int32)) (D d16_15) rfl (by decide) ?_
  have K8 : Keep h0 h1 [] := ((Keep.refl h0 []).ext X4)
  have A9 := (p1.keep K8 nin0)
  refine go_old (fun O10 => ?_)
  refine callS0 (cells' := 2) (slots' := 7) (Wd := 2) (argsL := [(.ref t), (.int 6), (.int 9)]) (rest := [(.ref a2), (.ref a2)]) (pay_of (a0 := a0) (c_cor6_9_9 l G t k ((c0).toInt8.toInt32) ((c1).toInt8.toInt32) ((c2).toInt8.toInt32) ((c3).toInt8.toInt32) ((c4).toInt8.toInt32) ((c5).toInt8.toInt32) ((c6).toInt8.toInt32) ((c7).toInt8.toInt32) ((c8).toInt8.toInt32) h1 O10 A9) (wk G 114) (wk G 113)) (wk G 111) (wk G 112) (wk G 113) (wk G 114) pd18 (sz hml) all0 sf00 (D d16_16) (k_v 19 rfl ?_)
  rintro _ h11 ⟨r13, r14, rfl, f15, f16⟩ K12
  refine go_iconst 20 (v := 0) (D d16_19) rfl rfl ?_
  have K17 : Keep h1 h11 [] := ((Keep.refl h1 []).trans K12 all0)
  have E18 := (E5.keep K17)
  have F19 := D6 (Or.inr (wk G 15)) (ty := (.array .byte)) (by decide)
  have F20 := (F19.keep K17 nin0)
  have F21 := D6 (Or.inr (wk G 16)) (ty := .byte) (by decide)
  have F22 := (F21.keep K17 nin0)
  refine go_old (fun O23 => ?_)
  refine callI0 (cells' := 2) (slots' := 7) (Wd := 1) (argsL := [(.ref r13), (.int 0)]) (rest := [(.ref a2)]) (pay_of (a0 := a0) (c_strbb l G a2 r13 h11 O23 E18 (Nat.le_trans O0.2.1 (Nat.le_of_eq g3)) F20 F22) (wk G 131) (wk G 12)) rfl (wk G 129) (wk G 130) (wk G 131) pd19 (sz hml) (allS (Nat.le_trans O0.2.1 (Nat.le_of_eq g3)) all0) (fun _ hal => (sfS safe_nil sf0)) (D d16_20) (k_n 23 rfl ?_)
  rintro  h24 ⟨f26, f27⟩ K25
  have K28 : Keep h0 h11 [] := (K8.trans K12 all0)
  have K29 : Keep h0 h24 [] := (K28.trans K25 (allS (Or.inr (Nat.le_of_eq g3)) all0))
  have E30 := (E18.keep K25)
  have A31 := (f16.keep K25 (ninS (Nat.ne_of_gt (Nat.lt_of_lt_of_le E5.lt f15)) nin0))
  have S32 : Str Z h24 a2 [c6, c7, c8] := ⟨r13, r14, E30, f26, f27, A31, (c8c p8 (c8c p9 (c8c p10 c8n))), Nat.le_of_ble_eq_true rfl⟩
  refine go_areturn hret hlk rfl rfl (D d16_23) (by decide) (by decide) ⟨_, rfl, ⟨a2, rfl, S32⟩⟩ K29
theorem c_sub6_9_9 (G : GH Z a0) (a : Addr) (c0 c1 c2 c3 c4 c5 c6 c7 c8 : Int32) (h0 : Heap) (O0 : Old Z Z.heap.size h0) (p1 : Str Z h0 a [c0, c1, c2, c3, c4, c5, c6, c7, c8]) : Con false [] l Z (⟨"java/lang/String", "substring", "(II)Ljava/lang/String;"⟩ : MethodName) jdk_42_method_92_code 5 (some (.object "java/lang/String")) [] (rm4 4 2 7 64) #[(.ref a), (.int 6), (.int 9)] h0 [] (rvl (Q_sub6_9_9 Z a c0 c1 c2 c3 c4 c5 c6 c7 c8 h0)) := by
  refine conN G (plainFor_of_name pn1) O0 (fun m => ef13 m a (6 : Int32) (9 : Int32)) ?_
  intro _ _ _ m_ _ _ _ D hml hret hlk hnm
  have q1 : C8 c0 := by obtain ⟨_, _, _, _, _, _, q, _⟩ := id p1; exact q _ (by simp)
  have q2 : C8 c1 := by obtain ⟨_, _, _, _, _, _, q, _⟩ := id p1; exact q _ (by simp)
  have q3 : C8 c2 := by obtain ⟨_, _, _, _, _, _, q, _⟩ := id p1; exact q _ (by simp)
  have q4 : C8 c3 := by obtain ⟨_, _, _, _, _, _, q, _⟩ := id p1; exact q _ (by simp)
  have q5 : C8 c4 := by obtain ⟨_, _, _, _, _, _, q, _⟩ := id p1; exact q _ (by simp)
  have q6 : C8 c5 := by obtain ⟨_, _, _, _, _, _, q, _⟩ := id p1; exact q _ (by simp)
  have q7 : C8 c6 := by obtain ⟨_, _, _, _, _, _, q, _⟩ := id p1; exact q _ (by simp)
  have q8 : C8 c7 := by obtain ⟨_, _, _, _, _, _, q, _⟩ := id p1; exact q _ (by simp)
  have q9 : C8 c8 := by obtain ⟨_, _, _, _, _, _, q, _⟩ := id p1; exact q _ (by simp)
  refine go_aload_n 1 (D d15_0) rfl rfl rfl ?_
  refine callV0 (cells' := 0) (slots' := 0) (Wd := 0) (argsL := []) (rest := []) (pay_len G O0 (n := (9 : Int32)) p1 rfl (by decide) (by decide)) p1.exa (wk G 95) (wk G 24) (wk G 26) (wk G 26) (wk G 25) pd5 (sz hml) all0 sf00 (D d15_1) (k_v 4 rfl ?_)
  rintro _ _ ⟨rfl, rfl⟩ -
  refine go_istore_n 5 (ls' := #[vr a, vi 6, vi 9, vi 9, un]) (D d15_4) rfl rfl ?_
  refine go_iload_n 6 (D d15_5) rfl rfl ?_
  refine go_iload_n 7 (D d15_6) rfl rfl ?_
  refine go_iload_n 8 (D d15_7) rfl rfl ?_
  refine callS0 (cells' := 0) (slots' := 0) (Wd := 0) (argsL := [(.int 6), (.int 9), (.int 9)]) (rest := []) (pay_of (a0 := a0) (c_cbbe l G (6 : Int32) (9 : Int32) (9 : Int32) h0 O0 (by decide) (by decide) (by decide)) (wk G 103) (wk G 12)) (wk G 101) (wk G 102) (wk G 12) (wk G 103) pd10 (sz hml) all0 sf00 (D d15_8) (k_n 11 rfl ?_)
  rintro  h10 rfl K11
  refine go_iload_n 12 (D d15_11) rfl rfl ?_
  refine go_ifT 22 (D d15_12) (by decide) rfl (by decide) ?_
  refine go_iload_n 23 (D d15_22) rfl rfl ?_
  refine go_iload_n 24 (D d15_23) rfl rfl ?_
  refine go_isub 25 (z := (3 : Int32)) (D d15_24) rfl (by decide) ?_
  refine go_istore 27 (ls' := #[vr a, vi 6, vi 9, vi 9, vi 3]) (D d15_25) rfl rfl ?_
  refine go_aload_n 28 (D d15_27) rfl rfl rfl ?_
  obtain ⟨t12, k13, E14, F15, F16, A17, B18, L19⟩ := id p1
  refine callV0 (cells' := 0) (slots' := 0) (Wd := 0) (argsL := []) (rest := []) (pay_of (a0 := a0) (c_islatin l G a h0 O0 F16) (wk G 45) (wk G 12)) E14 (wk G 41) (wk G 42) (wk G 44) (wk G 44) (wk G 43) pd11 (sz hml) all0 sf00 (D d15_28) (k_v 31 rfl ?_)
  rintro _ h20 ⟨rfl, rfl⟩ K21
  refine go_ifF 34 (D d15_31) rfl (by decide) ?_
  refine go_aload_n 35 (D d15_34) rfl rfl rfl ?_
  refine go_getF 38 (wk G 28) Via.refl F15 (D d15_35) rfl ?_
  refine go_iload_n 39 (D d15_38) rfl rfl ?_
  refine go_iload 41 (D d15_39) rfl rfl ?_
  refine callS0 (cells' := 2) (slots' := 7) (Wd := 0) (argsL := [(.ref t12), (.int 6), (.int 3)]) (rest := []) (pay_of (a0 := a0) (c_news6_3_9 l G t12 k13 c0 c1 c2 c3 c4 c5 c6 c7 c8 h0 O0 A17 q1 q2 q3 q4 q5 q6 q7 q8 q9) (wk G 109) (wk G 48)) (wk G 107) (wk G 108) (wk G 48) (wk G 109) pd12 (sz hml) all0 sf00 (D d15_41) (k_v 44 rfl ?_)
  rintro _ h22 ⟨r24, rfl, f25⟩ K23
  refine go_goto 57 (D d15_44) (by decide) rfl ?_
  have K26 : Keep h0 h22 [] := ((Keep.refl h0 []).trans K23 all0)
  refine go_areturn hret hlk rfl rfl (D d15_57) (by decide) (by decide) ⟨_, rfl, ⟨r24, rfl, f25⟩⟩ K26
theorem c_subi6_9 (G : GH Z a0) (a : Addr) (c0 c1 c2 c3 c4 c5 c6 c7 c8 : Int32) (h0 : Heap) (O0 : Old Z Z.heap.size h0) (p1 : Str Z h0 a [c0, c1, c2, c3, c4, c5, c6, c7, c8]) : Con false [] l Z (⟨"java/lang/String", "substring", "(I)Ljava/lang/String;"⟩ : MethodName) jdk_42_method_91_code 2 (some (.object "java/lang/String")) [] (rm4 5 2 7 80) #[(.ref a), (.int 6)] h0 [] (rvl (Q_subi6_9 Z a c0 c1 c2 c3 c4 c5 c6 c7 c8 h0)) := by
  refine conN G (plainFor_of_name pn1) O0 (fun m => ef12 m a (6 : Int32)) ?_
  intro _ _ _ m_ _ _ _ D hml hret hlk hnm
  have q1 : C8 c0 := by obtain ⟨_, _, _, _, _, _, q, _⟩ := id p1; exact q _ (by simp)
  have q2 : C8 c1 := by obtain ⟨_, _, _, _, _, _, q, _⟩ := id p1; exact q _ (by simp)
  have q3 : C8 c2 := by obtain ⟨_, _, _, _, _, _, q, _⟩ := id p1; exact q _ (by simp)
  have q4 : C8 c3 := by obtain ⟨_, _, _, _, _, _, q, _⟩ := id p1; exact q _ (by simp)
  have q5 : C8 c4 := by obtain ⟨_, _, _, _, _, _, q, _⟩ := id p1; exact q _ (by simp)
  have q6 : C8 c5 := by obtain ⟨_, _, _, _, _, _, q, _⟩ := id p1; exact q _ (by simp)
  have q7 : C8 c6 := by obtain ⟨_, _, _, _, _, _, q, _⟩ := id p1; exact q _ (by simp)
  have q8 : C8 c7 := by obtain ⟨_, _, _, _, _, _, q, _⟩ := id p1; exact q _ (by simp)
  have q9 : C8 c8 := by obtain ⟨_, _, _, _, _, _, q, _⟩ := id p1; exact q _ (by simp)
  refine go_aload_n 1 (D d14_0) rfl rfl rfl ?_
  refine go_iload_n 2 (D d14_1) rfl rfl ?_
  refine go_aload_n 3 (D d14_2) rfl rfl rfl ?_
  refine callV0 (cells' := 0) (slots' := 0) (Wd := 2) (argsL := []) (rest := [(.int 6), (.ref a)]) (pay_len G O0 (n := (9 : Int32)) p1 rfl (by decide) (by decide)) p1.exa (wk G 95) (wk G 24) (wk G 26) (wk G 26) (wk G 25) pd5 (sz hml) all0 sf00 (D d14_3) (k_v 6 rfl ?_)
  rintro _ _ ⟨rfl, rfl⟩ -
  refine callV0 (cells' := 2) (slots' := 7) (Wd := 0) (argsL := [(.int 6), (.int 9)]) (rest := []) (pay_of (a0 := a0) (c_sub6_9_9 l G a c0 c1 c2 c3 c4 c5 c6 c7 c8 h0 O0 p1) (wk G 100) (wk G 12)) p1.exa (wk G 96) (wk G 97) (wk G 99) (wk G 99) (wk G 98) pd13 (sz hml) all0 sf00 (D d14_6) (k_v 9 rfl ?_)
  rintro _ h10 ⟨r12, rfl, f13⟩ K11
  have K14 : Keep h0 h10 [] := ((Keep.refl h0 []).trans K11 all0)
  refine go_areturn hret hlk rfl rfl (D d14_9) (by decide) (by decide) ⟨_, rfl, ⟨r12, rfl, f13⟩⟩ K14
theorem c_noun6_9 (G : GH Z a0) (a b : Addr) (p : Addr) (g0 g1 g2 g3 g4 g5 c0 c1 c2 c3 c4 c5 c6 c7 c8 : Int32) (h0 : Heap) (O0 : Old Z Z.heap.size h0) (p1 : Fld Z h0 a "com/example/hew/hew/MethodKind" "prefix" "Ljava/lang/String;" (.ref p)) (p2 : Str Z h0 p [g0, g1, g2, g3, g4, g5]) (p3 : Str Z h0 b [c0, c1, c2, c3, c4, c5, c6, c7, c8]) : Con false [] l Z (⟨"com/example/hew/hew/MethodKind", "noun", "(Ljava/lang/String;)Ljava/lang/String;"⟩ : MethodName) prog_32_method_8_code 2 (some (.object "java/lang/String")) [] (rm4 6 2 7 93) #[(.ref a), (.ref b)] h0 [] (rvl (Q_noun6_9 Z a b p g0 g1 g2 g3 g4 g5 c0 c1 c2 c3 c4 c5 c6 c7 c8 h0)) := by
  refine conN G (plainFor_of_name pn6) O0 (fun m => ef3 m a b) ?_
  intro _ _ _ m_ _ _ _ D hml hret hlk hnm
  refine go_aload_n 1 (D d13_0) rfl rfl rfl ?_
  refine go_aload_n 2 (D d13_1) rfl rfl rfl ?_
  refine go_getF 5 (wk G 87) Via.refl p1 (D d13_2) rfl ?_
  refine callV0 (cells' := 0) (slots' := 0) (Wd := 1) (argsL := []) (rest := [(.ref b)]) (pay_len G O0 (n := (6 : Int32)) p2 rfl (by decide) (by decide)) p2.exa (wk G 89) (wk G 24) (wk G 26) (wk G 26) (wk G 25) pd5 (sz hml) all0 sf00 (D d13_5) (k_v 8 rfl ?_)
  rintro _ _ ⟨rfl, rfl⟩ -
  refine callV0 (cells' := 2) (slots' := 7) (Wd := 0) (argsL := [(.int 6)]) (rest := []) (pay_of (a0 := a0) (c_subi6_9 l G b c0 c1 c2 c3 c4 c5 c6 c7 c8 h0 O0 p3) (wk G 94) (wk G 12)) p3.exa (wk G 90) (wk G 91) (wk G 93) (wk G 93) (wk G 92) pd4 (sz hml) all0 sf00 (D d13_8) (k_v 11 rfl ?_)
  rintro _ h1 ⟨r3, rfl, f4⟩ K2
  have K5 : Keep h0 h1 [] := ((Keep.refl h0 []).trans K2 all0)
  refine go_areturn hret hlk rfl rfl (D d13_11) (by decide) (by decide) ⟨_, rfl, ⟨r3, rfl, f4⟩⟩ K5
def Q_kind3 (Z : State)  (h0 : Heap) (xv : Value) (h : Heap) : Prop := (.ref (s_UPDATE Z)) = xv ∧ h0 = h
theorem c_kind3 (G : GH Z a0)   (h0 : Heap) (O0 : Old Z Z.heap.size h0)  : Con false [] l Z (⟨"com/example/hew/hew/MethodKindNounPinLaw", "kindOf", "(I)Lcom/example/hew/hew/MethodKind;"⟩ : MethodName) method_3_code 1 (some (.object "com/example/hew/hew/MethodKind")) [] (rm4 0 0 0 0) #[(.int 3)] h0 [] (rvl (Q_kind3 Z h0)) := by
  refine conN G (plainFor_of_name pn4) O0 (fun m => ef10 m (3 : Int32)) ?_
  intro _ _ _ m_ _ _ _ D hml hret hlk hnm
  refine go_iload_n 1 (D d9_0) rfl rfl ?_
  refine go_ifT 8 (D d9_1) (by decide) rfl (by decide) ?_
  refine go_iload_n 9 (D d9_8) rfl rfl ?_
  refine go_iconst 10 (v := 1) (D d9_9) rfl rfl ?_
  refine go_icT 17 (D d9_10) (by decide) rfl (by decide) ?_
  refine go_iload_n 18 (D d9_17) rfl rfl ?_
  refine go_iconst 19 (v := 2) (D d9_18) rfl rfl ?_
  refine go_icT 26 (D d9_19) (by decide) rfl (by decide) ?_
  refine go_iload_n 27 (D d9_26) rfl rfl ?_
  refine go_iconst 28 (v := 3) (D d9_27) rfl rfl ?_
  refine go_icF 31 (D d9_28) rfl (by decide) ?_
  refine go_getS 34 (wk G 141) ((se_UPDATE G).1.ext O0.2) (D d9_31) rfl ?_
  refine go_areturn hret hlk rfl rfl (D d9_34) (by decide) (by decide) ⟨_, rfl, ⟨rfl, rfl⟩⟩ (Keep.refl h0 [])
def Q_word3 (Z : State)  (h0 : Heap) (xv : Value) (h : Heap) : Prop := ∃ (r : Addr), (.ref r) = xv ∧ Str Z h r [(85 : Int32), (112 : Int32), (100 : Int32), (97 : Int32), (116 : Int32), (101 : Int32)]
theorem c_word3 (G : GH Z a0)   (h0 : Heap) (O0 : Old Z Z.heap.size h0)  : Con true EL1 l Z (⟨"com/example/hew/hew/MethodKindNounPinLaw", "wordOf", "(I)Ljava/lang/String;"⟩ : MethodName) method_4_code 1 (some (.object "java/lang/String")) [] (rm4 0 2 28 0) #[(.int 3)] h0 [] (rvl (Q_word3 Z h0)) := by
  refine conW G (plainFor_of_name pn4) O0 (fun m => ef10 m (3 : Int32)) ?_
  intro _ _ _ m_ _ _ _ D hml hret hlk hnm
  refine go_iload_n 1 (D d10_0) rfl rfl ?_
  refine go_ifT 7 (D d10_1) (by decide) rfl (by decide) ?_
  refine go_iload_n 8 (D d10_7) rfl rfl ?_
  refine go_iconst 9 (v := 1) (D d10_8) rfl rfl ?_
  refine go_icT 15 (D d10_9) (by decide) rfl (by decide) ?_
  refine go_iload_n 16 (D d10_15) rfl rfl ?_
  refine go_iconst 17 (v := 2) (D d10_16) rfl rfl ?_
  refine go_icT 23 (D d10_17) (by decide) rfl (by decide) ?_
  refine go_iload_n 24 (D d10_23) rfl rfl ?_
  refine go_iconst 25 (v := 3) (D d10_24) rfl rfl ?_
  refine go_icF 28 (D d10_25) rfl (by decide) ?_
  refine go_ldcH 30 (cells' := 2) (slots' := 28) (n := 24) (vs := (([(85 : Int32), (112 : Int32), (100 : Int32), (97 : Int32), (116 : Int32), (101 : Int32)] : List Int32).map fun c => c.toInt8.toInt32).map Value.int) (z := (6 : Int32)) rfl (by decide) (wk G 143) (wS G) (by decide +kernel) (by decide) (by decide) (by decide) (by decide) (D d10_28) rfl rfl rfl (by decide) (by decide) (fun h1 a2 t4 k5 X3 E6 F7 F8 A9 => ?_)
  have S10 : Str Z h1 a2 [(85 : Int32), (112 : Int32), (100 : Int32), (97 : Int32), (116 : Int32), (101 : Int32)] := ⟨t4, k5, E6, F8, F7, A9, by decide, by decide⟩
  have K11 : Keep h0 h1 [] := ((Keep.refl h0 []).ext X3)
  refine go_areturn hret hlk rfl rfl (D d10_30) (by decide) (by decide) ⟨_, rfl, ⟨a2, rfl, S10⟩⟩ K11
def Q_kind4 (Z : State)  (h0 : Heap) (xv : Value) (h : Heap) : Prop := (.ref (s_DELETE Z)) = xv ∧ h0 = h
theorem c_kind4 (G : GH Z a0)   (h0 : Heap) (O0 : Old Z Z.heap.size h0)  : Con false [] l Z (⟨"com/example/hew/hew/MethodKindNounPinLaw", "kindOf", "(I)Lcom/example/hew/hew/MethodKind;"⟩ : MethodName) method_3_code 1 (some (.object "com/example/hew/hew/MethodKind")) [] (rm4 0 0 0 0) #[(.int 4)] h0 [] (rvl (Q_kind4 Z h0)) := by
  refine conN G (plainFor_of_name pn4) O0 (fun m => ef10 m (4 : Int32)) ?_
  intro _ _ _ m_ _ _ _ D hml hret hlk hnm
  refine go_iload_n 1 (D d9_0) rfl rfl ?_
  refine go_ifT 8 (D d9_1) (by decide) rfl (by decide) ?_
  refine go_iload_n 9 (D d9_8) rfl rfl ?_
  refine go_iconst 10 (v := 1) (D d9_9) rfl rfl ?_
  refine go_icT 17 (D d9_10) (by decide) rfl (by decide) ?_
  refine go_iload_n 18 (D d9_17) rfl rfl ?_
  refine go_iconst 19 (v := 2) (D d9_18) rfl rfl ?_
  refine go_icT 26 (D d9_19) (by decide) rfl (by decide) ?_
  refine go_iload_n 27 (D d9_26) rfl rfl ?_
  refine go_iconst 28 (v := 3) (D d9_27) rfl rfl ?_
  refine go_icT 35 (D d9_28) (by decide) rfl (by decide) ?_
  refine go_iload_n 36 (D d9_35) rfl rfl ?_
  refine go_iconst 37 (v := 4) (D d9_36) rfl rfl ?_
  refine go_icF 40 (D d9_37) rfl (by decide) ?_
  refine go_getS 43 (wk G 149) ((se_DELETE G).1.ext O0.2) (D d9_40) rfl ?_
  refine go_areturn hret hlk rfl rfl (D d9_43) (by decide) (by decide) ⟨_, rfl, ⟨rfl, rfl⟩⟩ (Keep.refl h0 [])
def Q_word4 (Z : State)  (h0 : Heap) (xv : Value) (h : Heap) : Prop := ∃ (r : Addr), (.ref r) = xv ∧ Str Z h r [(68 : Int32), (101 : Int32), (108 : Int32), (101 : Int32), (116 : Int32), (101 : Int32)]
theorem c_word4 (G : GH Z a0)   (h0 : Heap) (O0 : Old Z Z.heap.size h0)  : Con true EL1 l Z (⟨"com/example/hew/hew/MethodKindNounPinLaw", "wordOf", "(I)Ljava/lang/String;"⟩ : MethodName) method_4_code 1 (some (.object "java/lang/String")) [] (rm4 0 2 28 0) #[(.int 4)] h0 [] (rvl (Q_word4 Z h0)) := by
  refine conW G (plainFor_of_name pn4) O0 (fun m => ef10 m (4 : Int32)) ?_
  intro _ _ _ m_ _ _ _ D hml hret hlk hnm
  refine go_iload_n 1 (D d10_0) rfl rfl ?_
  refine go_ifT 7 (D d10_1) (by decide) rfl (by decide) ?_
  refine go_iload_n 8 (D d10_7) rfl rfl ?_
  refine go_iconst 9 (v := 1) (D d10_8) rfl rfl ?_
  refine go_icT 15 (D d10_9) (by decide) rfl (by decide) ?_
  refine go_iload_n 16 (D d10_15) rfl rfl ?_
  refine go_iconst 17 (v := 2) (D d10_16) rfl rfl ?_
  refine go_icT 23 (D d10_17) (by decide) rfl (by decide) ?_
  refine go_iload_n 24 (D d10_23) rfl rfl ?_
  refine go_iconst 25 (v := 3) (D d10_24) rfl rfl ?_
  refine go_icT 31 (D d10_25) (by decide) rfl (by decide) ?_
  refine go_iload_n 32 (D d10_31) rfl rfl ?_
  refine go_iconst 33 (v := 4) (D d10_32) rfl rfl ?_
  refine go_icF 36 (D d10_33) rfl (by decide) ?_
  refine go_ldcH 38 (cells' := 2) (slots' := 28) (n := 24) (vs := (([(68 : Int32), (101 : Int32), (108 : Int32), (101 : Int32), (116 : Int32), (101 : Int32)] : List Int32).map fun c => c.toInt8.toInt32).map Value.int) (z := (6 : Int32)) rfl (by decide) (wk G 151) (wS G) (by decide +kernel) (by decide) (by decide) (by decide) (by decide) (D d10_36) rfl rfl rfl (by decide) (by decide) (fun h1 a2 t4 k5 X3 E6 F7 F8 A9 => ?_)
  have S10 : Str Z h1 a2 [(68 : Int32), (101 : Int32), (108 : Int32), (101 : Int32), (116 : Int32), (101 : Int32)] := ⟨t4, k5, E6, F8, F7, A9, by decide, by decide⟩
  have K11 : Keep h0 h1 [] := ((Keep.refl h0 []).ext X3)
  refine go_areturn hret hlk rfl rfl (D d10_38) (by decide) (by decide) ⟨_, rfl, ⟨a2, rfl, S10⟩⟩ K11
def Q_kind5 (Z : State)  (h0 : Heap) (xv : Value) (h : Heap) : Prop := (.ref (s_CUSTOM Z)) = xv ∧ h0 = h
theorem c_kind5 (G : GH Z a0)   (h0 : Heap) (O0 : Old Z Z.heap.size h0)  : Con false [] l Z (⟨"com/example/hew/hew/MethodKindNounPinLaw", "kindOf", "(I)Lcom/example/hew/hew/MethodKind;"⟩ : MethodName) method_3_code 1 (some (.object "com/example/hew/hew/MethodKind")) [] (rm4 0 0 0 0) #[(.int 5)] h0 [] (rvl (Q_kind5 Z h0)) := by
  refine conN G (plainFor_of_name pn4) O0 (fun m => ef10 m (5 : Int32)) ?_
  intro _ _ _ m_ _ _ _ D hml hret hlk hnm
  refine go_iload_n 1 (D d9_0) rfl rfl ?_
  refine go_ifT 8 (D d9_1) (by decide) rfl (by decide) ?_
  refine go_iload_n 9 (D d9_8) rfl rfl ?_
  refine go_iconst 10 (v := 1) (D d9_9) rfl rfl ?_
  refine go_icT 17 (D d9_10) (by decide) rfl (by decide) ?_
  refine go_iload_n 18 (D d9_17) rfl rfl ?_
  refine go_iconst 19 (v := 2) (D d9_18) rfl rfl ?_
  refine go_icT 26 (D d9_19) (by decide) rfl (by decide) ?_
  refine go_iload_n 27 (D d9_26) rfl rfl ?_
  refine go_iconst 28 (v := 3) (D d9_27) rfl rfl ?_
  refine go_icT 35 (D d9_28) (by decide) rfl (by decide) ?_
  refine go_iload_n 36 (D d9_35) rfl rfl ?_
  refine go_iconst 37 (v := 4) (D d9_36) rfl rfl ?_
  refine go_icT 44 (D d9_37) (by decide) rfl (by decide) ?_
  refine go_getS 47 (wk G 155) ((se_CUSTOM G).1.ext O0.2) (D d9_44) rfl ?_
  refine go_areturn hret hlk rfl rfl (D d9_47) (by decide) (by decide) ⟨_, rfl, ⟨rfl, rfl⟩⟩ (Keep.refl h0 [])
def Q_word5 (Z : State)  (h0 : Heap) (xv : Value) (h : Heap) : Prop := ∃ (r : Addr), (.ref r) = xv ∧ Str Z h r []
theorem c_word5 (G : GH Z a0)   (h0 : Heap) (O0 : Old Z Z.heap.size h0)  : Con true EL1 l Z (⟨"com/example/hew/hew/MethodKindNounPinLaw", "wordOf", "(I)Ljava/lang/String;"⟩ : MethodName) method_4_code 1 (some (.object "java/lang/String")) [] (rm4 0 2 4 0) #[(.int 5)] h0 [] (rvl (Q_word5 Z h0)) := by
  refine conW G (plainFor_of_name pn4) O0 (fun m => ef10 m (5 : Int32)) ?_
  intro _ _ _ m_ _ _ _ D hml hret hlk hnm
  refine go_iload_n 1 (D d10_0) rfl rfl ?_
  refine go_ifT 7 (D d10_1) (by decide) rfl (by decide) ?_
  refine go_iload_n 8 (D d10_7) rfl rfl ?_
  refine go_iconst 9 (v := 1) (D d10_8) rfl rfl ?_
  refine go_icT 15 (D d10_9) (by decide) rfl (by decide) ?_
  refine go_iload_n 16 (D d10_15) rfl rfl ?_
  refine go_iconst 17 (v := 2) (D d10_16) rfl rfl ?_
  refine go_icT 23 (D d10_17) (by decide) rfl (by decide) ?_
  refine go_iload_n 24 (D d10_23) rfl rfl ?_
  refine go_iconst 25 (v := 3) (D d10_24) rfl rfl ?_
  refine go_icT 31 (D d10_25) (by decide) rfl (by decide) ?_
  refine go_iload_n 32 (D d10_31) rfl rfl ?_
  refine go_iconst 33 (v := 4) (D d10_32) rfl rfl ?_
  refine go_icT 39 (D d10_33) (by decide) rfl (by decide) ?_
  refine go_ldcH 41 (cells' := 2) (slots' := 4) (n := 0) (vs := (([] : List Int32).map fun c => c.toInt8.toInt32).map Value.int) (z := (0 : Int32)) rfl (by decide) (wk G 157) (wS G) (by decide +kernel) (by decide) (by decide) (by decide) (by decide) (D d10_39) rfl rfl rfl (by decide) (by decide) (fun h1 a2 t4 k5 X3 E6 F7 F8 A9 => ?_)
  have S10 : Str Z h1 a2 [] := ⟨t4, k5, E6, F8, F7, A9, by decide, by decide⟩
  have K11 : Keep h0 h1 [] := ((Keep.refl h0 []).ext X3)
  refine go_areturn hret hlk rfl rfl (D d10_41) (by decide) (by decide) ⟨_, rfl, ⟨a2, rfl, S10⟩⟩ K11
def Q_at0_0 (Z : State) (a b : Addr) (k : ClassId) (e0 e1 e2 : Int32) (h0 : Heap) (xv : Value) (h : Heap) : Prop := (.int e0) = xv ∧ h0 = h
theorem c_at0_0 (G : GH Z a0) (a b : Addr) (k : ClassId) (e0 e1 e2 : Int32) (h0 : Heap) (O0 : Old Z Z.heap.size h0) (p1 : Str Z h0 a []) (p2 : Arv Z h0 b k (.char) (3 : Int32) [(.int e0), (.int e1), (.int e2)] (.int 0)) (p3 : C8 e0) (p4 : C8 e1) (p5 : C8 e2) : Con false [] l Z (⟨"com/example/hew/hew/MethodKindNounPinLaw", "at", "(Ljava/lang/String;[CI)C"⟩ : MethodName) method_5_code 4 (some .char) [] (rm4 2 0 0 26) #[(.ref a), (.ref b), (.int 0)] h0 [] (rvl (Q_at0_0 Z a b k e0 e1 e2 h0)) := by
  refine conN G (plainFor_of_name pn4) O0 (fun m => ef11 m a b (0 : Int32)) ?_
  intro _ _ _ m_ _ _ _ D hml hret hlk hnm
  refine go_iload_n 1 (D d11_0) rfl rfl ?_
  refine go_aload_n 2 (D d11_1) rfl rfl rfl ?_
  refine callV0 (cells' := 0) (slots' := 0) (Wd := 1) (argsL := []) (rest := [(.int 0)]) (pay_len G O0 (n := (0 : Int32)) p1 rfl (by decide) (by decide)) p1.exa (wk G 23) (wk G 24) (wk G 26) (wk G 26) (wk G 25) pd5 (sz hml) all0 sf00 (D d11_2) (k_v 5 rfl ?_)
  rintro _ _ ⟨rfl, rfl⟩ -
  refine go_icT 14 (D d11_5) (by decide) rfl (by decide) ?_
  refine go_iload_n 15 (D d11_14) rfl rfl ?_
  refine go_aload_n 16 (D d11_15) rfl rfl rfl ?_
  refine callV0 (cells' := 0) (slots' := 0) (Wd := 1) (argsL := []) (rest := [(.int 0)]) (pay_len G O0 (n := (0 : Int32)) p1 rfl (by decide) (by decide)) p1.exa (wk G 23) (wk G 24) (wk G 26) (wk G 26) (wk G 25) pd5 (sz hml) all0 sf00 (D d11_16) (k_v 19 rfl ?_)
  rintro _ _ ⟨rfl, rfl⟩ -
  refine go_isub 20 (z := (0 : Int32)) (D d11_19) rfl (by decide) ?_
  refine go_istore_n 21 (ls' := #[vr a, vr b, vi 0, vi 0]) (D d11_20) rfl rfl ?_
  refine go_iload_n 22 (D d11_21) rfl rfl ?_
  refine go_aload_n 23 (D d11_22) rfl rfl rfl ?_
  refine go_arraylength 24 p2 (D d11_23) rfl ?_
  refine go_icF 27 (D d11_24) rfl (by decide) ?_
  refine go_aload_n 28 (D d11_27) rfl rfl rfl ?_
  refine go_iload_n 29 (D d11_28) rfl rfl ?_
  refine go_caload 30 (i := 0) (v := (.int e0)) p2 (by decide) (by decide) rfl rfl (D d11_29) rfl ?_
  refine go_ireturn hret hlk (nar_c8 p3) (by simp) (D d11_30) (by decide) (by decide) ⟨_, rfl, ⟨rfl, rfl⟩⟩ (Keep.refl h0 [])
def Q_at0_1 (Z : State) (a b : Addr) (k : ClassId) (e0 e1 e2 : Int32) (h0 : Heap) (xv : Value) (h : Heap) : Prop := (.int e1) = xv ∧ h0 = h
theorem c_at0_1 (G : GH Z a0) (a b : Addr) (k : ClassId) (e0 e1 e2 : Int32) (h0 : Heap) (O0 : Old Z Z.heap.size h0) (p1 : Str Z h0 a []) (p2 : Arv Z h0 b k (.char) (3 : Int32) [(.int e0), (.int e1), (.int e2)] (.int 0)) (p3 : C8 e0) (p4 : C8 e1) (p5 : C8 e2) : Con false [] l Z (⟨"com/example/hew/hew/MethodKindNounPinLaw", "at", "(Ljava/lang/String;[CI)C"⟩ : MethodName) method_5_code 4 (some .char) [] (rm4 2 0 0 26) #[(.ref a), (.ref b), (.int 1)] h0 [] (rvl (Q_at0_1 Z a b k e0 e1 e2 h0)) := by
  refine conN G (plainFor_of_name pn4) O0 (fun m => ef11 m a b (1 : Int32)) ?_
  intro _ _ _ m_ _ _ _ D hml hret hlk hnm
  refine go_iload_n 1 (D d11_0) rfl rfl ?_
  refine go_aload_n 2 (D d11_1) rfl rfl rfl ?_
  refine callV0 (cells' := 0) (slots' := 0) (Wd := 1) (argsL := []) (rest := [(.int 1)]) (pay_len G O0 (n := (0 : Int32)) p1 rfl (by decide) (by decide)) p1.exa (wk G 23) (wk G 24) (wk G 26) (wk G 26) (wk G 25) pd5 (sz hml) all0 sf00 (D d11_2) (k_v 5 rfl ?_)
  rintro _ _ ⟨rfl, rfl⟩ -
  refine go_icT 14 (D d11_5) (by decide) rfl (by decide) ?_
  refine go_iload_n 15 (D d11_14) rfl rfl ?_
  refine go_aload_n 16 (D d11_15) rfl rfl rfl ?_
  refine callV0 (cells' := 0) (slots' := 0) (Wd := 1) (argsL := []) (rest := [(.int 1)]) (pay_len G O0 (n := (0 : Int32)) p1 rfl (by decide) (by decide)) p1.exa (wk G 23) (wk G 24) (wk G 26) (wk G 26) (wk G 25) pd5 (sz hml) all0 sf00 (D d11_16) (k_v 19 rfl ?_)
  rintro _ _ ⟨rfl, rfl⟩ -
  refine go_isub 20 (z := (1 : Int32)) (D d11_19) rfl (by decide) ?_
  refine go_istore_n 21 (ls' := #[vr a, vr b, vi 1, vi 1]) (D d11_20) rfl rfl ?_
  refine go_iload_n 22 (D d11_21) rfl rfl ?_
  refine go_aload_n 23 (D d11_22) rfl rfl rfl ?_
  refine go_arraylength 24 p2 (D d11_23) rfl ?_
  refine go_icF 27 (D d11_24) rfl (by decide) ?_
  refine go_aload_n 28 (D d11_27) rfl rfl rfl ?_
  refine go_iload_n 29 (D d11_28) rfl rfl ?_
  refine go_caload 30 (i := 1) (v := (.int e1)) p2 (by decide) (by decide) rfl rfl (D d11_29) rfl ?_
  refine go_ireturn hret hlk (nar_c8 p4) (by simp) (D d11_30) (by decide) (by decide) ⟨_, rfl, ⟨rfl, rfl⟩⟩ (Keep.refl h0 [])
def Q_at0_2 (Z : State) (a b : Addr) (k : ClassId) (e0 e1 e2 : Int32) (h0 : Heap) (xv : Value) (h : Heap) : Prop := (.int e2) = xv ∧ h0 = h
theorem c_at0_2 (G : GH Z a0) (a b : Addr) (k : ClassId) (e0 e1 e2 : Int32) (h0 : Heap) (O0 : Old Z Z.heap.size h0) (p1 : Str Z h0 a []) (p2 : Arv Z h0 b k (.char) (3 : Int32) [(.int e0), (.int e1), (.int e2)] (.int 0)) (p3 : C8 e0) (p4 : C8 e1) (p5 : C8 e2) : Con false [] l Z (⟨"com/example/hew/hew/MethodKindNounPinLaw", "at", "(Ljava/lang/String;[CI)C"⟩ : MethodName) method_5_code 4 (some .char) [] (rm4 2 0 0 26) #[(.ref a), (.ref b), (.int 2)] h0 [] (rvl (Q_at0_2 Z a b k e0 e1 e2 h0)) := by
  refine conN G (plainFor_of_name pn4) O0 (fun m => ef11 m a b (2 : Int32)) ?_
  intro _ _ _ m_ _ _ _ D hml hret hlk hnm
  refine go_iload_n 1 (D d11_0) rfl rfl ?_
  refine go_aload_n 2 (D d11_1) rfl rfl rfl ?_
  refine callV0 (cells' := 0) (slots' := 0) (Wd := 1) (argsL := []) (rest := [(.int 2)]) (pay_len G O0 (n := (0 : Int32)) p1 rfl (by decide) (by decide)) p1.exa (wk G 23) (wk G 24) (wk G 26) (wk G 26) (wk G 25) pd5 (sz hml) all0 sf00 (D d11_2) (k_v 5 rfl ?_)
  rintro _ _ ⟨rfl, rfl⟩ -
  refine go_icT 14 (D d11_5) (by decide) rfl (by decide) ?_
  refine go_iload_n 15 (D d11_14) rfl rfl ?_
  refine go_aload_n 16 (D d11_15) rfl rfl rfl ?_
  refine callV0 (cells' := 0) (slots' := 0) (Wd := 1) (argsL := []) (rest := [(.int 2)]) (pay_len G O0 (n := (0 : Int32)) p1 rfl (by decide) (by decide)) p1.exa (wk G 23) (wk G 24) (wk G 26) (wk G 26) (wk G 25) pd5 (sz hml) all0 sf00 (D d11_16) (k_v 19 rfl ?_)
  rintro _ _ ⟨rfl, rfl⟩ -
  refine go_isub 20 (z := (2 : Int32)) (D d11_19) rfl (by decide) ?_
  refine go_istore_n 21 (ls' := #[vr a, vr b, vi 2, vi 2]) (D d11_20) rfl rfl ?_
  refine go_iload_n 22 (D d11_21) rfl rfl ?_
  refine go_aload_n 23 (D d11_22) rfl rfl rfl ?_
  refine go_arraylength 24 p2 (D d11_23) rfl ?_
  refine go_icF 27 (D d11_24) rfl (by decide) ?_
  refine go_aload_n 28 (D d11_27) rfl rfl rfl ?_
  refine go_iload_n 29 (D d11_28) rfl rfl ?_
  refine go_caload 30 (i := 2) (v := (.int e2)) p2 (by decide) (by decide) rfl rfl (D d11_29) rfl ?_
  refine go_ireturn hret hlk (nar_c8 p5) (by simp) (D d11_30) (by decide) (by decide) ⟨_, rfl, ⟨rfl, rfl⟩⟩ (Keep.refl h0 [])
def Q_at0_3 (Z : State) (a b : Addr) (k : ClassId) (e0 e1 e2 : Int32) (h0 : Heap) (xv : Value) (h : Heap) : Prop := (.int 120) = xv ∧ h0 = h
theorem c_at0_3 (G : GH Z a0) (a b : Addr) (k : ClassId) (e0 e1 e2 : Int32) (h0 : Heap) (O0 : Old Z Z.heap.size h0) (p1 : Str Z h0 a []) (p2 : Arv Z h0 b k (.char) (3 : Int32) [(.int e0), (.int e1), (.int e2)] (.int 0)) (p3 : C8 e0) (p4 : C8 e1) (p5 : C8 e2) : Con false [] l Z (⟨"com/example/hew/hew/MethodKindNounPinLaw", "at", "(Ljava/lang/String;[CI)C"⟩ : MethodName) method_5_code 4 (some .char) [] (rm4 2 0 0 26) #[(.ref a), (.ref b), (.int 3)] h0 [] (rvl (Q_at0_3 Z a b k e0 e1 e2 h0)) := by
  refine conN G (plainFor_of_name pn4) O0 (fun m => ef11 m a b (3 : Int32)) ?_
  intro _ _ _ m_ _ _ _ D hml hret hlk hnm
  refine go_iload_n 1 (D d11_0) rfl rfl ?_
  refine go_aload_n 2 (D d11_1) rfl rfl rfl ?_
  refine callV0 (cells' := 0) (slots' := 0) (Wd := 1) (argsL := []) (rest := [(.int 3)]) (pay_len G O0 (n := (0 : Int32)) p1 rfl (by decide) (by decide)) p1.exa (wk G 23) (wk G 24) (wk G 26) (wk G 26) (wk G 25) pd5 (sz hml) all0 sf00 (D d11_2) (k_v 5 rfl ?_)
  rintro _ _ ⟨rfl, rfl⟩ -
  refine go_icT 14 (D d11_5) (by decide) rfl (by decide) ?_
  refine go_iload_n 15 (D d11_14) rfl rfl ?_
  refine go_aload_n 16 (D d11_15) rfl rfl rfl ?_
  refine callV0 (cells' := 0) (slots' := 0) (Wd := 1) (argsL := []) (rest := [(.int 3)]) (pay_len G O0 (n := (0 : Int32)) p1 rfl (by decide) (by decide)) p1.exa (wk G 23) (wk G 24) (wk G 26) (wk G 26) (wk G 25) pd5 (sz hml) all0 sf00 (D d11_16) (k_v 19 rfl ?_)
  rintro _ _ ⟨rfl, rfl⟩ -
  refine go_isub 20 (z := (3 : Int32)) (D d11_19) rfl (by decide) ?_
  refine go_istore_n 21 (ls' := #[vr a, vr b, vi 3, vi 3]) (D d11_20) rfl rfl ?_
  refine go_iload_n 22 (D d11_21) rfl rfl ?_
  refine go_aload_n 23 (D d11_22) rfl rfl rfl ?_
  refine go_arraylength 24 p2 (D d11_23) rfl ?_
  refine go_icT 31 (D d11_24) (by decide) rfl (by decide) ?_
  refine go_bipush 33 (v := 120) (D d11_31) rfl rfl ?_
  refine go_ireturn hret hlk rfl (by simp) (D d11_33) (by decide) (by decide) ⟨_, rfl, ⟨rfl, rfl⟩⟩ (Keep.refl h0 [])
def Q_at0_4 (Z : State) (a b : Addr) (k : ClassId) (e0 e1 e2 : Int32) (h0 : Heap) (xv : Value) (h : Heap) : Prop := (.int 120) = xv ∧ h0 = h
theorem c_at0_4 (G : GH Z a0) (a b : Addr) (k : ClassId) (e0 e1 e2 : Int32) (h0 : Heap) (O0 : Old Z Z.heap.size h0) (p1 : Str Z h0 a []) (p2 : Arv Z h0 b k (.char) (3 : Int32) [(.int e0), (.int e1), (.int e2)] (.int 0)) (p3 : C8 e0) (p4 : C8 e1) (p5 : C8 e2) : Con false [] l Z (⟨"com/example/hew/hew/MethodKindNounPinLaw", "at", "(Ljava/lang/String;[CI)C"⟩ : MethodName) method_5_code 4 (some .char) [] (rm4 2 0 0 26) #[(.ref a), (.ref b), (.int 4)] h0 [] (rvl (Q_at0_4 Z a b k e0 e1 e2 h0)) := by
  refine conN G (plainFor_of_name pn4) O0 (fun m => ef11 m a b (4 : Int32)) ?_
  intro _ _ _ m_ _ _ _ D hml hret hlk hnm
  refine go_iload_n 1 (D d11_0) rfl rfl ?_
  refine go_aload_n 2 (D d11_1) rfl rfl rfl ?_
  refine callV0 (cells' := 0) (slots' := 0) (Wd := 1) (argsL := []) (rest := [(.int 4)]) (pay_len G O0 (n := (0 : Int32)) p1 rfl (by decide) (by decide)) p1.exa (wk G 23) (wk G 24) (wk G 26) (wk G 26) (wk G 25) pd5 (sz hml) all0 sf00 (D d11_2) (k_v 5 rfl ?_)
  rintro _ _ ⟨rfl, rfl⟩ -
  refine go_icT 14 (D d11_5) (by decide) rfl (by decide) ?_
  refine go_iload_n 15 (D d11_14) rfl rfl ?_
  refine go_aload_n 16 (D d11_15) rfl rfl rfl ?_
  refine callV0 (cells' := 0) (slots' := 0) (Wd := 1) (argsL := []) (rest := [(.int 4)]) (pay_len G O0 (n := (0 : Int32)) p1 rfl (by decide) (by decide)) p1.exa (wk G 23) (wk G 24) (wk G 26) (wk G 26) (wk G 25) pd5 (sz hml) all0 sf00 (D d11_16) (k_v 19 rfl ?_)
  rintro _ _ ⟨rfl, rfl⟩ -
  refine go_isub 20 (z := (4 : Int32)) (D d11_19) rfl (by decide) ?_
  refine go_istore_n 21 (ls' := #[vr a, vr b, vi 4, vi 4]) (D d11_20) rfl rfl ?_
  refine go_iload_n 22 (D d11_21) rfl rfl ?_
  refine go_aload_n 23 (D d11_22) rfl rfl rfl ?_
  refine go_arraylength 24 p2 (D d11_23) rfl ?_
  refine go_icT 31 (D d11_24) (by decide) rfl (by decide) ?_
  refine go_bipush 33 (v := 120) (D d11_31) rfl rfl ?_
  refine go_ireturn hret hlk rfl (by simp) (D d11_33) (by decide) (by decide) ⟨_, rfl, ⟨rfl, rfl⟩⟩ (Keep.refl h0 [])
def Q_at0_5 (Z : State) (a b : Addr) (k : ClassId) (e0 e1 e2 : Int32) (h0 : Heap) (xv : Value) (h : Heap) : Prop := (.int 120) = xv ∧ h0 = h
theorem c_at0_5 (G : GH Z a0) (a b : Addr) (k : ClassId) (e0 e1 e2 : Int32) (h0 : Heap) (O0 : Old Z Z.heap.size h0) (p1 : Str Z h0 a []) (p2 : Arv Z h0 b k (.char) (3 : Int32) [(.int e0), (.int e1), (.int e2)] (.int 0)) (p3 : C8 e0) (p4 : C8 e1) (p5 : C8 e2) : Con false [] l Z (⟨"com/example/hew/hew/MethodKindNounPinLaw", "at", "(Ljava/lang/String;[CI)C"⟩ : MethodName) method_5_code 4 (some .char) [] (rm4 2 0 0 26) #[(.ref a), (.ref b), (.int 5)] h0 [] (rvl (Q_at0_5 Z a b k e0 e1 e2 h0)) := by
  refine conN G (plainFor_of_name pn4) O0 (fun m => ef11 m a b (5 : Int32)) ?_
  intro _ _ _ m_ _ _ _ D hml hret hlk hnm
  refine go_iload_n 1 (D d11_0) rfl rfl ?_
  refine go_aload_n 2 (D d11_1) rfl rfl rfl ?_
  refine callV0 (cells' := 0) (slots' := 0) (Wd := 1) (argsL := []) (rest := [(.int 5)]) (pay_len G O0 (n := (0 : Int32)) p1 rfl (by decide) (by decide)) p1.exa (wk G 23) (wk G 24) (wk G 26) (wk G 26) (wk G 25) pd5 (sz hml) all0 sf00 (D d11_2) (k_v 5 rfl ?_)
  rintro _ _ ⟨rfl, rfl⟩ -
  refine go_icT 14 (D d11_5) (by decide) rfl (by decide) ?_
  refine go_iload_n 15 (D d11_14) rfl rfl ?_
  refine go_aload_n 16 (D d11_15) rfl rfl rfl ?_
  refine callV0 (cells' := 0) (slots' := 0) (Wd := 1) (argsL := []) (rest := [(.int 5)]) (pay_len G O0 (n := (0 : Int32)) p1 rfl (by decide) (by decide)) p1.exa (wk G 23) (wk G 24) (wk G 26) (wk G 26) (wk G 25) pd5 (sz hml) all0 sf00 (D d11_16) (k_v 19 rfl ?_)
  rintro _ _ ⟨rfl, rfl⟩ -
  refine go_isub 20 (z := (5 : Int32)) (D d11_19) rfl (by decide) ?_
  refine go_istore_n 21 (ls' := #[vr a, vr b, vi 5, vi 5]) (D d11_20) rfl rfl ?_
  refine go_iload_n 22 (D d11_21) rfl rfl ?_
  refine go_aload_n 23 (D d11_22) rfl rfl rfl ?_
  refine go_arraylength 24 p2 (D d11_23) rfl ?_
  refine go_icT 31 (D d11_24) (by decide) rfl (by decide) ?_
  refine go_bipush 33 (v := 120) (D d11_31) rfl rfl ?_
  refine go_ireturn hret hlk rfl (by simp) (D d11_33) (by decide) (by decide) ⟨_, rfl, ⟨rfl, rfl⟩⟩ (Keep.refl h0 [])
def Q_at0_6 (Z : State) (a b : Addr) (k : ClassId) (e0 e1 e2 : Int32) (h0 : Heap) (xv : Value) (h : Heap) : Prop := (.int 120) = xv ∧ h0 = h
theorem c_at0_6 (G : GH Z a0) (a b : Addr) (k : ClassId) (e0 e1 e2 : Int32) (h0 : Heap) (O0 : Old Z Z.heap.size h0) (p1 : Str Z h0 a []) (p2 : Arv Z h0 b k (.char) (3 : Int32) [(.int e0), (.int e1), (.int e2)] (.int 0)) (p3 : C8 e0) (p4 : C8 e1) (p5 : C8 e2) : Con false [] l Z (⟨"com/example/hew/hew/MethodKindNounPinLaw", "at", "(Ljava/lang/String;[CI)C"⟩ : MethodName) method_5_code 4 (some .char) [] (rm4 2 0 0 26) #[(.ref a), (.ref b), (.int 6)] h0 [] (rvl (Q_at0_6 Z a b k e0 e1 e2 h0)) := by
  refine conN G (plainFor_of_name pn4) O0 (fun m => ef11 m a b (6 : Int32)) ?_
  intro _ _ _ m_ _ _ _ D hml hret hlk hnm
  refine go_iload_n 1 (D d11_0) rfl rfl ?_
  refine go_aload_n 2 (D d11_1) rfl rfl rfl ?_
  refine callV0 (cells' := 0) (slots' := 0) (Wd := 1) (argsL := []) (rest := [(.int 6)]) (pay_len G O0 (n := (0 : Int32)) p1 rfl (by decide) (by decide)) p1.exa (wk G 23) (wk G 24) (wk G 26) (wk G 26) (wk G 25) pd5 (sz hml) all0 sf00 (D d11_2) (k_v 5 rfl ?_)
  rintro _ _ ⟨rfl, rfl⟩ -
  refine go_icT 14 (D d11_5) (by decide) rfl (by decide) ?_
  refine go_iload_n 15 (D d11_14) rfl rfl ?_
  refine go_aload_n 16 (D d11_15) rfl rfl rfl ?_
  refine callV0 (cells' := 0) (slots' := 0) (Wd := 1) (argsL := []) (rest := [(.int 6)]) (pay_len G O0 (n := (0 : Int32)) p1 rfl (by decide) (by decide)) p1.exa (wk G 23) (wk G 24) (wk G 26) (wk G 26) (wk G 25) pd5 (sz hml) all0 sf00 (D d11_16) (k_v 19 rfl ?_)
  rintro _ _ ⟨rfl, rfl⟩ -
  refine go_isub 20 (z := (6 : Int32)) (D d11_19) rfl (by decide) ?_
  refine go_istore_n 21 (ls' := #[vr a, vr b, vi 6, vi 6]) (D d11_20) rfl rfl ?_
  refine go_iload_n 22 (D d11_21) rfl rfl ?_
  refine go_aload_n 23 (D d11_22) rfl rfl rfl ?_
  refine go_arraylength 24 p2 (D d11_23) rfl ?_
  refine go_icT 31 (D d11_24) (by decide) rfl (by decide) ?_
  refine go_bipush 33 (v := 120) (D d11_31) rfl rfl ?_
  refine go_ireturn hret hlk rfl (by simp) (D d11_33) (by decide) (by decide) ⟨_, rfl, ⟨rfl, rfl⟩⟩ (Keep.refl h0 [])
def Q_at0_7 (Z : State) (a b : Addr) (k : ClassId) (e0 e1 e2 : Int32) (h0 : Heap) (xv : Value) (h : Heap) : Prop := (.int 120) = xv ∧ h0 = h
theorem c_at0_7 (G : GH Z a0) (a b : Addr) (k : ClassId) (e0 e1 e2 : Int32) (h0 : Heap) (O0 : Old Z Z.heap.size h0) (p1 : Str Z h0 a []) (p2 : Arv Z h0 b k (.char) (3 : Int32) [(.int e0), (.int e1), (.int e2)] (.int 0)) (p3 : C8 e0) (p4 : C8 e1) (p5 : C8 e2) : Con false [] l Z (⟨"com/example/hew/hew/MethodKindNounPinLaw", "at", "(Ljava/lang/String;[CI)C"⟩ : MethodName) method_5_code 4 (some .char) [] (rm4 2 0 0 26) #[(.ref a), (.ref b), (.int 7)] h0 [] (rvl (Q_at0_7 Z a b k e0 e1 e2 h0)) := by
  refine conN G (plainFor_of_name pn4) O0 (fun m => ef11 m a b (7 : Int32)) ?_
  intro _ _ _ m_ _ _ _ D hml hret hlk hnm
  refine go_iload_n 1 (D d11_0) rfl rfl ?_
  refine go_aload_n 2 (D d11_1) rfl rfl rfl ?_
  refine callV0 (cells' := 0) (slots' := 0) (Wd := 1) (argsL := []) (rest := [(.int 7)]) (pay_len G O0 (n := (0 : Int32)) p1 rfl (by decide) (by decide)) p1.exa (wk G 23) (wk G 24) (wk G 26) (wk G 26) (wk G 25) pd5 (sz hml) all0 sf00 (D d11_2) (k_v 5 rfl ?_)
  rintro _ _ ⟨rfl, rfl⟩ -
  refine go_icT 14 (D d11_5) (by decide) rfl (by decide) ?_
  refine go_iload_n 15 (D d11_14) rfl rfl ?_
  refine go_aload_n 16 (D d11_15) rfl rfl rfl ?_
  refine callV0 (cells' := 0) (slots' := 0) (Wd := 1) (argsL := []) (rest := [(.int 7)]) (pay_len G O0 (n := (0 : Int32)) p1 rfl (by decide) (by decide)) p1.exa (wk G 23) (wk G 24) (wk G 26) (wk G 26) (wk G 25) pd5 (sz hml) all0 sf00 (D d11_16) (k_v 19 rfl ?_)
  rintro _ _ ⟨rfl, rfl⟩ -
  refine go_isub 20 (z := (7 : Int32)) (D d11_19) rfl (by decide) ?_
  refine go_istore_n 21 (ls' := #[vr a, vr b, vi 7, vi 7]) (D d11_20) rfl rfl ?_
  refine go_iload_n 22 (D d11_21) rfl rfl ?_
  refine go_aload_n 23 (D d11_22) rfl rfl rfl ?_
  refine go_arraylength 24 p2 (D d11_23) rfl ?_
  refine go_icT 31 (D d11_24) (by decide) rfl (by decide) ?_
  refine go_bipush 33 (v := 120) (D d11_31) rfl rfl ?_
  refine go_ireturn hret hlk rfl (by simp) (D d11_33) (by decide) (by decide) ⟨_, rfl, ⟨rfl, rfl⟩⟩ (Keep.refl h0 [])
def Q_at0_8 (Z : State) (a b : Addr) (k : ClassId) (e0 e1 e2 : Int32) (h0 : Heap) (xv : Value) (h : Heap) : Prop := (.int 120) = xv ∧ h0 = h
theorem c_at0_8 (G : GH Z a0) (a b : Addr) (k : ClassId) (e0 e1 e2 : Int32) (h0 : Heap) (O0 : Old Z Z.heap.size h0) (p1 : Str Z h0 a []) (p2 : Arv Z h0 b k (.char) (3 : Int32) [(.int e0), (.int e1), (.int e2)] (.int 0)) (p3 : C8 e0) (p4 : C8 e1) (p5 : C8 e2) : Con false [] l Z (⟨"com/example/hew/hew/MethodKindNounPinLaw", "at", "(Ljava/lang/String;[CI)C"⟩ : MethodName) method_5_code 4 (some .char) [] (rm4 2 0 0 26) #[(.ref a), (.ref b), (.int 8)] h0 [] (rvl (Q_at0_8 Z a b k e0 e1 e2 h0)) := by
  refine conN G (plainFor_of_name pn4) O0 (fun m => ef11 m a b (8 : Int32)) ?_
  intro _ _ _ m_ _ _ _ D hml hret hlk hnm
  refine go_iload_n 1 (D d11_0) rfl rfl ?_
  refine go_aload_n 2 (D d11_1) rfl rfl rfl ?_
  refine callV0 (cells' := 0) (slots' := 0) (Wd := 1) (argsL := []) (rest := [(.int 8)]) (pay_len G O0 (n := (0 : Int32)) p1 rfl (by decide) (by decide)) p1.exa (wk G 23) (wk G 24) (wk G 26) (wk G 26) (wk G 25) pd5 (sz hml) all0 sf00 (D d11_2) (k_v 5 rfl ?_)
  rintro _ _ ⟨rfl, rfl⟩ -
  refine go_icT 14 (D d11_5) (by decide) rfl (by decide) ?_
  refine go_iload_n 15 (D d11_14) rfl rfl ?_
  refine go_aload_n 16 (D d11_15) rfl rfl rfl ?_
  refine callV0 (cells' := 0) (slots' := 0) (Wd := 1) (argsL := []) (rest := [(.int 8)]) (pay_len G O0 (n := (0 : Int32)) p1 rfl (by decide) (by decide)) p1.exa (wk G 23) (wk G 24) (wk G 26) (wk G 26) (wk G 25) pd5 (sz hml) all0 sf00 (D d11_16) (k_v 19 rfl ?_)
  rintro _ _ ⟨rfl, rfl⟩ -
  refine go_isub 20 (z := (8 : Int32)) (D d11_19) rfl (by decide) ?_
  refine go_istore_n 21 (ls' := #[vr a, vr b, vi 8, vi 8]) (D d11_20) rfl rfl ?_
  refine go_iload_n 22 (D d11_21) rfl rfl ?_
  refine go_aload_n 23 (D d11_22) rfl rfl rfl ?_
  refine go_arraylength 24 p2 (D d11_23) rfl ?_
  refine go_icT 31 (D d11_24) (by decide) rfl (by decide) ?_
  refine go_bipush 33 (v := 120) (D d11_31) rfl rfl ?_
  refine go_ireturn hret hlk rfl (by simp) (D d11_33) (by decide) (by decide) ⟨_, rfl, ⟨rfl, rfl⟩⟩ (Keep.refl h0 [])
def Q_take9_0 (Z : State) (a : Addr) (k : ClassId) (e0 e1 e2 e3 e4 e5 e6 e7 e8 : Int32) (h0 : Heap) (xv : Value) (h : Heap) : Prop := ∃ (r : Addr), (.ref r) = xv ∧ h0.size ≤ r ∧ Str Z h r []
theorem c_take9_0 (G : GH Z a0) (a : Addr) (k : ClassId) (e0 e1 e2 e3 e4 e5 e6 e7 e8 : Int32) (h0 : Heap) (O0 : Old Z Z.heap.size h0) (p1 : Arv Z h0 a k (.char) (9 : Int32) [(.int e0), (.int e1), (.int e2), (.int e3), (.int e4), (.int e5), (.int e6), (.int e7), (.int e8)] (.int 0)) : Con true EL1 l Z (⟨"com/example/hew/hew/MethodKindNounPinLaw", "take", "([CI)Ljava/lang/String;"⟩ : MethodName) method_6_code 2 (some (.object "java/lang/String")) [] (rm4 3 6 12 43) #[(.ref a), (.int 0)] h0 [] (rvl (Q_take9_0 Z a k e0 e1 e2 e3 e4 e5 e6 e7 e8 h0)) := by
  refine conW G (plainFor_of_name pn4) O0 (fun m => ef12 m a (0 : Int32)) ?_
  intro _ _ _ m_ _ _ _ D hml hret hlk hnm
  refine go_iload_n 1 (D d12_0) rfl rfl ?_
  refine go_ifF 4 (D d12_1) rfl (by decide) ?_
  refine go_newO 7 (cells' := 1) (slots' := 4) (wk G 61) (wk G 13) (wk G 12) (D d12_4) rfl rfl rfl (by decide) (by decide) (fun h1 a2 g3 X4 E5 D6 U7 => ?_)
  refine go_dup 8 (D d12_7) rfl rfl ?_
  refine go_iconst 9 (v := 0) (D d12_8) rfl rfl ?_
  refine go_newP 11 (cells' := 2) (slots' := 4) (cap := 0) (vs := []) (ty := .char) (dv := .int 0) (wk G 19) rfl rfl (D d12_9) rfl (by decide) rfl (by decide) rfl rfl rfl (by decide) (by decide) (fun h8 a9 k13 g10 X11 A12 => ?_)
  have K14 : Keep h1 h8 [] := ((Keep.refl h1 []).ext X11)
  have E15 := (E5.keep K14)
  have F16 := D6 (Or.inr (wk G 15)) (ty := (.array .byte)) (by decide)
  have F17 := (F16.keep K14 nin0)
  have F18 := D6 (Or.inr (wk G 16)) (ty := .byte) (by decide)
  have F19 := (F18.keep K14 nin0)
  refine go_old (fun O20 => ?_)
  refine callIW0 rfl (cells' := 6) (slots' := 12) (Wd := 1) (argsL := [(.ref a9)]) (rest := [(.ref a2)]) (payW_of (a0 := a0) (c_new0 l G a2 a9 k13 h8 O20 E15 (Nat.le_trans O0.2.1 (Nat.le_of_eq g3)) F17 F19 A12) (wk G 64) (wk G 12) (ew1 G)) rfl (wk G 62) (wk G 63) (wk G 64) pd8 (sz hml) (allS (Nat.le_trans O0.2.1 (Nat.le_of_eq g3)) all0) (D d12_11) (k_n 14 rfl ?_)
  rintro  h21 f23 K22
  have K24 : Keep h0 h1 [] := ((Keep.refl h0 []).ext X4)
  have K25 : Keep h0 h8 [] := (K24.ext X11)
  have K26 : Keep h0 h21 [] := (K25.trans K22 (allS (Or.inr (Nat.le_of_eq g3)) all0))
  refine go_areturn hret hlk rfl rfl (D d12_14) (by decide) (by decide) ⟨_, rfl, ⟨a2, rfl, (Nat.le_of_eq g3), f23⟩⟩ K26
def Q_noun0_0 (Z : State) (a b p : Addr) (h0 : Heap) (xv : Value) (h : Heap) : Prop := (.ref b) = xv ∧ h0 = h
def Q_subi0_0 (Z : State) (a : Addr) (h0 : Heap) (xv : Value) (h : Heap) : Prop := (.ref a) = xv ∧ h0 = h
def Q_sub0_0_0 (Z : State) (a : Addr) (h0 : Heap) (xv : Value) (h : Heap) : Prop := (.ref a) = xv ∧ h0 = h
theorem c_sub0_0_0 (G : GH Z a0) (a : Addr)  (h0 : Heap) (O0 : Old Z Z.heap.size h0) (p1 : Str Z h0 a []) : Con false [] l Z (⟨"java/lang/String", "substring", "(II)Ljava/lang/String;"⟩ : MethodName) jdk_42_method_92_code 5 (some (.object "java/lang/String")) [] (rm4 2 0 0 29) #[(.ref a), (.int 0), (.int 0)] h0 [] (rvl (Q_sub0_0_0 Z a h0)) := by
  refine conN G (plainFor_of_name pn1) O0 (fun m => ef13 m a (0 : Int32) (0 : Int32)) ?_
  intro _ _ _ m_ _ _ _ D hml hret hlk hnm
  refine go_aload_n 1 (D d15_0) rfl rfl rfl ?_
  refine callV0 (cells' := 0) (slots' := 0) (Wd := 0) (argsL := []) (rest := []) (pay_len G O0 (n := (0 : Int32)) p1 rfl (by decide) (by decide)) p1.exa (wk G 95) (wk G 24) (wk G 26) (wk G 26) (wk G 25) pd5 (sz hml) all0 sf00 (D d15_1) (k_v 4 rfl ?_)
  rintro _ _ ⟨rfl, rfl⟩ -
  refine go_istore_n 5 (ls' := #[vr a, vi 0, vi 0, vi 0, un]) (D d15_4) rfl rfl ?_
  refine go_iload_n 6 (D d15_5) rfl rfl ?_
  refine go_iload_n 7 (D d15_6) rfl rfl ?_
  refine go_iload_n 8 (D d15_7) rfl rfl ?_
  refine callS0 (cells' := 0) (slots' := 0) (Wd := 0) (argsL := [(.int 0), (.int 0), (.int 0)]) (rest := []) (pay_of (a0 := a0) (c_cbbe l G (0 : Int32) (0 : Int32) (0 : Int32) h0 O0 (by decide) (by decide) (by decide)) (wk G 103) (wk G 12)) (wk G 101) (wk G 102) (wk G 12) (wk G 103) pd10 (sz hml) all0 sf00 (D d15_8) (k_n 11 rfl ?_)
  rintro  h1 rfl K2
  refine go_iload_n 12 (D d15_11) rfl rfl ?_
  refine go_ifF 15 (D d15_12) rfl (by decide) ?_
  refine go_iload_n 16 (D d15_15) rfl rfl ?_
  refine go_iload_n 17 (D d15_16) rfl rfl ?_
  refine go_icF 20 (D d15_17) rfl (by decide) ?_
  refine go_aload_n 21 (D d15_20) rfl rfl rfl ?_
  refine go_areturn hret hlk rfl rfl (D d15_21) (by decide) (by decide) ⟨_, rfl, ⟨rfl, rfl⟩⟩ (Keep.refl h0 [])
theorem c_subi0_0 (G : GH Z a0) (a : Addr)  (h0 : Heap) (O0 : Old Z Z.heap.size h0) (p1 : Str Z h0 a []) : Con false [] l Z (⟨"java/lang/String", "substring", "(I)Ljava/lang/String;"⟩ : MethodName) jdk_42_method_91_code 2 (some (.object "java/lang/String")) [] (rm4 3 0 0 45) #[(.ref a), (.int 0)] h0 [] (rvl (Q_subi0_0 Z a h0)) := by
  refine conN G (plainFor_of_name pn1) O0 (fun m => ef12 m a (0 : Int32)) ?_
  intro _ _ _ m_ _ _ _ D hml hret hlk hnm
  refine go_aload_n 1 (D d14_0) rfl rfl rfl ?_
  refine go_iload_n 2 (D d14_1) rfl rfl ?_
  refine go_aload_n 3 (D d14_2) rfl rfl rfl ?_
  refine callV0 (cells' := 0) (slots' := 0) (Wd := 2) (argsL := []) (rest := [(.int 0), (.ref a)]) (pay_len G O0 (n := (0 : Int32)) p1 rfl (by decide) (by decide)) p1.exa (wk G 95) (wk G 24) (wk G 26) (wk G 26) (wk G 25) pd5 (sz hml) all0 sf00 (D d14_3) (k_v 6 rfl ?_)
  rintro _ _ ⟨rfl, rfl⟩ -
  refine callV0 (cells' := 0) (slots' := 0) (Wd := 0) (argsL := [(.int 0), (.int 0)]) (rest := []) (pay_of (a0 := a0) (c_sub0_0_0 l G a h0 O0 p1) (wk G 100) (wk G 12)) p1.exa (wk G 96) (wk G 97) (wk G 99) (wk G 99) (wk G 98) pd13 (sz hml) all0 sf00 (D d14_6) (k_v 9 rfl ?_)
  rintro _ h1 ⟨rfl, rfl⟩ K2
  refine go_areturn hret hlk rfl rfl (D d14_9) (by decide) (by decide) ⟨_, rfl, ⟨rfl, rfl⟩⟩ (Keep.refl h0 [])
theorem c_noun0_0 (G : GH Z a0) (a b : Addr) (p : Addr) (h0 : Heap) (O0 : Old Z Z.heap.size h0) (p1 : Fld Z h0 a "com/example/hew/hew/MethodKind" "prefix" "Ljava/lang/String;" (.ref p)) (p2 : Str Z h0 p []) (p3 : Str Z h0 b []) : Con false [] l Z (⟨"com/example/hew/hew/MethodKind", "noun", "(Ljava/lang/String;)Ljava/lang/String;"⟩ : MethodName) prog_32_method_8_code 2 (some (.object "java/lang/String")) [] (rm4 4 0 0 58) #[(.ref a), (.ref b)] h0 [] (rvl (Q_noun0_0 Z a b p h0)) := by
  refine conN G (plainFor_of_name pn6) O0 (fun m => ef3 m a b) ?_
  intro _ _ _ m_ _ _ _ D hml hret hlk hnm
  refine go_aload_n 1 (D d13_0) rfl rfl rfl ?_
  refine go_aload_n 2 (D d13_1) rfl rfl rfl ?_
  refine go_getF 5 (wk G 87) Via.refl p1 (D d13_2) rfl ?_
  refine callV0 (cells' := 0) (slots' := 0) (Wd := 1) (argsL := []) (rest := [(.ref b)]) (pay_len G O0 (n := (0 : Int32)) p2 rfl (by decide) (by decide)) p2.exa (wk G 89) (wk G 24) (wk G 26) (wk G 26) (wk G 25) pd5 (sz hml) all0 sf00 (D d13_5) (k_v 8 rfl ?_)
  rintro _ _ ⟨rfl, rfl⟩ -
  refine callV0 (cells' := 0) (slots' := 0) (Wd := 0) (argsL := [(.int 0)]) (rest := []) (pay_of (a0 := a0) (c_subi0_0 l G b h0 O0 p3) (wk G 94) (wk G 12)) p3.exa (wk G 90) (wk G 91) (wk G 93) (wk G 93) (wk G 92) pd4 (sz hml) all0 sf00 (D d13_8) (k_v 11 rfl ?_)
  rintro _ h1 ⟨rfl, rfl⟩ K2
  refine go_areturn hret hlk rfl rfl (D d13_11) (by decide) (by decide) ⟨_, rfl, ⟨rfl, rfl⟩⟩ (Keep.refl h0 [])
def Q_take9_1 (Z : State) (a : Addr) (k : ClassId) (e0 e1 e2 e3 e4 e5 e6 e7 e8 : Int32) (h0 : Heap) (xv : Value) (h : Heap) : Prop := ∃ (r : Addr), (.ref r) = xv ∧ h0.size ≤ r ∧ Str Z h r [e0]
theorem c_take9_1 (G : GH Z a0) (a : Addr) (k : ClassId) (e0 e1 e2 e3 e4 e5 e6 e7 e8 : Int32) (h0 : Heap) (O0 : Old Z Z.heap.size h0) (p1 : Arv Z h0 a k (.char) (9 : Int32) [(.int e0), (.int e1), (.int e2), (.int e3), (.int e4), (.int e5), (.int e6), (.int e7), (.int e8)] (.int 0)) (p2 : C8 e0) : Con false [] l Z (⟨"com/example/hew/hew/MethodKindNounPinLaw", "take", "([CI)Ljava/lang/String;"⟩ : MethodName) method_6_code 2 (some (.object "java/lang/String")) [] (rm4 4 3 6 66) #[(.ref a), (.int 1)] h0 [] (rvl (Q_take9_1 Z a k e0 e1 e2 e3 e4 e5 e6 e7 e8 h0)) := by
  refine conN G (plainFor_of_name pn4) O0 (fun m => ef12 m a (1 : Int32)) ?_
  intro _ _ _ m_ _ _ _ D hml hret hlk hnm
  refine go_iload_n 1 (D d12_0) rfl rfl ?_
  refine go_ifT 15 (D d12_1) (by decide) rfl (by decide) ?_
  refine go_iload_n 16 (D d12_15) rfl rfl ?_
  refine go_iconst 17 (v := 1) (D d12_16) rfl rfl ?_
  refine go_icF 20 (D d12_17) rfl (by decide) ?_
  refine go_newO 23 (cells' := 1) (slots' := 4) (wk G 61) (wk G 13) (wk G 12) (D d12_20) rfl rfl rfl (by decide) (by decide) (fun h1 a2 g3 X4 E5 D6 U7 => ?_)
  refine go_dup 24 (D d12_23) rfl rfl ?_
  refine go_iconst 25 (v := 1) (D d12_24) rfl rfl ?_
  refine go_newP 27 (cells' := 2) (slots' := 5) (cap := 1) (vs := [(.int 0)]) (ty := .char) (dv := .int 0) (wk G 19) rfl rfl (D d12_25) rfl (by decide) rfl (by decide) rfl rfl rfl (by decide) (by decide) (fun h8 a9 k13 g10 X11 A12 => ?_)
  refine go_dup 28 (D d12_27) rfl rfl ?_
  refine go_iconst 29 (v := 0) (D d12_28) rfl rfl ?_
  refine go_aload_n 30 (D d12_29) rfl rfl rfl ?_
  refine go_iconst 31 (v := 0) (D d12_30) rfl rfl ?_
  have K14 : Keep h0 h1 [] := ((Keep.refl h0 []).ext X4)
  have K15 : Keep h0 h8 [] := (K14.ext X11)
  have A16 := (p1.keep K15 nin0)
  refine go_caload 32 (i := 0) (v := (.int e0)) A16 (by decide) (by decide) rfl rfl (D d12_31) rfl ?_
  refine go_stC 33 (i := 0) (x' := e0) (vs' := [(.int e0)]) A12 (Nat.le_trans O0.2.1 (Nat.le_trans K14.1 (Nat.le_of_eq g10))) (by decide) (by decide) rfl (nb rfl) (i2c_c8 p2) rfl (D d12_32) rfl (fun h17 W18 A19 => ?_)
  have K20 : Keep h1 h8 [] := ((Keep.refl h1 []).ext X11)
  have K21 : Keep h1 h17 [] := (K20.wr W18 (Or.inr (Nat.le_of_eq g10)))
  have E22 := (E5.keep K21)
  have F23 := D6 (Or.inr (wk G 15)) (ty := (.array .byte)) (by decide)
  have F24 := (F23.keep K21 nin0)
  have F25 := D6 (Or.inr (wk G 16)) (ty := .byte) (by decide)
  have F26 := (F25.keep K21 nin0)
  refine go_old (fun O27 => ?_)
  refine callI0 (cells' := 3) (slots' := 6) (Wd := 1) (argsL := [(.ref a9)]) (rest := [(.ref a2)]) (pay_new G O27 (cs := [e0]) (n := 1) (Nat.le_trans O0.2.1 (Nat.le_of_eq g3)) E22 F24 F26 A19 rfl rfl (by decide) (by decide) (c8c p2 c8n) (by decide) (by decide)) rfl (wk G 62) (wk G 63) (wk G 64) pd8 (sz hml) (allS (Nat.le_trans O0.2.1 (Nat.le_of_eq g3)) all0) (fun _ hal => (sfS safe_nil sf0)) (D d12_33) (k_n 36 rfl ?_)
  rintro h28 S30 K29
  have K31 : Keep h0 h17 [] := (K15.wr W18 (Or.inr (Nat.le_trans K14.1 (Nat.le_of_eq g10))))
  have K32 : Keep h0 h28 [] := (K31.trans K29 (allS (Or.inr (Nat.le_of_eq g3)) all0))
  refine go_areturn hret hlk rfl rfl (D d12_36) (by decide) (by decide) ⟨_, rfl, ⟨a2, rfl, (Nat.le_of_eq g3), S30⟩⟩ K32
def Q_noun0_1 (Z : State) (a b p : Addr) (c0 : Int32) (h0 : Heap) (xv : Value) (h : Heap) : Prop := (.ref b) = xv ∧ h0 = h
def Q_subi0_1 (Z : State) (a : Addr) (c0 : Int32) (h0 : Heap) (xv : Value) (h : Heap) : Prop := (.ref a) = xv ∧ h0 = h
def Q_sub0_1_1 (Z : State) (a : Addr) (c0 : Int32) (h0 : Heap) (xv : Value) (h : Heap) : Prop := (.ref a) = xv ∧ h0 = h
theorem c_sub0_1_1 (G : GH Z a0) (a : Addr) (c0 : Int32) (h0 : Heap) (O0 : Old Z Z.heap.size h0) (p1 : Str Z h0 a [c0]) : Con false [] l Z (⟨"java/lang/String", "substring", "(II)Ljava/lang/String;"⟩ : MethodName) jdk_42_method_92_code 5 (some (.object "java/lang/String")) [] (rm4 2 0 0 29) #[(.ref a), (.int 0), (.int 1)] h0 [] (rvl (Q_sub0_1_1 Z a c0 h0)) := by
  refine conN G (plainFor_of_name pn1) O0 (fun m => ef13 m a (0 : Int32) (1 : Int32)) ?_
  intro _ _ _ m_ _ _ _ D hml hret hlk hnm
  have q1 : C8 c0 := by obtain ⟨_, _, _, _, _, _, q, _⟩ := id p1; exact q _ (by simp)
  refine go_aload_n 1 (D d15_0) rfl rfl rfl ?_
  refine callV0 (cells' := 0) (slots' := 0) (Wd := 0) (argsL := []) (rest := []) (pay_len G O0 (n := (1 : Int32)) p1 rfl (by decide) (by decide)) p1.exa (wk G 95) (wk G 24) (wk G 26) (wk G 26) (wk G 25) pd5 (sz hml) all0 sf00 (D d15_1) (k_v 4 rfl ?_)
  rintro _ _ ⟨rfl, rfl⟩ -
  refine go_istore_n 5 (ls' := #[vr a, vi 0, vi 1, vi 1, un]) (D d15_4) rfl rfl ?_
  refine go_iload_n 6 (D d15_5) rfl rfl ?_
  refine go_iload_n 7 (D d15_6) rfl rfl ?_
  refine go_iload_n 8 (D d15_7) rfl rfl ?_
  refine callS0 (cells' := 0) (slots' := 0) (Wd := 0) (argsL := [(.int 0), (.int 1), (.int 1)]) (rest := []) (pay_of (a0 := a0) (c_cbbe l G (0 : Int32) (1 : Int32) (1 : Int32) h0 O0 (by decide) (by decide) (by decide)) (wk G 103) (wk G 12)) (wk G 101) (wk G 102) (wk G 12) (wk G 103) pd10 (sz hml) all0 sf00 (D d15_8) (k_n 11 rfl ?_)
  rintro  h2 rfl K3
  refine go_iload_n 12 (D d15_11) rfl rfl ?_
  refine go_ifF 15 (D d15_12) rfl (by decide) ?_
  refine go_iload_n 16 (D d15_15) rfl rfl ?_
  refine go_iload_n 17 (D d15_16) rfl rfl ?_
  refine go_icF 20 (D d15_17) rfl (by decide) ?_
  refine go_aload_n 21 (D d15_20) rfl rfl rfl ?_
  refine go_areturn hret hlk rfl rfl (D d15_21) (by decide) (by decide) ⟨_, rfl, ⟨rfl, rfl⟩⟩ (Keep.refl h0 [])
theorem c_subi0_1 (G : GH Z a0) (a : Addr) (c0 : Int32) (h0 : Heap) (O0 : Old Z Z.heap.size h0) (p1 : Str Z h0 a [c0]) : Con false [] l Z (⟨"java/lang/String", "substring", "(I)Ljava/lang/String;"⟩ : MethodName) jdk_42_method_91_code 2 (some (.object "java/lang/String")) [] (rm4 3 0 0 45) #[(.ref a), (.int 0)] h0 [] (rvl (Q_subi0_1 Z a c0 h0)) := by
  refine conN G (plainFor_of_name pn1) O0 (fun m => ef12 m a (0 : Int32)) ?_
  intro _ _ _ m_ _ _ _ D hml hret hlk hnm
  have q1 : C8 c0 := by obtain ⟨_, _, _, _, _, _, q, _⟩ := id p1; exact q _ (by simp)
  refine go_aload_n 1 (D d14_0) rfl rfl rfl ?_
  refine go_iload_n 2 (D d14_1) rfl rfl ?_
  refine go_aload_n 3 (D d14_2) rfl rfl rfl ?_
  refine callV0 (cells' := 0) (slots' := 0) (Wd := 2) (argsL := []) (rest := [(.int 0), (.ref a)]) (pay_len G O0 (n := (1 : Int32)) p1 rfl (by decide) (by decide)) p1.exa (wk G 95) (wk G 24) (wk G 26) (wk G 26) (wk G 25) pd5 (sz hml) all0 sf00 (D d14_3) (k_v 6 rfl ?_)
  rintro _ _ ⟨rfl, rfl⟩ -
  refine callV0 (cells' := 0) (slots' := 0) (Wd := 0) (argsL := [(.int 0), (.int 1)]) (rest := []) (pay_of (a0 := a0) (c_sub0_1_1 l G a c0 h0 O0 p1) (wk G 100) (wk G 12)) p1.exa (wk G 96) (wk G 97) (wk G 99) (wk G 99) (wk G 98) pd13 (sz hml) all0 sf00 (D d14_6) (k_v 9 rfl ?_)
  rintro _ h2 ⟨rfl, rfl⟩ K3
  refine go_areturn hret hlk rfl rfl (D d14_9) (by decide) (by decide) ⟨_, rfl, ⟨rfl, rfl⟩⟩ (Keep.refl h0 [])
theorem c_noun0_1 (G : GH Z a0) (a b : Addr) (p : Addr) (c0 : Int32) (h0 : Heap) (O0 : Old Z Z.heap.size h0) (p1 : Fld Z h0 a "com/example/hew/hew/MethodKind" "prefix" "Ljava/lang/String;" (.ref p)) (p2 : Str Z h0 p []) (p3 : Str Z h0 b [c0]) : Con false [] l Z (⟨"com/example/hew/hew/MethodKind", "noun", "(Ljava/lang/String;)Ljava/lang/String;"⟩ : MethodName) prog_32_method_8_code 2 (some (.object "java/lang/String")) [] (rm4 4 0 0 58) #[(.ref a), (.ref b)] h0 [] (rvl (Q_noun0_1 Z a b p c0 h0)) := by
  refine conN G (plainFor_of_name pn6) O0 (fun m => ef3 m a b) ?_
  intro _ _ _ m_ _ _ _ D hml hret hlk hnm
  refine go_aload_n 1 (D d13_0) rfl rfl rfl ?_
  refine go_aload_n 2 (D d13_1) rfl rfl rfl ?_
  refine go_getF 5 (wk G 87) Via.refl p1 (D d13_2) rfl ?_
  refine callV0 (cells' := 0) (slots' := 0) (Wd := 1) (argsL := []) (rest := [(.ref b)]) (pay_len G O0 (n := (0 : Int32)) p2 rfl (by decide) (by decide)) p2.exa (wk G 89) (wk G 24) (wk G 26) (wk G 26) (wk G 25) pd5 (sz hml) all0 sf00 (D d13_5) (k_v 8 rfl ?_)
  rintro _ _ ⟨rfl, rfl⟩ -
  refine callV0 (cells' := 0) (slots' := 0) (Wd := 0) (argsL := [(.int 0)]) (rest := []) (pay_of (a0 := a0) (c_subi0_1 l G b c0 h0 O0 p3) (wk G 94) (wk G 12)) p3.exa (wk G 90) (wk G 91) (wk G 93) (wk G 93) (wk G 92) pd4 (sz hml) all0 sf00 (D d13_8) (k_v 11 rfl ?_)
  rintro _ h1 ⟨rfl, rfl⟩ K2
  refine go_areturn hret hlk rfl rfl (D d13_11) (by decide) (by decide) ⟨_, rfl, ⟨rfl, rfl⟩⟩ (Keep.refl h0 [])
def Q_take9_2 (Z : State) (a : Addr) (k : ClassId) (e0 e1 e2 e3 e4 e5 e6 e7 e8 : Int32) (h0 : Heap) (xv : Value) (h : Heap) : Prop := ∃ (r : Addr), (.ref r) = xv ∧ h0.size ≤ r ∧ Str Z h r [e0, e1]
theorem c_take9_2 (G : GH Z a0) (a : Addr) (k : ClassId) (e0 e1 e2 e3 e4 e5 e6 e7 e8 : Int32) (h0 : Heap) (O0 : Old Z Z.heap.size h0) (p1 : Arv Z h0 a k (.char) (9 : Int32) [(.int e0), (.int e1), (.int e2), (.int e3), (.int e4), (.int e5), (.int e6), (.int e7), (.int e8)] (.int 0)) (p2 : C8 e0) (p3 : C8 e1) : Con false [] l Z (⟨"com/example/hew/hew/MethodKindNounPinLaw", "take", "([CI)Ljava/lang/String;"⟩ : MethodName) method_6_code 2 (some (.object "java/lang/String")) [] (rm4 4 3 8 66) #[(.ref a), (.int 2)] h0 [] (rvl (Q_take9_2 Z a k e0 e1 e2 e3 e4 e5 e6 e7 e8 h0)) := by
  refine conN G (plainFor_of_name pn4) O0 (fun m => ef12 m a (2 : Int32)) ?_
  intro _ _ _ m_ _ _ _ D hml hret hlk hnm
  refine go_iload_n 1 (D d12_0) rfl rfl ?_
  refine go_ifT 15 (D d12_1) (by decide) rfl (by decide) ?_
  refine go_iload_n 16 (D d12_15) rfl rfl ?_
  refine go_iconst 17 (v := 1) (D d12_16) rfl rfl ?_
  refine go_icT 37 (D d12_17) (by decide) rfl (by decide) ?_
  refine go_iload_n 38 (D d12_37) rfl rfl ?_
  refine go_iconst 39 (v := 2) (D d12_38) rfl rfl ?_
  refine go_icF 42 (D d12_39) rfl (by decide) ?_
  refine go_newO 45 (cells' := 1) (slots' := 4) (wk G 61) (wk G 13) (wk G 12) (D d12_42) rfl rfl rfl (by decide) (by decide) (fun h1 a2 g3 X4 E5 D6 U7 => ?_)
  refine go_dup 46 (D d12_45) rfl rfl ?_
  refine go_iconst 47 (v := 2) (D d12_46) rfl rfl ?_
  refine go_newP 49 (cells' := 2) (slots' := 6) (cap := 2) (vs := [(.int 0), (.int 0)]) (ty := .char) (dv := .int 0) (wk G 19) rfl rfl (D d12_47) rfl (by decide) rfl (by decide) rfl rfl rfl (by decide) (by decide) (fun h8 a9 k13 g10 X11 A12 => ?_)
  refine go_dup 50 (D d12_49) rfl rfl ?_
  refine go_iconst 51 (v := 0) (D d12_50) rfl rfl ?_
  refine go_aload_n 52 (D d12_51) rfl rfl rfl ?_
  refine go_iconst 53 (v := 0) (D d12_52) rfl rfl ?_
  have K14 : Keep h0 h1 [] := ((Keep.refl h0 []).ext X4)
  have K15 : Keep h0 h8 [] := (K14.ext X11)
  have A16 := (p1.keep K15 nin0)
  refine go_caload 54 (i := 0) (v := (.int e0)) A16 (by decide) (by decide) rfl rfl (D d12_53) rfl ?_
  refine go_stC 55 (i := 0) (x' := e0) (vs' := [(.int e0), (.int 0)]) A12 (Nat.le_trans O0.2.1 (Nat.le_trans K14.1 (Nat.le_of_eq g10))) (by decide) (by decide) rfl (nb rfl) (i2c_c8 p2) rfl (D d12_54) rfl (fun h17 W18 A19 => ?_)
  refine go_dup 56 (D d12_55) rfl rfl ?_
  refine go_iconst 57 (v := 1) (D d12_56) rfl rfl ?_
  refine go_aload_n 58 (D d12_57) rfl rfl rfl ?_
  refine go_iconst 59 (v := 1) (D d12_58) rfl rfl ?_
  have A20 := (A16.other W18 (Nat.ne_of_lt (Nat.lt_of_lt_of_le (Nat.lt_of_lt_of_le p1.lt K14.1) (Nat.le_of_eq g10))))
  refine go_caload 60 (i := 1) (v := (.int e1)) A20 (by decide) (by decide) rfl rfl (D d12_59) rfl ?_
  refine go_stC 61 (i := 1) (x' := e1) (vs' := [(.int e0), (.int e1)]) A19 (Nat.le_trans O0.2.1 (Nat.le_trans K14.1 (Nat.le_of_eq g10))) (by decide) (by decide) rfl (nb rfl) (i2c_c8 p3) rfl (D d12_60) rfl (fun h21 W22 A23 => ?_)
  have K24 : Keep h1 h8 [] := ((Keep.refl h1 []).ext X11)
  have K25 : Keep h1 h17 [] := (K24.wr W18 (Or.inr (Nat.le_of_eq g10)))
  have K26 : Keep h1 h21 [] := (K25.wr W22 (Or.inr (Nat.le_of_eq g10)))
  have E27 := (E5.keep K26)
  have F28 := D6 (Or.inr (wk G 15)) (ty := (.array .byte)) (by decide)
  have F29 := (F28.keep K26 nin0)
  have F30 := D6 (Or.inr (wk G 16)) (ty := .byte) (by decide)
  have F31 := (F30.keep K26 nin0)
  refine go_old (fun O32 => ?_)
  refine callI0 (cells' := 3) (slots' := 8) (Wd := 1) (argsL := [(.ref a9)]) (rest := [(.ref a2)]) (pay_new G O32 (cs := [e0, e1]) (n := 2) (Nat.le_trans O0.2.1 (Nat.le_of_eq g3)) E27 F29 F31 A23 rfl rfl (by decide) (by decide) (c8c p2 (c8c p3 c8n)) (by decide) (by decide)) rfl (wk G 62) (wk G 63) (wk G 64) pd8 (sz hml) (allS (Nat.le_trans O0.2.1 (Nat.le_of_eq g3)) all0) (fun _ hal => (sfS safe_nil sf0)) (D d12_61) (k_n 64 rfl ?_)
  rintro h33 S35 K34
  have K36 : Keep h0 h17 [] := (K15.wr W18 (Or.inr (Nat.le_trans K14.1 (Nat.le_of_eq g10))))
  have K37 : Keep h0 h21 [] := (K36.wr W22 (Or.inr (Nat.le_trans K14.1 (Nat.le_of_eq g10))))
  have K38 : Keep h0 h33 [] := (K37.trans K34 (allS (Or.inr (Nat.le_of_eq g3)) all0))
  refine go_areturn hret hlk rfl rfl (D d12_64) (by decide) (by decide) ⟨_, rfl, ⟨a2, rfl, (Nat.le_of_eq g3), S35⟩⟩ K38
def Q_noun0_2 (Z : State) (a b p : Addr) (c0 c1 : Int32) (h0 : Heap) (xv : Value) (h : Heap) : Prop := (.ref b) = xv ∧ h0 = h
def Q_subi0_2 (Z : State) (a : Addr) (c0 c1 : Int32) (h0 : Heap) (xv : Value) (h : Heap) : Prop := (.ref a) = xv ∧ h0 = h
def Q_sub0_2_2 (Z : State) (a : Addr) (c0 c1 : Int32) (h0 : Heap) (xv : Value) (h : Heap) : Prop := (.ref a) = xv ∧ h0 = h
theorem c_sub0_2_2 (G : GH Z a0) (a : Addr) (c0 c1 : Int32) (h0 : Heap) (O0 : Old Z Z.heap.size h0) (p1 : Str Z h0 a [c0, c1]) : Con false [] l Z (⟨"java/lang/String", "substring", "(II)Ljava/lang/String;"⟩ : MethodName) jdk_42_method_92_code 5 (some (.object "java/lang/String")) [] (rm4 2 0 0 29) #[(.ref a), (.int 0), (.int 2)] h0 [] (rvl (Q_sub0_2_2 Z a c0 c1 h0)) := by
  refine conN G (plainFor_of_name pn1) O0 (fun m => ef13 m a (0 : Int32) (2 : Int32)) ?_
  intro _ _ _ m_ _ _ _ D hml hret hlk hnm
  have q1 : C8 c0 := by obtain ⟨_, _, _, _, _, _, q, _⟩ := id p1; exact q _ (by simp)
  have q2 : C8 c1 := by obtain ⟨_, _, _, _, _, _, q, _⟩ := id p1; exact q _ (by simp)
  refine go_aload_n 1 (D d15_0) rfl rfl rfl ?_
  refine callV0 (cells' := 0) (slots' := 0) (Wd := 0) (argsL := []) (rest := []) (pay_len G O0 (n := (2 : Int32)) p1 rfl (by decide) (by decide)) p1.exa (wk G 95) (wk G 24) (wk G 26) (wk G 26) (wk G 25) pd5 (sz hml) all0 sf00 (D d15_1) (k_v 4 rfl ?_)
  rintro _ _ ⟨rfl, rfl⟩ -
  refine go_istore_n 5 (ls' := #[vr a, vi 0, vi 2, vi 2, un]) (D d15_4) rfl rfl ?_
  refine go_iload_n 6 (D d15_5) rfl rfl ?_
  refine go_iload_n 7 (D d15_6) rfl rfl ?_
  refine go_iload_n 8 (D d15_7) rfl rfl ?_
  refine callS0 (cells' := 0) (slots' := 0) (Wd := 0) (argsL := [(.int 0), (.int 2), (.int 2)]) (rest := []) (pay_of (a0 := a0) (c_cbbe l G (0 : Int32) (2 : Int32) (2 : Int32) h0 O0 (by decide) (by decide) (by decide)) (wk G 103) (wk G 12)) (wk G 101) (wk G 102) (wk G 12) (wk G 103) pd10 (sz hml) all0 sf00 (D d15_8) (k_n 11 rfl ?_)
  rintro  h3 rfl K4
  refine go_iload_n 12 (D d15_11) rfl rfl ?_
  refine go_ifF 15 (D d15_12) rfl (by decide) ?_
  refine go_iload_n 16 (D d15_15) rfl rfl ?_
  refine go_iload_n 17 (D d15_16) rfl rfl ?_
  refine go_icF 20 (D d15_17) rfl (by decide) ?_
  refine go_aload_n 21 (D d15_20) rfl rfl rfl ?_
  refine go_areturn hret hlk rfl rfl (D d15_21) (by decide) (by decide) ⟨_, rfl, ⟨rfl, rfl⟩⟩ (Keep.refl h0 [])
theorem c_subi0_2 (G : GH Z a0) (a : Addr) (c0 c1 : Int32) (h0 : Heap) (O0 : Old Z Z.heap.size h0) (p1 : Str Z h0 a [c0, c1]) : Con false [] l Z (⟨"java/lang/String", "substring", "(I)Ljava/lang/String;"⟩ : MethodName) jdk_42_method_91_code 2 (some (.object "java/lang/String")) [] (rm4 3 0 0 45) #[(.ref a), (.int 0)] h0 [] (rvl (Q_subi0_2 Z a c0 c1 h0)) := by
  refine conN G (plainFor_of_name pn1) O0 (fun m => ef12 m a (0 : Int32)) ?_
  intro _ _ _ m_ _ _ _ D hml hret hlk hnm
  have q1 : C8 c0 := by obtain ⟨_, _, _, _, _, _, q, _⟩ := id p1; exact q _ (by simp)
  have q2 : C8 c1 := by obtain ⟨_, _, _, _, _, _, q, _⟩ := id p1; exact q _ (by simp)
  refine go_aload_n 1 (D d14_0) rfl rfl rfl ?_
  refine go_iload_n 2 (D d14_1) rfl rfl ?_
  refine go_aload_n 3 (D d14_2) rfl rfl rfl ?_
  refine callV0 (cells' := 0) (slots' := 0) (Wd := 2) (argsL := []) (rest := [(.int 0), (.ref a)]) (pay_len G O0 (n := (2 : Int32)) p1 rfl (by decide) (by decide)) p1.exa (wk G 95) (wk G 24) (wk G 26) (wk G 26) (wk G 25) pd5 (sz hml) all0 sf00 (D d14_3) (k_v 6 rfl ?_)
  rintro _ _ ⟨rfl, rfl⟩ -
  refine callV0 (cells' := 0) (slots' := 0) (Wd := 0) (argsL := [(.int 0), (.int 2)]) (rest := []) (pay_of (a0 := a0) (c_sub0_2_2 l G a c0 c1 h0 O0 p1) (wk G 100) (wk G 12)) p1.exa (wk G 96) (wk G 97) (wk G 99) (wk G 99) (wk G 98) pd13 (sz hml) all0 sf00 (D d14_6) (k_v 9 rfl ?_)
  rintro _ h3 ⟨rfl, rfl⟩ K4
  refine go_areturn hret hlk rfl rfl (D d14_9) (by decide) (by decide) ⟨_, rfl, ⟨rfl, rfl⟩⟩ (Keep.refl h0 [])
theorem c_noun0_2 (G : GH Z a0) (a b : Addr) (p : Addr) (c0 c1 : Int32) (h0 : Heap) (O0 : Old Z Z.heap.size h0) (p1 : Fld Z h0 a "com/example/hew/hew/MethodKind" "prefix" "Ljava/lang/String;" (.ref p)) (p2 : Str Z h0 p []) (p3 : Str Z h0 b [c0, c1]) : Con false [] l Z (⟨"com/example/hew/hew/MethodKind", "noun", "(Ljava/lang/String;)Ljava/lang/String;"⟩ : MethodName) prog_32_method_8_code 2 (some (.object "java/lang/String")) [] (rm4 4 0 0 58) #[(.ref a), (.ref b)] h0 [] (rvl (Q_noun0_2 Z a b p c0 c1 h0)) := by
  refine conN G (plainFor_of_name pn6) O0 (fun m => ef3 m a b) ?_
  intro _ _ _ m_ _ _ _ D hml hret hlk hnm
  refine go_aload_n 1 (D d13_0) rfl rfl rfl ?_
  refine go_aload_n 2 (D d13_1) rfl rfl rfl ?_
  refine go_getF 5 (wk G 87) Via.refl p1 (D d13_2) rfl ?_
  refine callV0 (cells' := 0) (slots' := 0) (Wd := 1) (argsL := []) (rest := [(.ref b)]) (pay_len G O0 (n := (0 : Int32)) p2 rfl (by decide) (by decide)) p2.exa (wk G 89) (wk G 24) (wk G 26) (wk G 26) (wk G 25) pd5 (sz hml) all0 sf00 (D d13_5) (k_v 8 rfl ?_)
  rintro _ _ ⟨rfl, rfl⟩ -
  refine callV0 (cells' := 0) (slots' := 0) (Wd := 0) (argsL := [(.int 0)]) (rest := []) (pay_of (a0 := a0) (c_subi0_2 l G b c0 c1 h0 O0 p3) (wk G 94) (wk G 12)) p3.exa (wk G 90) (wk G 91) (wk G 93) (wk G 93) (wk G 92) pd4 (sz hml) all0 sf00 (D d13_8) (k_v 11 rfl ?_)
  rintro _ h1 ⟨rfl, rfl⟩ K2
  refine go_areturn hret hlk rfl rfl (D d13_11) (by decide) (by decide) ⟨_, rfl, ⟨rfl, rfl⟩⟩ (Keep.refl h0 [])
def Q_noun0_3 (Z : State) (a b p : Addr) (c0 c1 c2 : Int32) (h0 : Heap) (xv : Value) (h : Heap) : Prop := (.ref b) = xv ∧ h0 = h
def Q_subi0_3 (Z : State) (a : Addr) (c0 c1 c2 : Int32) (h0 : Heap) (xv : Value) (h : Heap) : Prop := (.ref a) = xv ∧ h0 = h
def Q_sub0_3_3 (Z : State) (a : Addr) (c0 c1 c2 : Int32) (h0 : Heap) (xv : Value) (h : Heap) : Prop := (.ref a) = xv ∧ h0 = h
theorem c_sub0_3_3 (G : GH Z a0) (a : Addr) (c0 c1 c2 : Int32) (h0 : Heap) (O0 : Old Z Z.heap.size h0) (p1 : Str Z h0 a [c0, c1, c2]) : Con false [] l Z (⟨"java/lang/String", "substring", "(II)Ljava/lang/String;"⟩ : MethodName) jdk_42_method_92_code 5 (some (.object "java/lang/String")) [] (rm4 2 0 0 29) #[(.ref a), (.int 0), (.int 3)] h0 [] (rvl (Q_sub0_3_3 Z a c0 c1 c2 h0)) := by
  refine conN G (plainFor_of_name pn1) O0 (fun m => ef13 m a (0 : Int32) (3 : Int32)) ?_
  intro _ _ _ m_ _ _ _ D hml hret hlk hnm
  have q1 : C8 c0 := by obtain ⟨_, _, _, _, _, _, q, _⟩ := id p1; exact q _ (by simp)
  have q2 : C8 c1 := by obtain ⟨_, _, _, _, _, _, q, _⟩ := id p1; exact q _ (by simp)
  have q3 : C8 c2 := by obtain ⟨_, _, _, _, _, _, q, _⟩ := id p1; exact q _ (by simp)
  refine go_aload_n 1 (D d15_0) rfl rfl rfl ?_
  refine callV0 (cells' := 0) (slots' := 0) (Wd := 0) (argsL := []) (rest := []) (pay_len G O0 (n := (3 : Int32)) p1 rfl (by decide) (by decide)) p1.exa (wk G 95) (wk G 24) (wk G 26) (wk G 26) (wk G 25) pd5 (sz hml) all0 sf00 (D d15_1) (k_v 4 rfl ?_)
  rintro _ _ ⟨rfl, rfl⟩ -
  refine go_istore_n 5 (ls' := #[vr a, vi 0, vi 3, vi 3, un]) (D d15_4) rfl rfl ?_
  refine go_iload_n 6 (D d15_5) rfl rfl ?_
  refine go_iload_n 7 (D d15_6) rfl rfl ?_
  refine go_iload_n 8 (D d15_7) rfl rfl ?_
  refine callS0 (cells' := 0) (slots' := 0) (Wd := 0) (argsL := [(.int 0), (.int 3), (.int 3)]) (rest := []) (pay_of (a0 := a0) (c_cbbe l G (0 : Int32) (3 : Int32) (3 : Int32) h0 O0 (by decide) (by decide) (by decide)) (wk G 103) (wk G 12)) (wk G 101) (wk G 102) (wk G 12) (wk G 103) pd10 (sz hml) all0 sf00 (D d15_8) (k_n 11 rfl ?_)
  rintro  h4 rfl K5
  refine go_iload_n 12 (D d15_11) rfl rfl ?_
  refine go_ifF 15 (D d15_12) rfl (by decide) ?_
  refine go_iload_n 16 (D d15_15) rfl rfl ?_
  refine go_iload_n 17 (D d15_16) rfl rfl ?_
  refine go_icF 20 (D d15_17) rfl (by decide) ?_
  refine go_aload_n 21 (D d15_20) rfl rfl rfl ?_
  refine go_areturn hret hlk rfl rfl (D d15_21) (by decide) (by decide) ⟨_, rfl, ⟨rfl, rfl⟩⟩ (Keep.refl h0 [])
theorem c_subi0_3 (G : GH Z a0) (a : Addr) (c0 c1 c2 : Int32) (h0 : Heap) (O0 : Old Z Z.heap.size h0) (p1 : Str Z h0 a [c0, c1, c2]) : Con false [] l Z (⟨"java/lang/String", "substring", "(I)Ljava/lang/String;"⟩ : MethodName) jdk_42_method_91_code 2 (some (.object "java/lang/String")) [] (rm4 3 0 0 45) #[(.ref a), (.int 0)] h0 [] (rvl (Q_subi0_3 Z a c0 c1 c2 h0)) := by
  refine conN G (plainFor_of_name pn1) O0 (fun m => ef12 m a (0 : Int32)) ?_
  intro _ _ _ m_ _ _ _ D hml hret hlk hnm
  have q1 : C8 c0 := by obtain ⟨_, _, _, _, _, _, q, _⟩ := id p1; exact q _ (by simp)
  have q2 : C8 c1 := by obtain ⟨_, _, _, _, _, _, q, _⟩ := id p1; exact q _ (by simp)
  have q3 : C8 c2 := by obtain ⟨_, _, _, _, _, _, q, _⟩ := id p1; exact q _ (by simp)
  refine go_aload_n 1 (D d14_0) rfl rfl rfl ?_
  refine go_iload_n 2 (D d14_1) rfl rfl ?_
  refine go_aload_n 3 (D d14_2) rfl rfl rfl ?_
  refine callV0 (cells' := 0) (slots' := 0) (Wd := 2) (argsL := []) (rest := [(.int 0), (.ref a)]) (pay_len G O0 (n := (3 : Int32)) p1 rfl (by decide) (by decide)) p1.exa (wk G 95) (wk G 24) (wk G 26) (wk G 26) (wk G 25) pd5 (sz hml) all0 sf00 (D d14_3) (k_v 6 rfl ?_)
  rintro _ _ ⟨rfl, rfl⟩ -
  refine callV0 (cells' := 0) (slots' := 0) (Wd := 0) (argsL := [(.int 0), (.int 3)]) (rest := []) (pay_of (a0 := a0) (c_sub0_3_3 l G a c0 c1 c2 h0 O0 p1) (wk G 100) (wk G 12)) p1.exa (wk G 96) (wk G 97) (wk G 99) (wk G 99) (wk G 98) pd13 (sz hml) all0 sf00 (D d14_6) (k_v 9 rfl ?_)
  rintro _ h4 ⟨rfl, rfl⟩ K5
  refine go_areturn hret hlk rfl rfl (D d14_9) (by decide) (by decide) ⟨_, rfl, ⟨rfl, rfl⟩⟩ (Keep.refl h0 [])
theorem c_noun0_3 (G : GH Z a0) (a b : Addr) (p : Addr) (c0 c1 c2 : Int32) (h0 : Heap) (O0 : Old Z Z.heap.size h0) (p1 : Fld Z h0 a "com/example/hew/hew/MethodKind" "prefix" "Ljava/lang/String;" (.ref p)) (p2 : Str Z h0 p []) (p3 : Str Z h0 b [c0, c1, c2]) : Con false [] l Z (⟨"com/example/hew/hew/MethodKind", "noun", "(Ljava/lang/String;)Ljava/lang/String;"⟩ : MethodName) prog_32_method_8_code 2 (some (.object "java/lang/String")) [] (rm4 4 0 0 58) #[(.ref a), (.ref b)] h0 [] (rvl (Q_noun0_3 Z a b p c0 c1 c2 h0)) := by
  refine conN G (plainFor_of_name pn6) O0 (fun m => ef3 m a b) ?_
  intro _ _ _ m_ _ _ _ D hml hret hlk hnm
  refine go_aload_n 1 (D d13_0) rfl rfl rfl ?_
  refine go_aload_n 2 (D d13_1) rfl rfl rfl ?_
  refine go_getF 5 (wk G 87) Via.refl p1 (D d13_2) rfl ?_
  refine callV0 (cells' := 0) (slots' := 0) (Wd := 1) (argsL := []) (rest := [(.ref b)]) (pay_len G O0 (n := (0 : Int32)) p2 rfl (by decide) (by decide)) p2.exa (wk G 89) (wk G 24) (wk G 26) (wk G 26) (wk G 25) pd5 (sz hml) all0 sf00 (D d13_5) (k_v 8 rfl ?_)
  rintro _ _ ⟨rfl, rfl⟩ -
  refine callV0 (cells' := 0) (slots' := 0) (Wd := 0) (argsL := [(.int 0)]) (rest := []) (pay_of (a0 := a0) (c_subi0_3 l G b c0 c1 c2 h0 O0 p3) (wk G 94) (wk G 12)) p3.exa (wk G 90) (wk G 91) (wk G 93) (wk G 93) (wk G 92) pd4 (sz hml) all0 sf00 (D d13_8) (k_v 11 rfl ?_)
  rintro _ h1 ⟨rfl, rfl⟩ K2
  refine go_areturn hret hlk rfl rfl (D d13_11) (by decide) (by decide) ⟨_, rfl, ⟨rfl, rfl⟩⟩ (Keep.refl h0 [])
theorem c_law (G : GH Z a0) (x0 x1 x2 x3 x4 : Int32)  (h0 : Heap) (O0 : Old Z Z.heap.size h0)  : Con true EL1 l Z x code maxLocals ret tables_1 room_1 #[(.int x0), (.int x1), (.int x2), (.int x3), (.int x4)] h0 [] (rvl (Q_law Z x0 x1 x2 x3 x4 h0)) := by
  refine conW G (plainFor_of_name pn4) O0 (fun m => ef9 m x0 x1 x2 x3 x4) ?_
  intro _ _ _ m_ _ _ _ D hml hret hlk hnm
  obtain ⟨y1, y2, y3, y4, F5, S6⟩ := pf_LIST G
  obtain ⟨y7, y8, y9, F10, S11⟩ := pf_GET G
  obtain ⟨y12, y13, y14, y15, y16, y17, F18, S19⟩ := pf_CREATE G
  obtain ⟨y20, y21, y22, y23, y24, y25, F26, S27⟩ := pf_UPDATE G
  obtain ⟨y28, y29, y30, y31, y32, y33, F34, S35⟩ := pf_DELETE G
  obtain ⟨F36, S37⟩ := pf_CUSTOM G
  refine go_iload_n 1 (D at_0) rfl rfl ?_
  refine go_ldcI 3 (v := (2147483647 : Int32)) (wk G 0) (D at_1) rfl ?_
  refine go_iand 4 (z := (x0 &&& (2147483647 : Int32))) (D at_3) rfl rfl ?_
  refine go_bipush 6 (v := 6) (D at_4) rfl rfl ?_
  refine go_irem 7 (z := ((x0 &&& (2147483647 : Int32)) % (6 : Int32))) (D at_6) rfl (by decide) rfl ?_
  refine go_istore 9 (ls' := #[vi x0, vi x1, vi x2, vi x3, vi x4, vi ((x0 &&& (2147483647 : Int32)) % (6 : Int32)), un, un, un, un, un, un, un, un]) (D at_7) rfl rfl ?_
  refine go_iload_n 10 (D at_9) rfl rfl ?_
  refine go_iconst 11 (v := 3) (D at_10) rfl rfl ?_
  refine go_iand 12 (z := (x1 &&& (3 : Int32))) (D at_11) rfl rfl ?_
  refine go_istore 14 (ls' := #[vi x0, vi x1, vi x2, vi x3, vi x4, vi ((x0 &&& (2147483647 : Int32)) % (6 : Int32)), vi (x1 &&& (3 : Int32)), un, un, un, un, un, un, un]) (D at_12) rfl rfl ?_
  rcases rem6 (x0 &&& (2147483647 : Int32)) (and_nn _ _ (by decide)) with q38 | q38 | q38 | q38 | q38 | q38
  · rw [q38]
    refine go_iload 16 (D at_14) rfl rfl ?_
    refine callS0 (cells' := 0) (slots' := 0) (Wd := 0) (argsL := [(.int 0)]) (rest := []) (pay_of (a0 := a0) (c_kind0 l G  h0 O0 ) (wk G 4) (wk G 3)) (wk G 1) (wk G 2) (wk G 3) (wk G 4) pd3 (sz hml) all0 sf00 (D at_16) (k_v 19 rfl ?_)
    rintro _ h39 ⟨rfl, rfl⟩ K40
    refine go_astore 21 (ls' := #[vi x0, vi x1, vi x2, vi x3, vi x4, vi 0, vi (x1 &&& (3 : Int32)), vr (s_LIST Z), un, un, un, un, un, un]) (D at_19) rfl rfl rfl ?_
    refine go_iload 23 (D at_21) rfl rfl ?_
    refine callSW0 rfl (cells' := 2) (slots' := 20) (Wd := 0) (argsL := [(.int 0)]) (rest := []) (payW_of (a0 := a0) (c_word0 l G  h0 O0 ) (wk G 10) (wk G 3) (ew1 G)) (wk G 8) (wk G 9) (wk G 3) (wk G 10) pd4 (sz hml) all0 (D at_23) (k_v 26 rfl ?_)
    rintro _ h41 ⟨r43, rfl, f44⟩ K42
    refine go_astore 28 (ls' := #[vi x0, vi x1, vi x2, vi x3, vi x4, vi 0, vi (x1 &&& (3 : Int32)), vr (s_LIST Z), vr r43, un, un, un, un, un]) (D at_26) rfl rfl rfl ?_
    refine go_iconst 29 (v := 3) (D at_28) rfl rfl ?_
    refine go_newP 31 (cells' := 3) (slots' := 23) (cap := 3) (vs := [(.int 0), (.int 0), (.int 0)]) (ty := .char) (dv := .int 0) (wk G 19) rfl rfl (D at_29) rfl (by decide) rfl (by decide) rfl rfl rfl (by decide) (by decide) (fun h45 a46 k50 g47 X48 A49 => ?_)
    refine go_dup 32 (D at_31) rfl rfl ?_
    refine go_iconst 33 (v := 0) (D at_32) rfl rfl ?_
    refine go_iload_n 34 (D at_33) rfl rfl ?_
    refine go_sipush 37 (v := 255) (D at_34) rfl rfl ?_
    refine go_iand 38 (z := (x2 &&& (255 : Int32))) (D at_37) rfl rfl ?_
    refine go_i2c 39 (z := (x2 &&& (255 : Int32))) (D at_38) rfl (i2c_mask _) ?_
    have K54 : Keep h0 h41 [] := ((Keep.refl h0 []).trans K42 all0)
    refine go_stC 40 (i := 0) (x' := (x2 &&& (255 : Int32))) (vs' := [(.int (x2 &&& (255 : Int32))), (.int 0), (.int 0)]) A49 (Nat.le_trans O0.2.1 (Nat.le_trans K54.1 (Nat.le_of_eq g47))) (by decide) (by decide) rfl (nb rfl) (i2c_mask _) rfl (D at_39) rfl (fun h51 W52 A53 => ?_)
    refine go_dup 41 (D at_40) rfl rfl ?_
    refine go_iconst 42 (v := 1) (D at_41) rfl rfl ?_
    refine go_iload_n 43 (D at_42) rfl rfl ?_
    refine go_sipush 46 (v := 255) (D at_43) rfl rfl ?_
    refine go_iand 47 (z := (x3 &&& (255 : Int32))) (D at_46) rfl rfl ?_
    refine go_i2c 48 (z := (x3 &&& (255 : Int32))) (D at_47) rfl (i2c_mask _) ?_
    refine go_stC 49 (i := 1) (x' := (x3 &&& (255 : Int32))) (vs' := [(.int (x2 &&& (255 : Int32))), (.int (x3 &&& (255 : Int32))), (.int 0)]) A53 (Nat.le_trans O0.2.1 (Nat.le_trans K54.1 (Nat.le_of_eq g47))) (by decide) (by decide) rfl (nb rfl) (i2c_mask _) rfl (D at_48) rfl (fun h55 W56 A57 => ?_)
    refine go_dup 50 (D at_49) rfl rfl ?_
    refine go_iconst 51 (v := 2) (D at_50) rfl rfl ?_
    refine go_iload 53 (D at_51) rfl rfl ?_
    refine go_sipush 56 (v := 255) (D at_53) rfl rfl ?_
    refine go_iand 57 (z := (x4 &&& (255 : Int32))) (D at_56) rfl rfl ?_
    refine go_i2c 58 (z := (x4 &&& (255 : Int32))) (D at_57) rfl (i2c_mask _) ?_
    refine go_stC 59 (i := 2) (x' := (x4 &&& (255 : Int32))) (vs' := [(.int (x2 &&& (255 : Int32))), (.int (x3 &&& (255 : Int32))), (.int (x4 &&& (255 : Int32)))]) A57 (Nat.le_trans O0.2.1 (Nat.le_trans K54.1 (Nat.le_of_eq g47))) (by decide) (by decide) rfl (nb rfl) (i2c_mask _) rfl (D at_58) rfl (fun h58 W59 A60 => ?_)
    refine go_astore 61 (ls' := #[vi x0, vi x1, vi x2, vi x3, vi x4, vi 0, vi (x1 &&& (3 : Int32)), vr (s_LIST Z), vr r43, vr a46, un, un, un, un]) (D at_59) rfl rfl rfl ?_
    refine go_bipush 63 (v := 9) (D at_61) rfl rfl ?_
    refine go_newP 65 (cells' := 4) (slots' := 32) (cap := 9) (vs := [(.int 0), (.int 0), (.int 0), (.int 0), (.int 0), (.int 0), (.int 0), (.int 0), (.int 0)]) (ty := .char) (dv := .int 0) (wk G 19) rfl rfl (D at_63) rfl (by decide) rfl (by decide) rfl rfl rfl (by decide) (by decide) (fun h61 a62 k66 g63 X64 A65 => ?_)
    refine go_astore 67 (ls' := #[vi x0, vi x1, vi x2, vi x3, vi x4, vi 0, vi (x1 &&& (3 : Int32)), vr (s_LIST Z), vr r43, vr a46, vr a62, un, un, un]) (D at_65) rfl rfl rfl ?_
    refine go_aload 69 (D at_67) rfl rfl rfl ?_
    refine go_iconst 70 (v := 0) (D at_69) rfl rfl ?_
    refine go_aload 72 (D at_70) rfl rfl rfl ?_
    refine go_aload 74 (D at_72) rfl rfl rfl ?_
    refine go_iconst 75 (v := 0) (D at_74) rfl rfl ?_
    have K67 : Keep h41 h45 [] := ((Keep.refl h41 []).ext X48)
    have K68 : Keep h41 h51 [] := (K67.wr W52 (Or.inr (Nat.le_of_eq g47)))
    have K69 : Keep h41 h55 [] := (K68.wr W56 (Or.inr (Nat.le_of_eq g47)))
    have K70 : Keep h41 h58 [] := (K69.wr W59 (Or.inr (Nat.le_of_eq g47)))
    have K71 : Keep h41 h61 [] := (K70.ext X64)
    have S72 := (f44.keep K71)
    have K73 : Keep h58 h61 [] := ((Keep.refl h58 []).ext X64)
    have A74 := (A60.keep K73 nin0)
    refine go_old (fun O75 => ?_)
    refine callS0 (cells' := 4) (slots' := 32) (Wd := 2) (argsL := [(.ref r43), (.ref a46), (.int 0)]) (rest := [(.int 0), (.ref a62)]) (pay_of (a0 := a0) (c_at4_0 l G r43 a46 k50 (76 : Int32) (105 : Int32) (115 : Int32) (116 : Int32) (x2 &&& (255 : Int32)) (x3 &&& (255 : Int32)) (x4 &&& (255 : Int32)) h61 O75 S72 A74 (c8_m _) (c8_m _) (c8_m _)) (wk G 22) (wk G 3)) (wk G 20) (wk G 21) (wk G 3) (wk G 22) pd7 (sz hml) all0 sf00 (D at_75) (k_v 78 rfl ?_)
    rintro _ h76 ⟨rfl, rfl⟩ K77
    have K81 : Keep h0 h45 [] := (K54.ext X48)
    have K82 : Keep h0 h51 [] := (K81.wr W52 (Or.inr (Nat.le_trans K54.1 (Nat.le_of_eq g47))))
    have K83 : Keep h0 h55 [] := (K82.wr W56 (Or.inr (Nat.le_trans K54.1 (Nat.le_of_eq g47))))
    have K84 : Keep h0 h58 [] := (K83.wr W59 (Or.inr (Nat.le_trans K54.1 (Nat.le_of_eq g47))))
    refine go_stC 79 (i := 0) (x' := (76 : Int32)) (vs' := [(.int 76), (.int 0), (.int 0), (.int 0), (.int 0), (.int 0), (.int 0), (.int 0), (.int 0)]) A65 (Nat.le_trans O0.2.1 (Nat.le_trans K84.1 (Nat.le_of_eq g63))) (by decide) (by decide) rfl (nb rfl) (by decide) rfl (D at_78) rfl (fun h78 W79 A80 => ?_)
    refine go_aload 81 (D at_79) rfl rfl rfl ?_
    refine go_iconst 82 (v := 1) (D at_81) rfl rfl ?_
    refine go_aload 84 (D at_82) rfl rfl rfl ?_
    refine go_aload 86 (D at_84) rfl rfl rfl ?_
    refine go_iconst 87 (v := 1) (D at_86) rfl rfl ?_
    have K85 : Keep h41 h78 [] := (K71.wr W79 (Or.inr (Nat.le_trans K70.1 (Nat.le_of_eq g63))))
    have S86 := (f44.keep K85)
    have K87 : Keep h45 h51 [a46] := ((Keep.refl h45 [a46]).wr W52 (Or.inl (by simp)))
    have K88 : Keep h45 h55 [a46] := (K87.wr W56 (Or.inl (by simp)))
    have K89 : Keep h45 h58 [a46] := (K88.wr W59 (Or.inl (by simp)))
    have A90 := (A74.other W79 (Nat.ne_of_lt (Nat.lt_of_lt_of_le (Nat.lt_of_lt_of_le A49.lt K89.1) (Nat.le_of_eq g63))))
    refine go_old (fun O91 => ?_)
    refine callS0 (cells' := 4) (slots' := 32) (Wd := 2) (argsL := [(.ref r43), (.ref a46), (.int 1)]) (rest := [(.int 1), (.ref a62)]) (pay_of (a0 := a0) (c_at4_1 l G r43 a46 k50 (76 : Int32) (105 : Int32) (115 : Int32) (116 : Int32) (x2 &&& (255 : Int32)) (x3 &&& (255 : Int32)) (x4 &&& (255 : Int32)) h78 O91 S86 A90 (c8_m _) (c8_m _) (c8_m _)) (wk G 22) (wk G 3)) (wk G 20) (wk G 21) (wk G 3) (wk G 22) pd7 (sz hml) all0 sf00 (D at_87) (k_v 90 rfl ?_)
    rintro _ h92 ⟨rfl, rfl⟩ K93
    refine go_stC 91 (i := 1) (x' := (105 : Int32)) (vs' := [(.int 76), (.int 105), (.int 0), (.int 0), (.int 0), (.int 0), (.int 0), (.int 0), (.int 0)]) A80 (Nat.le_trans O0.2.1 (Nat.le_trans K84.1 (Nat.le_of_eq g63))) (by decide) (by decide) rfl (nb rfl) (by decide) rfl (D at_90) rfl (fun h94 W95 A96 => ?_)
    refine go_aload 93 (D at_91) rfl rfl rfl ?_
    refine go_iconst 94 (v := 2) (D at_93) rfl rfl ?_
    refine go_aload 96 (D at_94) rfl rfl rfl ?_
    refine go_aload 98 (D at_96) rfl rfl rfl ?_
    refine go_iconst 99 (v := 2) (D at_98) rfl rfl ?_
    have K97 : Keep h41 h94 [] := (K85.wr W95 (Or.inr (Nat.le_trans K70.1 (Nat.le_of_eq g63))))
    have S98 := (f44.keep K97)
    have A99 := (A90.other W95 (Nat.ne_of_lt (Nat.lt_of_lt_of_le (Nat.lt_of_lt_of_le A49.lt K89.1) (Nat.le_of_eq g63))))
    refine go_old (fun O100 => ?_)
    refine callS0 (cells' := 4) (slots' := 32) (Wd := 2) (argsL := [(.ref r43), (.ref a46), (.int 2)]) (rest := [(.int 2), (.ref a62)]) (pay_of (a0 := a0) (c_at4_2 l G r43 a46 k50 (76 : Int32) (105 : Int32) (115 : Int32) (116 : Int32) (x2 &&& (255 : Int32)) (x3 &&& (255 : Int32)) (x4 &&& (255 : Int32)) h94 O100 S98 A99 (c8_m _) (c8_m _) (c8_m _)) (wk G 22) (wk G 3)) (wk G 20) (wk G 21) (wk G 3) (wk G 22) pd7 (sz hml) all0 sf00 (D at_99) (k_v 102 rfl ?_)
    rintro _ h101 ⟨rfl, rfl⟩ K102
    refine go_stC 103 (i := 2) (x' := (115 : Int32)) (vs' := [(.int 76), (.int 105), (.int 115), (.int 0), (.int 0), (.int 0), (.int 0), (.int 0), (.int 0)]) A96 (Nat.le_trans O0.2.1 (Nat.le_trans K84.1 (Nat.le_of_eq g63))) (by decide) (by decide) rfl (nb rfl) (by decide) rfl (D at_102) rfl (fun h103 W104 A105 => ?_)
    refine go_aload 105 (D at_103) rfl rfl rfl ?_
    refine go_iconst 106 (v := 3) (D at_105) rfl rfl ?_
    refine go_aload 108 (D at_106) rfl rfl rfl ?_
    refine go_aload 110 (D at_108) rfl rfl rfl ?_
    refine go_iconst 111 (v := 3) (D at_110) rfl rfl ?_
    have K106 : Keep h41 h103 [] := (K97.wr W104 (Or.inr (Nat.le_trans K70.1 (Nat.le_of_eq g63))))
    have S107 := (f44.keep K106)
    have A108 := (A99.other W104 (Nat.ne_of_lt (Nat.lt_of_lt_of_le (Nat.lt_of_lt_of_le A49.lt K89.1) (Nat.le_of_eq g63))))
    refine go_old (fun O109 => ?_)
    refine callS0 (cells' := 4) (slots' := 32) (Wd := 2) (argsL := [(.ref r43), (.ref a46), (.int 3)]) (rest := [(.int 3), (.ref a62)]) (pay_of (a0 := a0) (c_at4_3 l G r43 a46 k50 (76 : Int32) (105 : Int32) (115 : Int32) (116 : Int32) (x2 &&& (255 : Int32)) (x3 &&& (255 : Int32)) (x4 &&& (255 : Int32)) h103 O109 S107 A108 (c8_m _) (c8_m _) (c8_m _)) (wk G 22) (wk G 3)) (wk G 20) (wk G 21) (wk G 3) (wk G 22) pd7 (sz hml) all0 sf00 (D at_111) (k_v 114 rfl ?_)
    rintro _ h110 ⟨rfl, rfl⟩ K111
    refine go_stC 115 (i := 3) (x' := (116 : Int32)) (vs' := [(.int 76), (.int 105), (.int 115), (.int 116), (.int 0), (.int 0), (.int 0), (.int 0), (.int 0)]) A105 (Nat.le_trans O0.2.1 (Nat.le_trans K84.1 (Nat.le_of_eq g63))) (by decide) (by decide) rfl (nb rfl) (by decide) rfl (D at_114) rfl (fun h112 W113 A114 => ?_)
    refine go_aload 117 (D at_115) rfl rfl rfl ?_
    refine go_iconst 118 (v := 4) (D at_117) rfl rfl ?_
    refine go_aload 120 (D at_118) rfl rfl rfl ?_
    refine go_aload 122 (D at_120) rfl rfl rfl ?_
    refine go_iconst 123 (v := 4) (D at_122) rfl rfl ?_
    have K115 : Keep h41 h112 [] := (K106.wr W113 (Or.inr (Nat.le_trans K70.1 (Nat.le_of_eq g63))))
    have S116 := (f44.keep K115)
    have A117 := (A108.other W113 (Nat.ne_of_lt (Nat.lt_of_lt_of_le (Nat.lt_of_lt_of_le A49.lt K89.1) (Nat.le_of_eq g63))))
    refine go_old (fun O118 => ?_)
    refine callS0 (cells' := 4) (slots' := 32) (Wd := 2) (argsL := [(.ref r43), (.ref a46), (.int 4)]) (rest := [(.int 4), (.ref a62)]) (pay_of (a0 := a0) (c_at4_4 l G r43 a46 k50 (76 : Int32) (105 : Int32) (115 : Int32) (116 : Int32) (x2 &&& (255 : Int32)) (x3 &&& (255 : Int32)) (x4 &&& (255 : Int32)) h112 O118 S116 A117 (c8_m _) (c8_m _) (c8_m _)) (wk G 22) (wk G 3)) (wk G 20) (wk G 21) (wk G 3) (wk G 22) pd7 (sz hml) all0 sf00 (D at_123) (k_v 126 rfl ?_)
    rintro _ h119 ⟨rfl, rfl⟩ K120
    refine go_stC 127 (i := 4) (x' := (x2 &&& (255 : Int32))) (vs' := [(.int 76), (.int 105), (.int 115), (.int 116), (.int (x2 &&& (255 : Int32))), (.int 0), (.int 0), (.int 0), (.int 0)]) A114 (Nat.le_trans O0.2.1 (Nat.le_trans K84.1 (Nat.le_of_eq g63))) (by decide) (by decide) rfl (nb rfl) (i2c_mask _) rfl (D at_126) rfl (fun h121 W122 A123 => ?_)
    refine go_aload 129 (D at_127) rfl rfl rfl ?_
    refine go_iconst 130 (v := 5) (D at_129) rfl rfl ?_
    refine go_aload 132 (D at_130) rfl rfl rfl ?_
    refine go_aload 134 (D at_132) rfl rfl rfl ?_
    refine go_iconst 135 (v := 5) (D at_134) rfl rfl ?_
    have K124 : Keep h41 h121 [] := (K115.wr W122 (Or.inr (Nat.le_trans K70.1 (Nat.le_of_eq g63))))
    have S125 := (f44.keep K124)
    have A126 := (A117.other W122 (Nat.ne_of_lt (Nat.lt_of_lt_of_le (Nat.lt_of_lt_of_le A49.lt K89.1) (Nat.le_of_eq g63))))
    refine go_old (fun O127 => ?_)
    refine callS0 (cells' := 4) (slots' := 32) (Wd := 2) (argsL := [(.ref r43), (.ref a46), (.int 5)]) (rest := [(.int 5), (.ref a62)]) (pay_of (a0 := a0) (c_at4_5 l G r43 a46 k50 (76 : Int32) (105 : Int32) (115 : Int32) (116 : Int32) (x2 &&& (255 : Int32)) (x3 &&& (255 : Int32)) (x4 &&& (255 : Int32)) h121 O127 S125 A126 (c8_m _) (c8_m _) (c8_m _)) (wk G 22) (wk G 3)) (wk G 20) (wk G 21) (wk G 3) (wk G 22) pd7 (sz hml) all0 sf00 (D at_135) (k_v 138 rfl ?_)
    rintro _ h128 ⟨rfl, rfl⟩ K129
    refine go_stC 139 (i := 5) (x' := (x3 &&& (255 : Int32))) (vs' := [(.int 76), (.int 105), (.int 115), (.int 116), (.int (x2 &&& (255 : Int32))), (.int (x3 &&& (255 : Int32))), (.int 0), (.int 0), (.int 0)]) A123 (Nat.le_trans O0.2.1 (Nat.le_trans K84.1 (Nat.le_of_eq g63))) (by decide) (by decide) rfl (nb rfl) (i2c_mask _) rfl (D at_138) rfl (fun h130 W131 A132 => ?_)
    refine go_aload 141 (D at_139) rfl rfl rfl ?_
    refine go_bipush 143 (v := 6) (D at_141) rfl rfl ?_
    refine go_aload 145 (D at_143) rfl rfl rfl ?_
    refine go_aload 147 (D at_145) rfl rfl rfl ?_
    refine go_bipush 149 (v := 6) (D at_147) rfl rfl ?_
    have K133 : Keep h41 h130 [] := (K124.wr W131 (Or.inr (Nat.le_trans K70.1 (Nat.le_of_eq g63))))
    have S134 := (f44.keep K133)
    have A135 := (A126.other W131 (Nat.ne_of_lt (Nat.lt_of_lt_of_le (Nat.lt_of_lt_of_le A49.lt K89.1) (Nat.le_of_eq g63))))
    refine go_old (fun O136 => ?_)
    refine callS0 (cells' := 4) (slots' := 32) (Wd := 2) (argsL := [(.ref r43), (.ref a46), (.int 6)]) (rest := [(.int 6), (.ref a62)]) (pay_of (a0 := a0) (c_at4_6 l G r43 a46 k50 (76 : Int32) (105 : Int32) (115 : Int32) (116 : Int32) (x2 &&& (255 : Int32)) (x3 &&& (255 : Int32)) (x4 &&& (255 : Int32)) h130 O136 S134 A135 (c8_m _) (c8_m _) (c8_m _)) (wk G 22) (wk G 3)) (wk G 20) (wk G 21) (wk G 3) (wk G 22) pd7 (sz hml) all0 sf00 (D at_149) (k_v 152 rfl ?_)
    rintro _ h137 ⟨rfl, rfl⟩ K138
    refine go_stC 153 (i := 6) (x' := (x4 &&& (255 : Int32))) (vs' := [(.int 76), (.int 105), (.int 115), (.int 116), (.int (x2 &&& (255 : Int32))), (.int (x3 &&& (255 : Int32))), (.int (x4 &&& (255 : Int32))), (.int 0), (.int 0)]) A132 (Nat.le_trans O0.2.1 (Nat.le_trans K84.1 (Nat.le_of_eq g63))) (by decide) (by decide) rfl (nb rfl) (i2c_mask _) rfl (D at_152) rfl (fun h139 W140 A141 => ?_)
    refine go_aload 155 (D at_153) rfl rfl rfl ?_
    refine go_bipush 157 (v := 7) (D at_155) rfl rfl ?_
    refine go_aload 159 (D at_157) rfl rfl rfl ?_
    refine go_aload 161 (D at_159) rfl rfl rfl ?_
    refine go_bipush 163 (v := 7) (D at_161) rfl rfl ?_
    have K142 : Keep h41 h139 [] := (K133.wr W140 (Or.inr (Nat.le_trans K70.1 (Nat.le_of_eq g63))))
    have S143 := (f44.keep K142)
    have A144 := (A135.other W140 (Nat.ne_of_lt (Nat.lt_of_lt_of_le (Nat.lt_of_lt_of_le A49.lt K89.1) (Nat.le_of_eq g63))))
    refine go_old (fun O145 => ?_)
    refine callS0 (cells' := 4) (slots' := 32) (Wd := 2) (argsL := [(.ref r43), (.ref a46), (.int 7)]) (rest := [(.int 7), (.ref a62)]) (pay_of (a0 := a0) (c_at4_7 l G r43 a46 k50 (76 : Int32) (105 : Int32) (115 : Int32) (116 : Int32) (x2 &&& (255 : Int32)) (x3 &&& (255 : Int32)) (x4 &&& (255 : Int32)) h139 O145 S143 A144 (c8_m _) (c8_m _) (c8_m _)) (wk G 22) (wk G 3)) (wk G 20) (wk G 21) (wk G 3) (wk G 22) pd7 (sz hml) all0 sf00 (D at_163) (k_v 166 rfl ?_)
    rintro _ h146 ⟨rfl, rfl⟩ K147
    refine go_stC 167 (i := 7) (x' := (120 : Int32)) (vs' := [(.int 76), (.int 105), (.int 115), (.int 116), (.int (x2 &&& (255 : Int32))), (.int (x3 &&& (255 : Int32))), (.int (x4 &&& (255 : Int32))), (.int 120), (.int 0)]) A141 (Nat.le_trans O0.2.1 (Nat.le_trans K84.1 (Nat.le_of_eq g63))) (by decide) (by decide) rfl (nb rfl) (by decide) rfl (D at_166) rfl (fun h148 W149 A150 => ?_)
    refine go_aload 169 (D at_167) rfl rfl rfl ?_
    refine go_bipush 171 (v := 8) (D at_169) rfl rfl ?_
    refine go_aload 173 (D at_171) rfl rfl rfl ?_
    refine go_aload 175 (D at_173) rfl rfl rfl ?_
    refine go_bipush 177 (v := 8) (D at_175) rfl rfl ?_
    have K151 : Keep h41 h148 [] := (K142.wr W149 (Or.inr (Nat.le_trans K70.1 (Nat.le_of_eq g63))))
    have S152 := (f44.keep K151)
    have A153 := (A144.other W149 (Nat.ne_of_lt (Nat.lt_of_lt_of_le (Nat.lt_of_lt_of_le A49.lt K89.1) (Nat.le_of_eq g63))))
    refine go_old (fun O154 => ?_)
    refine callS0 (cells' := 4) (slots' := 32) (Wd := 2) (argsL := [(.ref r43), (.ref a46), (.int 8)]) (rest := [(.int 8), (.ref a62)]) (pay_of (a0 := a0) (c_at4_8 l G r43 a46 k50 (76 : Int32) (105 : Int32) (115 : Int32) (116 : Int32) (x2 &&& (255 : Int32)) (x3 &&& (255 : Int32)) (x4 &&& (255 : Int32)) h148 O154 S152 A153 (c8_m _) (c8_m _) (c8_m _)) (wk G 22) (wk G 3)) (wk G 20) (wk G 21) (wk G 3) (wk G 22) pd7 (sz hml) all0 sf00 (D at_177) (k_v 180 rfl ?_)
    rintro _ h155 ⟨rfl, rfl⟩ K156
    refine go_stC 181 (i := 8) (x' := (120 : Int32)) (vs' := [(.int 76), (.int 105), (.int 115), (.int 116), (.int (x2 &&& (255 : Int32))), (.int (x3 &&& (255 : Int32))), (.int (x4 &&& (255 : Int32))), (.int 120), (.int 120)]) A150 (Nat.le_trans O0.2.1 (Nat.le_trans K84.1 (Nat.le_of_eq g63))) (by decide) (by decide) rfl (nb rfl) (by decide) rfl (D at_180) rfl (fun h157 W158 A159 => ?_)
    rcases and4 x1 with q160 | q160 | q160 | q160
    · rw [q160]
      refine go_aload 183 (D at_181) rfl rfl rfl ?_
      refine go_aload 185 (D at_183) rfl rfl rfl ?_
      have K161 : Keep h41 h157 [] := (K151.wr W158 (Or.inr (Nat.le_trans K70.1 (Nat.le_of_eq g63))))
      have S162 := (f44.keep K161)
      refine go_old (fun O163 => ?_)
      have E164 := (f44.exa.keep K161)
      refine callV0 (cells' := 4) (slots' := 32) (Wd := 1) (argsL := []) (rest := [(.ref a62)]) (pay_len G O163 (n := (4 : Int32)) S162 rfl (by decide) (by decide)) E164 (wk G 23) (wk G 24) (wk G 26) (wk G 26) (wk G 25) pd5 (sz hml) all0 sf00 (D at_185) (k_v 188 rfl ?_)
      rintro _ _ ⟨rfl, rfl⟩ -
      refine go_iload 190 (D at_188) rfl rfl ?_
      refine go_iadd 191 (z := (4 : Int32)) (D at_190) rfl (by decide) ?_
      refine callS0 (cells' := 7) (slots' := 44) (Wd := 0) (argsL := [(.ref a62), (.int 4)]) (rest := []) (pay_of (a0 := a0) (c_take9_4 l G a62 k66 (76 : Int32) (105 : Int32) (115 : Int32) (116 : Int32) (x2 &&& (255 : Int32)) (x3 &&& (255 : Int32)) (x4 &&& (255 : Int32)) (120 : Int32) (120 : Int32) h157 O163 A159 (by decide) (by decide) (by decide) (by decide)) (wk G 60) (wk G 3)) (wk G 58) (wk G 59) (wk G 3) (wk G 60) pd9 (sz hml) all0 sf00 (D at_191) (k_v 194 rfl ?_)
      rintro _ h165 ⟨r167, rfl, f168, f169⟩ K166
      refine go_astore 196 (ls' := #[vi x0, vi x1, vi x2, vi x3, vi x4, vi 0, vi 0, vr (s_LIST Z), vr r43, vr a46, vr a62, vr r167, un, un]) (D at_194) rfl rfl rfl ?_
      refine go_aload 198 (D at_196) rfl rfl rfl ?_
      refine go_iload 200 (D at_198) rfl rfl ?_
      have A170 := ((A153.other W158 (Nat.ne_of_lt (Nat.lt_of_lt_of_le (Nat.lt_of_lt_of_le A49.lt K89.1) (Nat.le_of_eq g63)))).keep K166 nin0)
      refine go_old (fun O171 => ?_)
      refine callSW0 rfl (cells' := 13) (slots' := 56) (Wd := 0) (argsL := [(.ref a46), (.int 0)]) (rest := []) (payW_of (a0 := a0) (c_take3_0 l G a46 k50 (x2 &&& (255 : Int32)) (x3 &&& (255 : Int32)) (x4 &&& (255 : Int32)) h165 O171 A170) (wk G 60) (wk G 3) (ew1 G)) (wk G 58) (wk G 59) (wk G 3) (wk G 60) pd9 (sz hml) all0 (D at_200) (k_v 203 rfl ?_)
      rintro _ h172 ⟨r174, rfl, f175, f176⟩ K173
      refine go_astore 205 (ls' := #[vi x0, vi x1, vi x2, vi x3, vi x4, vi 0, vi 0, vr (s_LIST Z), vr r43, vr a46, vr a62, vr r167, vr r174, un]) (D at_203) rfl rfl rfl ?_
      refine go_aload 207 (D at_205) rfl rfl rfl ?_
      refine go_aload 209 (D at_207) rfl rfl rfl ?_
      refine go_old (fun O178 => ?_)
      have Z177 := F5.ext O178.2
      have Z179 := S6.ext O178.2
      have K180 : Keep h165 h172 [] := ((Keep.refl h165 []).trans K173 all0)
      have S181 := (f169.keep K180)
      have Z182 := (se_LIST G).2.ext O178.2
      refine callVW0 rfl (cells' := 15) (slots' := 60) (Wd := 0) (argsL := [(.ref r167)]) (rest := []) (payW_of (a0 := a0) (c_noun4_4 l G (s_LIST Z) r167 (w_LIST Z) y1 y2 y3 y4 (76 : Int32) (105 : Int32) (115 : Int32) (116 : Int32) h172 O178 Z177 Z179 S181) (wk G 86) (wk G 6) (ew1 G)) Z182 (wk G 82) (wk G 83) (wk G 85) (wk G 85) (wk G 84) pd14 (sz hml) all0 (D at_209) (k_v 212 rfl ?_)
      rintro _ h183 ⟨r185, rfl, f186⟩ K184
      refine go_astore 214 (ls' := #[vi x0, vi x1, vi x2, vi x3, vi x4, vi 0, vi 0, vr (s_LIST Z), vr r43, vr a46, vr a62, vr r167, vr r174, vr r185]) (D at_212) rfl rfl rfl ?_
      refine go_aload 216 (D at_214) rfl rfl rfl ?_
      refine go_aload 218 (D at_216) rfl rfl rfl ?_
      have K187 : Keep h172 h183 [] := ((Keep.refl h172 []).trans K184 all0)
      have S188 := (f176.keep K187)
      refine go_old (fun O189 => ?_)
      refine callV0 (cells' := 15) (slots' := 60) (Wd := 0) (argsL := [(.ref r174)]) (rest := []) (pay_eq G O189 f186 S188 (by decide) (by decide)) f186.exa (wk G 132) (wk G 133) (wk G 135) (wk G 135) (wk G 134) pd15 (sz hml) all0 sf00 (D at_218) (k_v 221 rfl ?_)
      rintro _ _ (⟨rfl, q190, rfl⟩ | ⟨rfl, q190, rfl⟩) -
      rotate_left 1
      · exact absurd rfl q190
      have K191 : Keep h0 h61 [] := (K84.ext X64)
      have K192 : Keep h0 h78 [] := (K191.wr W79 (Or.inr (Nat.le_trans K84.1 (Nat.le_of_eq g63))))
      have K193 : Keep h0 h94 [] := (K192.wr W95 (Or.inr (Nat.le_trans K84.1 (Nat.le_of_eq g63))))
      have K194 : Keep h0 h103 [] := (K193.wr W104 (Or.inr (Nat.le_trans K84.1 (Nat.le_of_eq g63))))
      have K195 : Keep h0 h112 [] := (K194.wr W113 (Or.inr (Nat.le_trans K84.1 (Nat.le_of_eq g63))))
      have K196 : Keep h0 h121 [] := (K195.wr W122 (Or.inr (Nat.le_trans K84.1 (Nat.le_of_eq g63))))
      have K197 : Keep h0 h130 [] := (K196.wr W131 (Or.inr (Nat.le_trans K84.1 (Nat.le_of_eq g63))))
      have K198 : Keep h0 h139 [] := (K197.wr W140 (Or.inr (Nat.le_trans K84.1 (Nat.le_of_eq g63))))
      have K199 : Keep h0 h148 [] := (K198.wr W149 (Or.inr (Nat.le_trans K84.1 (Nat.le_of_eq g63))))
      have K200 : Keep h0 h157 [] := (K199.wr W158 (Or.inr (Nat.le_trans K84.1 (Nat.le_of_eq g63))))
      have K201 : Keep h0 h165 [] := (K200.trans K166 all0)
      have K202 : Keep h0 h172 [] := (K201.trans K173 all0)
      have K203 : Keep h0 h183 [] := (K202.trans K184 all0)
      refine go_ireturn hret hlk rfl (by simp) (D at_221) (by decide) (by decide) ⟨_, rfl, rfl⟩ K203
    · rw [q160]
      refine go_aload 183 (D at_181) rfl rfl rfl ?_
      refine go_aload 185 (D at_183) rfl rfl rfl ?_
      have K204 : Keep h41 h157 [] := (K151.wr W158 (Or.inr (Nat.le_trans K70.1 (Nat.le_of_eq g63))))
      have S205 := (f44.keep K204)
      refine go_old (fun O206 => ?_)
      have E207 := (f44.exa.keep K204)
      refine callV0 (cells' := 4) (slots' := 32) (Wd := 1) (argsL := []) (rest := [(.ref a62)]) (pay_len G O206 (n := (4 : Int32)) S205 rfl (by decide) (by decide)) E207 (wk G 23) (wk G 24) (wk G 26) (wk G 26) (wk G 25) pd5 (sz hml) all0 sf00 (D at_185) (k_v 188 rfl ?_)
      rintro _ _ ⟨rfl, rfl⟩ -
      refine go_iload 190 (D at_188) rfl rfl ?_
      refine go_iadd 191 (z := (5 : Int32)) (D at_190) rfl (by decide) ?_
      refine callS0 (cells' := 7) (slots' := 46) (Wd := 0) (argsL := [(.ref a62), (.int 5)]) (rest := []) (pay_of (a0 := a0) (c_take9_5 l G a62 k66 (76 : Int32) (105 : Int32) (115 : Int32) (116 : Int32) (x2 &&& (255 : Int32)) (x3 &&& (255 : Int32)) (x4 &&& (255 : Int32)) (120 : Int32) (120 : Int32) h157 O206 A159 (by decide) (by decide) (by decide) (by decide) (c8_m _)) (wk G 60) (wk G 3)) (wk G 58) (wk G 59) (wk G 3) (wk G 60) pd9 (sz hml) all0 sf00 (D at_191) (k_v 194 rfl ?_)
      rintro _ h208 ⟨r210, rfl, f211, f212⟩ K209
      refine go_astore 196 (ls' := #[vi x0, vi x1, vi x2, vi x3, vi x4, vi 0, vi 1, vr (s_LIST Z), vr r43, vr a46, vr a62, vr r210, un, un]) (D at_194) rfl rfl rfl ?_
      refine go_aload 198 (D at_196) rfl rfl rfl ?_
      refine go_iload 200 (D at_198) rfl rfl ?_
      have A213 := ((A153.other W158 (Nat.ne_of_lt (Nat.lt_of_lt_of_le (Nat.lt_of_lt_of_le A49.lt K89.1) (Nat.le_of_eq g63)))).keep K209 nin0)
      refine go_old (fun O214 => ?_)
      refine callS0 (cells' := 10) (slots' := 52) (Wd := 0) (argsL := [(.ref a46), (.int 1)]) (rest := []) (pay_of (a0 := a0) (c_take3_1 l G a46 k50 (x2 &&& (255 : Int32)) (x3 &&& (255 : Int32)) (x4 &&& (255 : Int32)) h208 O214 A213 (c8_m _)) (wk G 60) (wk G 3)) (wk G 58) (wk G 59) (wk G 3) (wk G 60) pd9 (sz hml) all0 sf00 (D at_200) (k_v 203 rfl ?_)
      rintro _ h215 ⟨r217, rfl, f218, f219⟩ K216
      refine go_astore 205 (ls' := #[vi x0, vi x1, vi x2, vi x3, vi x4, vi 0, vi 1, vr (s_LIST Z), vr r43, vr a46, vr a62, vr r210, vr r217, un]) (D at_203) rfl rfl rfl ?_
      refine go_aload 207 (D at_205) rfl rfl rfl ?_
      refine go_aload 209 (D at_207) rfl rfl rfl ?_
      refine go_old (fun O221 => ?_)
      have Z220 := F5.ext O221.2
      have Z222 := S6.ext O221.2
      have K223 : Keep h208 h215 [] := ((Keep.refl h208 []).trans K216 all0)
      have S224 := (f212.keep K223)
      have Z225 := (se_LIST G).2.ext O221.2
      refine callV0 (cells' := 12) (slots' := 57) (Wd := 0) (argsL := [(.ref r210)]) (rest := []) (pay_of (a0 := a0) (c_noun4_5 l G (s_LIST Z) r210 (w_LIST Z) y1 y2 y3 y4 (76 : Int32) (105 : Int32) (115 : Int32) (116 : Int32) (x2 &&& (255 : Int32)) h215 O221 Z220 Z222 S224) (wk G 86) (wk G 6)) Z225 (wk G 82) (wk G 83) (wk G 85) (wk G 85) (wk G 84) pd14 (sz hml) all0 sf00 (D at_209) (k_v 212 rfl ?_)
      rintro _ h226 ⟨r228, rfl, f229⟩ K227
      refine go_astore 214 (ls' := #[vi x0, vi x1, vi x2, vi x3, vi x4, vi 0, vi 1, vr (s_LIST Z), vr r43, vr a46, vr a62, vr r210, vr r217, vr r228]) (D at_212) rfl rfl rfl ?_
      refine go_aload 216 (D at_214) rfl rfl rfl ?_
      refine go_aload 218 (D at_216) rfl rfl rfl ?_
      have K230 : Keep h215 h226 [] := ((Keep.refl h215 []).trans K227 all0)
      have S231 := (f219.keep K230)
      refine go_old (fun O232 => ?_)
      refine callV0 (cells' := 12) (slots' := 57) (Wd := 0) (argsL := [(.ref r217)]) (rest := []) (pay_eq G O232 f229 S231 (by decide) (by decide)) f229.exa (wk G 132) (wk G 133) (wk G 135) (wk G 135) (wk G 134) pd15 (sz hml) all0 sf00 (D at_218) (k_v 221 rfl ?_)
      rintro _ _ (⟨rfl, q233, rfl⟩ | ⟨rfl, q233, rfl⟩) -
      rotate_left 1
      · exact absurd rfl q233
      have K234 : Keep h0 h61 [] := (K84.ext X64)
      have K235 : Keep h0 h78 [] := (K234.wr W79 (Or.inr (Nat.le_trans K84.1 (Nat.le_of_eq g63))))
      have K236 : Keep h0 h94 [] := (K235.wr W95 (Or.inr (Nat.le_trans K84.1 (Nat.le_of_eq g63))))
      have K237 : Keep h0 h103 [] := (K236.wr W104 (Or.inr (Nat.le_trans K84.1 (Nat.le_of_eq g63))))
      have K238 : Keep h0 h112 [] := (K237.wr W113 (Or.inr (Nat.le_trans K84.1 (Nat.le_of_eq g63))))
      have K239 : Keep h0 h121 [] := (K238.wr W122 (Or.inr (Nat.le_trans K84.1 (Nat.le_of_eq g63))))
      have K240 : Keep h0 h130 [] := (K239.wr W131 (Or.inr (Nat.le_trans K84.1 (Nat.le_of_eq g63))))
      have K241 : Keep h0 h139 [] := (K240.wr W140 (Or.inr (Nat.le_trans K84.1 (Nat.le_of_eq g63))))
      have K242 : Keep h0 h148 [] := (K241.wr W149 (Or.inr (Nat.le_trans K84.1 (Nat.le_of_eq g63))))
      have K243 : Keep h0 h157 [] := (K242.wr W158 (Or.inr (Nat.le_trans K84.1 (Nat.le_of_eq g63))))
      have K244 : Keep h0 h208 [] := (K243.trans K209 all0)
      have K245 : Keep h0 h215 [] := (K244.trans K216 all0)
      have K246 : Keep h0 h226 [] := (K245.trans K227 all0)
      refine go_ireturn hret hlk rfl (by simp) (D at_221) (by decide) (by decide) ⟨_, rfl, rfl⟩ K246
    · rw [q160]
      refine go_aload 183 (D at_181) rfl rfl rfl ?_
      refine go_aload 185 (D at_183) rfl rfl rfl ?_
      have K247 : Keep h41 h157 [] := (K151.wr W158 (Or.inr (Nat.le_trans K70.1 (Nat.le_of_eq g63))))
      have S248 := (f44.keep K247)
      refine go_old (fun O249 => ?_)
      have E250 := (f44.exa.keep K247)
      refine callV0 (cells' := 4) (slots' := 32) (Wd := 1) (argsL := []) (rest := [(.ref a62)]) (pay_len G O249 (n := (4 : Int32)) S248 rfl (by decide) (by decide)) E250 (wk G 23) (wk G 24) (wk G 26) (wk G 26) (wk G 25) pd5 (sz hml) all0 sf00 (D at_185) (k_v 188 rfl ?_)
      rintro _ _ ⟨rfl, rfl⟩ -
      refine go_iload 190 (D at_188) rfl rfl ?_
      refine go_iadd 191 (z := (6 : Int32)) (D at_190) rfl (by decide) ?_
      refine callS0 (cells' := 7) (slots' := 48) (Wd := 0) (argsL := [(.ref a62), (.int 6)]) (rest := []) (pay_of (a0 := a0) (c_take9_6 l G a62 k66 (76 : Int32) (105 : Int32) (115 : Int32) (116 : Int32) (x2 &&& (255 : Int32)) (x3 &&& (255 : Int32)) (x4 &&& (255 : Int32)) (120 : Int32) (120 : Int32) h157 O249 A159 (by decide) (by decide) (by decide) (by decide) (c8_m _) (c8_m _)) (wk G 60) (wk G 3)) (wk G 58) (wk G 59) (wk G 3) (wk G 60) pd9 (sz hml) all0 sf00 (D at_191) (k_v 194 rfl ?_)
      rintro _ h251 ⟨r253, rfl, f254, f255⟩ K252
      refine go_astore 196 (ls' := #[vi x0, vi x1, vi x2, vi x3, vi x4, vi 0, vi 2, vr (s_LIST Z), vr r43, vr a46, vr a62, vr r253, un, un]) (D at_194) rfl rfl rfl ?_
      refine go_aload 198 (D at_196) rfl rfl rfl ?_
      refine go_iload 200 (D at_198) rfl rfl ?_
      have A256 := ((A153.other W158 (Nat.ne_of_lt (Nat.lt_of_lt_of_le (Nat.lt_of_lt_of_le A49.lt K89.1) (Nat.le_of_eq g63)))).keep K252 nin0)
      refine go_old (fun O257 => ?_)
      refine callS0 (cells' := 10) (slots' := 56) (Wd := 0) (argsL := [(.ref a46), (.int 2)]) (rest := []) (pay_of (a0 := a0) (c_take3_2 l G a46 k50 (x2 &&& (255 : Int32)) (x3 &&& (255 : Int32)) (x4 &&& (255 : Int32)) h251 O257 A256 (c8_m _) (c8_m _)) (wk G 60) (wk G 3)) (wk G 58) (wk G 59) (wk G 3) (wk G 60) pd9 (sz hml) all0 sf00 (D at_200) (k_v 203 rfl ?_)
      rintro _ h258 ⟨r260, rfl, f261, f262⟩ K259
      refine go_astore 205 (ls' := #[vi x0, vi x1, vi x2, vi x3, vi x4, vi 0, vi 2, vr (s_LIST Z), vr r43, vr a46, vr a62, vr r253, vr r260, un]) (D at_203) rfl rfl rfl ?_
      refine go_aload 207 (D at_205) rfl rfl rfl ?_
      refine go_aload 209 (D at_207) rfl rfl rfl ?_
      refine go_old (fun O264 => ?_)
      have Z263 := F5.ext O264.2
      have Z265 := S6.ext O264.2
      have K266 : Keep h251 h258 [] := ((Keep.refl h251 []).trans K259 all0)
      have S267 := (f255.keep K266)
      have Z268 := (se_LIST G).2.ext O264.2
      refine callV0 (cells' := 12) (slots' := 62) (Wd := 0) (argsL := [(.ref r253)]) (rest := []) (pay_of (a0 := a0) (c_noun4_6 l G (s_LIST Z) r253 (w_LIST Z) y1 y2 y3 y4 (76 : Int32) (105 : Int32) (115 : Int32) (116 : Int32) (x2 &&& (255 : Int32)) (x3 &&& (255 : Int32)) h258 O264 Z263 Z265 S267) (wk G 86) (wk G 6)) Z268 (wk G 82) (wk G 83) (wk G 85) (wk G 85) (wk G 84) pd14 (sz hml) all0 sf00 (D at_209) (k_v 212 rfl ?_)
      rintro _ h269 ⟨r271, rfl, f272⟩ K270
      refine go_astore 214 (ls' := #[vi x0, vi x1, vi x2, vi x3, vi x4, vi 0, vi 2, vr (s_LIST Z), vr r43, vr a46, vr a62, vr r253, vr r260, vr r271]) (D at_212) rfl rfl rfl ?_
      refine go_aload 216 (D at_214) rfl rfl rfl ?_
      refine go_aload 218 (D at_216) rfl rfl rfl ?_
      have K273 : Keep h258 h269 [] := ((Keep.refl h258 []).trans K270 all0)
      have S274 := (f262.keep K273)
      refine go_old (fun O275 => ?_)
      refine callV0 (cells' := 12) (slots' := 62) (Wd := 0) (argsL := [(.ref r260)]) (rest := []) (pay_eq G O275 f272 S274 (by decide) (by decide)) f272.exa (wk G 132) (wk G 133) (wk G 135) (wk G 135) (wk G 134) pd15 (sz hml) all0 sf00 (D at_218) (k_v 221 rfl ?_)
      rintro _ _ (⟨rfl, q276, rfl⟩ | ⟨rfl, q276, rfl⟩) -
      rotate_left 1
      · exact absurd rfl q276
      have K277 : Keep h0 h61 [] := (K84.ext X64)
      have K278 : Keep h0 h78 [] := (K277.wr W79 (Or.inr (Nat.le_trans K84.1 (Nat.le_of_eq g63))))
      have K279 : Keep h0 h94 [] := (K278.wr W95 (Or.inr (Nat.le_trans K84.1 (Nat.le_of_eq g63))))
      have K280 : Keep h0 h103 [] := (K279.wr W104 (Or.inr (Nat.le_trans K84.1 (Nat.le_of_eq g63))))
      have K281 : Keep h0 h112 [] := (K280.wr W113 (Or.inr (Nat.le_trans K84.1 (Nat.le_of_eq g63))))
      have K282 : Keep h0 h121 [] := (K281.wr W122 (Or.inr (Nat.le_trans K84.1 (Nat.le_of_eq g63))))
      have K283 : Keep h0 h130 [] := (K282.wr W131 (Or.inr (Nat.le_trans K84.1 (Nat.le_of_eq g63))))
      have K284 : Keep h0 h139 [] := (K283.wr W140 (Or.inr (Nat.le_trans K84.1 (Nat.le_of_eq g63))))
      have K285 : Keep h0 h148 [] := (K284.wr W149 (Or.inr (Nat.le_trans K84.1 (Nat.le_of_eq g63))))
      have K286 : Keep h0 h157 [] := (K285.wr W158 (Or.inr (Nat.le_trans K84.1 (Nat.le_of_eq g63))))
      have K287 : Keep h0 h251 [] := (K286.trans K252 all0)
      have K288 : Keep h0 h258 [] := (K287.trans K259 all0)
      have K289 : Keep h0 h269 [] := (K288.trans K270 all0)
      refine go_ireturn hret hlk rfl (by simp) (D at_221) (by decide) (by decide) ⟨_, rfl, rfl⟩ K289
    · rw [q160]
      refine go_aload 183 (D at_181) rfl rfl rfl ?_
      refine go_aload 185 (D at_183) rfl rfl rfl ?_
      have K290 : Keep h41 h157 [] := (K151.wr W158 (Or.inr (Nat.le_trans K70.1 (Nat.le_of_eq g63))))
      have S291 := (f44.keep K290)
      refine go_old (fun O292 => ?_)
      have E293 := (f44.exa.keep K290)
      refine callV0 (cells' := 4) (slots' := 32) (Wd := 1) (argsL := []) (rest := [(.ref a62)]) (pay_len G O292 (n := (4 : Int32)) S291 rfl (by decide) (by decide)) E293 (wk G 23) (wk G 24) (wk G 26) (wk G 26) (wk G 25) pd5 (sz hml) all0 sf00 (D at_185) (k_v 188 rfl ?_)
      rintro _ _ ⟨rfl, rfl⟩ -
      refine go_iload 190 (D at_188) rfl rfl ?_
      refine go_iadd 191 (z := (7 : Int32)) (D at_190) rfl (by decide) ?_
      refine callS0 (cells' := 7) (slots' := 50) (Wd := 0) (argsL := [(.ref a62), (.int 7)]) (rest := []) (pay_of (a0 := a0) (c_take9_7 l G a62 k66 (76 : Int32) (105 : Int32) (115 : Int32) (116 : Int32) (x2 &&& (255 : Int32)) (x3 &&& (255 : Int32)) (x4 &&& (255 : Int32)) (120 : Int32) (120 : Int32) h157 O292 A159 (by decide) (by decide) (by decide) (by decide) (c8_m _) (c8_m _) (c8_m _)) (wk G 60) (wk G 3)) (wk G 58) (wk G 59) (wk G 3) (wk G 60) pd9 (sz hml) all0 sf00 (D at_191) (k_v 194 rfl ?_)
      rintro _ h294 ⟨r296, rfl, f297, f298⟩ K295
      refine go_astore 196 (ls' := #[vi x0, vi x1, vi x2, vi x3, vi x4, vi 0, vi 3, vr (s_LIST Z), vr r43, vr a46, vr a62, vr r296, un, un]) (D at_194) rfl rfl rfl ?_
      refine go_aload 198 (D at_196) rfl rfl rfl ?_
      refine go_iload 200 (D at_198) rfl rfl ?_
      have A299 := ((A153.other W158 (Nat.ne_of_lt (Nat.lt_of_lt_of_le (Nat.lt_of_lt_of_le A49.lt K89.1) (Nat.le_of_eq g63)))).keep K295 nin0)
      refine go_old (fun O300 => ?_)
      refine callS0 (cells' := 10) (slots' := 60) (Wd := 0) (argsL := [(.ref a46), (.int 3)]) (rest := []) (pay_of (a0 := a0) (c_take3_3 l G a46 k50 (x2 &&& (255 : Int32)) (x3 &&& (255 : Int32)) (x4 &&& (255 : Int32)) h294 O300 A299 (c8_m _) (c8_m _) (c8_m _)) (wk G 60) (wk G 3)) (wk G 58) (wk G 59) (wk G 3) (wk G 60) pd9 (sz hml) all0 sf00 (D at_200) (k_v 203 rfl ?_)
      rintro _ h301 ⟨r303, rfl, f304, f305⟩ K302
      refine go_astore 205 (ls' := #[vi x0, vi x1, vi x2, vi x3, vi x4, vi 0, vi 3, vr (s_LIST Z), vr r43, vr a46, vr a62, vr r296, vr r303, un]) (D at_203) rfl rfl rfl ?_
      refine go_aload 207 (D at_205) rfl rfl rfl ?_
      refine go_aload 209 (D at_207) rfl rfl rfl ?_
      refine go_old (fun O307 => ?_)
      have Z306 := F5.ext O307.2
      have Z308 := S6.ext O307.2
      have K309 : Keep h294 h301 [] := ((Keep.refl h294 []).trans K302 all0)
      have S310 := (f298.keep K309)
      have Z311 := (se_LIST G).2.ext O307.2
      refine callV0 (cells' := 12) (slots' := 67) (Wd := 0) (argsL := [(.ref r296)]) (rest := []) (pay_of (a0 := a0) (c_noun4_7 l G (s_LIST Z) r296 (w_LIST Z) y1 y2 y3 y4 (76 : Int32) (105 : Int32) (115 : Int32) (116 : Int32) (x2 &&& (255 : Int32)) (x3 &&& (255 : Int32)) (x4 &&& (255 : Int32)) h301 O307 Z306 Z308 S310) (wk G 86) (wk G 6)) Z311 (wk G 82) (wk G 83) (wk G 85) (wk G 85) (wk G 84) pd14 (sz hml) all0 sf00 (D at_209) (k_v 212 rfl ?_)
      rintro _ h312 ⟨r314, rfl, f315⟩ K313
      refine go_astore 214 (ls' := #[vi x0, vi x1, vi x2, vi x3, vi x4, vi 0, vi 3, vr (s_LIST Z), vr r43, vr a46, vr a62, vr r296, vr r303, vr r314]) (D at_212) rfl rfl rfl ?_
      refine go_aload 216 (D at_214) rfl rfl rfl ?_
      refine go_aload 218 (D at_216) rfl rfl rfl ?_
      have K316 : Keep h301 h312 [] := ((Keep.refl h301 []).trans K313 all0)
      have S317 := (f305.keep K316)
      refine go_old (fun O318 => ?_)
      refine callV0 (cells' := 12) (slots' := 67) (Wd := 0) (argsL := [(.ref r303)]) (rest := []) (pay_eq G O318 f315 S317 (by decide) (by decide)) f315.exa (wk G 132) (wk G 133) (wk G 135) (wk G 135) (wk G 134) pd15 (sz hml) all0 sf00 (D at_218) (k_v 221 rfl ?_)
      rintro _ _ (⟨rfl, q319, rfl⟩ | ⟨rfl, q319, rfl⟩) -
      rotate_left 1
      · exact absurd rfl q319
      have K320 : Keep h0 h61 [] := (K84.ext X64)
      have K321 : Keep h0 h78 [] := (K320.wr W79 (Or.inr (Nat.le_trans K84.1 (Nat.le_of_eq g63))))
      have K322 : Keep h0 h94 [] := (K321.wr W95 (Or.inr (Nat.le_trans K84.1 (Nat.le_of_eq g63))))
      have K323 : Keep h0 h103 [] := (K322.wr W104 (Or.inr (Nat.le_trans K84.1 (Nat.le_of_eq g63))))
      have K324 : Keep h0 h112 [] := (K323.wr W113 (Or.inr (Nat.le_trans K84.1 (Nat.le_of_eq g63))))
      have K325 : Keep h0 h121 [] := (K324.wr W122 (Or.inr (Nat.le_trans K84.1 (Nat.le_of_eq g63))))
      have K326 : Keep h0 h130 [] := (K325.wr W131 (Or.inr (Nat.le_trans K84.1 (Nat.le_of_eq g63))))
      have K327 : Keep h0 h139 [] := (K326.wr W140 (Or.inr (Nat.le_trans K84.1 (Nat.le_of_eq g63))))
      have K328 : Keep h0 h148 [] := (K327.wr W149 (Or.inr (Nat.le_trans K84.1 (Nat.le_of_eq g63))))
      have K329 : Keep h0 h157 [] := (K328.wr W158 (Or.inr (Nat.le_trans K84.1 (Nat.le_of_eq g63))))
      have K330 : Keep h0 h294 [] := (K329.trans K295 all0)
      have K331 : Keep h0 h301 [] := (K330.trans K302 all0)
      have K332 : Keep h0 h312 [] := (K331.trans K313 all0)
      refine go_ireturn hret hlk rfl (by simp) (D at_221) (by decide) (by decide) ⟨_, rfl, rfl⟩ K332
  · rw [q38]
    refine go_iload 16 (D at_14) rfl rfl ?_
    refine callS0 (cells' := 0) (slots' := 0) (Wd := 0) (argsL := [(.int 1)]) (rest := []) (pay_of (a0 := a0) (c_kind1 l G  h0 O0 ) (wk G 4) (wk G 3)) (wk G 1) (wk G 2) (wk G 3) (wk G 4) pd3 (sz hml) all0 sf00 (D at_16) (k_v 19 rfl ?_)
    rintro _ h333 ⟨rfl, rfl⟩ K334
    refine go_astore 21 (ls' := #[vi x0, vi x1, vi x2, vi x3, vi x4, vi 1, vi (x1 &&& (3 : Int32)), vr (s_GET Z), un, un, un, un, un, un]) (D at_19) rfl rfl rfl ?_
    refine go_iload 23 (D at_21) rfl rfl ?_
    refine callSW0 rfl (cells' := 2) (slots' := 16) (Wd := 0) (argsL := [(.int 1)]) (rest := []) (payW_of (a0 := a0) (c_word1 l G  h0 O0 ) (wk G 10) (wk G 3) (ew1 G)) (wk G 8) (wk G 9) (wk G 3) (wk G 10) pd4 (sz hml) all0 (D at_23) (k_v 26 rfl ?_)
    rintro _ h335 ⟨r337, rfl, f338⟩ K336
    refine go_astore 28 (ls' := #[vi x0, vi x1, vi x2, vi x3, vi x4, vi 1, vi (x1 &&& (3 : Int32)), vr (s_GET Z), vr r337, un, un, un, un, un]) (D at_26) rfl rfl rfl ?_
    refine go_iconst 29 (v := 3) (D at_28) rfl rfl ?_
    refine go_newP 31 (cells' := 3) (slots' := 19) (cap := 3) (vs := [(.int 0), (.int 0), (.int 0)]) (ty := .char) (dv := .int 0) (wk G 19) rfl rfl (D at_29) rfl (by decide) rfl (by decide) rfl rfl rfl (by decide) (by decide) (fun h339 a340 k344 g341 X342 A343 => ?_)
    refine go_dup 32 (D at_31) rfl rfl ?_
    refine go_iconst 33 (v := 0) (D at_32) rfl rfl ?_
    refine go_iload_n 34 (D at_33) rfl rfl ?_
    refine go_sipush 37 (v := 255) (D at_34) rfl rfl ?_
    refine go_iand 38 (z := (x2 &&& (255 : Int32))) (D at_37) rfl rfl ?_
    refine go_i2c 39 (z := (x2 &&& (255 : Int32))) (D at_38) rfl (i2c_mask _) ?_
    have K348 : Keep h0 h335 [] := ((Keep.refl h0 []).trans K336 all0)
    refine go_stC 40 (i := 0) (x' := (x2 &&& (255 : Int32))) (vs' := [(.int (x2 &&& (255 : Int32))), (.int 0), (.int 0)]) A343 (Nat.le_trans O0.2.1 (Nat.le_trans K348.1 (Nat.le_of_eq g341))) (by decide) (by decide) rfl (nb rfl) (i2c_mask _) rfl (D at_39) rfl (fun h345 W346 A347 => ?_)
    refine go_dup 41 (D at_40) rfl rfl ?_
    refine go_iconst 42 (v := 1) (D at_41) rfl rfl ?_
    refine go_iload_n 43 (D at_42) rfl rfl ?_
    refine go_sipush 46 (v := 255) (D at_43) rfl rfl ?_
    refine go_iand 47 (z := (x3 &&& (255 : Int32))) (D at_46) rfl rfl ?_
    refine go_i2c 48 (z := (x3 &&& (255 : Int32))) (D at_47) rfl (i2c_mask _) ?_
    refine go_stC 49 (i := 1) (x' := (x3 &&& (255 : Int32))) (vs' := [(.int (x2 &&& (255 : Int32))), (.int (x3 &&& (255 : Int32))), (.int 0)]) A347 (Nat.le_trans O0.2.1 (Nat.le_trans K348.1 (Nat.le_of_eq g341))) (by decide) (by decide) rfl (nb rfl) (i2c_mask _) rfl (D at_48) rfl (fun h349 W350 A351 => ?_)
    refine go_dup 50 (D at_49) rfl rfl ?_
    refine go_iconst 51 (v := 2) (D at_50) rfl rfl ?_
    refine go_iload 53 (D at_51) rfl rfl ?_
    refine go_sipush 56 (v := 255) (D at_53) rfl rfl ?_
    refine go_iand 57 (z := (x4 &&& (255 : Int32))) (D at_56) rfl rfl ?_
    refine go_i2c 58 (z := (x4 &&& (255 : Int32))) (D at_57) rfl (i2c_mask _) ?_
    refine go_stC 59 (i := 2) (x' := (x4 &&& (255 : Int32))) (vs' := [(.int (x2 &&& (255 : Int32))), (.int (x3 &&& (255 : Int32))), (.int (x4 &&& (255 : Int32)))]) A351 (Nat.le_trans O0.2.1 (Nat.le_trans K348.1 (Nat.le_of_eq g341))) (by decide) (by decide) rfl (nb rfl) (i2c_mask _) rfl (D at_58) rfl (fun h352 W353 A354 => ?_)
    refine go_astore 61 (ls' := #[vi x0, vi x1, vi x2, vi x3, vi x4, vi 1, vi (x1 &&& (3 : Int32)), vr (s_GET Z), vr r337, vr a340, un, un, un, un]) (D at_59) rfl rfl rfl ?_
    refine go_bipush 63 (v := 9) (D at_61) rfl rfl ?_
    refine go_newP 65 (cells' := 4) (slots' := 28) (cap := 9) (vs := [(.int 0), (.int 0), (.int 0), (.int 0), (.int 0), (.int 0), (.int 0), (.int 0), (.int 0)]) (ty := .char) (dv := .int 0) (wk G 19) rfl rfl (D at_63) rfl (by decide) rfl (by decide) rfl rfl rfl (by decide) (by decide) (fun h355 a356 k360 g357 X358 A359 => ?_)
    refine go_astore 67 (ls' := #[vi x0, vi x1, vi x2, vi x3, vi x4, vi 1, vi (x1 &&& (3 : Int32)), vr (s_GET Z), vr r337, vr a340, vr a356, un, un, un]) (D at_65) rfl rfl rfl ?_
    refine go_aload 69 (D at_67) rfl rfl rfl ?_
    refine go_iconst 70 (v := 0) (D at_69) rfl rfl ?_
    refine go_aload 72 (D at_70) rfl rfl rfl ?_
    refine go_aload 74 (D at_72) rfl rfl rfl ?_
    refine go_iconst 75 (v := 0) (D at_74) rfl rfl ?_
    have K361 : Keep h335 h339 [] := ((Keep.refl h335 []).ext X342)
    have K362 : Keep h335 h345 [] := (K361.wr W346 (Or.inr (Nat.le_of_eq g341)))
    have K363 : Keep h335 h349 [] := (K362.wr W350 (Or.inr (Nat.le_of_eq g341)))
    have K364 : Keep h335 h352 [] := (K363.wr W353 (Or.inr (Nat.le_of_eq g341)))
    have K365 : Keep h335 h355 [] := (K364.ext X358)
    have S366 := (f338.keep K365)
    have K367 : Keep h352 h355 [] := ((Keep.refl h352 []).ext X358)
    have A368 := (A354.keep K367 nin0)
    refine go_old (fun O369 => ?_)
    refine callS0 (cells' := 4) (slots' := 28) (Wd := 2) (argsL := [(.ref r337), (.ref a340), (.int 0)]) (rest := [(.int 0), (.ref a356)]) (pay_of (a0 := a0) (c_at3_0 l G r337 a340 k344 (71 : Int32) (101 : Int32) (116 : Int32) (x2 &&& (255 : Int32)) (x3 &&& (255 : Int32)) (x4 &&& (255 : Int32)) h355 O369 S366 A368 (c8_m _) (c8_m _) (c8_m _)) (wk G 22) (wk G 3)) (wk G 20) (wk G 21) (wk G 3) (wk G 22) pd7 (sz hml) all0 sf00 (D at_75) (k_v 78 rfl ?_)
    rintro _ h370 ⟨rfl, rfl⟩ K371
    have K375 : Keep h0 h339 [] := (K348.ext X342)
    have K376 : Keep h0 h345 [] := (K375.wr W346 (Or.inr (Nat.le_trans K348.1 (Nat.le_of_eq g341))))
    have K377 : Keep h0 h349 [] := (K376.wr W350 (Or.inr (Nat.le_trans K348.1 (Nat.le_of_eq g341))))
    have K378 : Keep h0 h352 [] := (K377.wr W353 (Or.inr (Nat.le_trans K348.1 (Nat.le_of_eq g341))))
    refine go_stC 79 (i := 0) (x' := (71 : Int32)) (vs' := [(.int 71), (.int 0), (.int 0), (.int 0), (.int 0), (.int 0), (.int 0), (.int 0), (.int 0)]) A359 (Nat.le_trans O0.2.1 (Nat.le_trans K378.1 (Nat.le_of_eq g357))) (by decide) (by decide) rfl (nb rfl) (by decide) rfl (D at_78) rfl (fun h372 W373 A374 => ?_)
    refine go_aload 81 (D at_79) rfl rfl rfl ?_
    refine go_iconst 82 (v := 1) (D at_81) rfl rfl ?_
    refine go_aload 84 (D at_82) rfl rfl rfl ?_
    refine go_aload 86 (D at_84) rfl rfl rfl ?_
    refine go_iconst 87 (v := 1) (D at_86) rfl rfl ?_
    have K379 : Keep h335 h372 [] := (K365.wr W373 (Or.inr (Nat.le_trans K364.1 (Nat.le_of_eq g357))))
    have S380 := (f338.keep K379)
    have K381 : Keep h339 h345 [a340] := ((Keep.refl h339 [a340]).wr W346 (Or.inl (by simp)))
    have K382 : Keep h339 h349 [a340] := (K381.wr W350 (Or.inl (by simp)))
    have K383 : Keep h339 h352 [a340] := (K382.wr W353 (Or.inl (by simp)))
    have A384 := (A368.other W373 (Nat.ne_of_lt (Nat.lt_of_lt_of_le (Nat.lt_of_lt_of_le A343.lt K383.1) (Nat.le_of_eq g357))))
    refine go_old (fun O385 => ?_)
    refine callS0 (cells' := 4) (slots' := 28) (Wd := 2) (argsL := [(.ref r337), (.ref a340), (.int 1)]) (rest := [(.int 1), (.ref a356)]) (pay_of (a0 := a0) (c_at3_1 l G r337 a340 k344 (71 : Int32) (101 : Int32) (116 : Int32) (x2 &&& (255 : Int32)) (x3 &&& (255 : Int32)) (x4 &&& (255 : Int32)) h372 O385 S380 A384 (c8_m _) (c8_m _) (c8_m _)) (wk G 22) (wk G 3)) (wk G 20) (wk G 21) (wk G 3) (wk G 22) pd7 (sz hml) all0 sf00 (D at_87) (k_v 90 rfl ?_)
    rintro _ h386 ⟨rfl, rfl⟩ K387
    refine go_stC 91 (i := 1) (x' := (101 : Int32)) (vs' := [(.int 71), (.int 101), (.int 0), (.int 0), (.int 0), (.int 0), (.int 0), (.int 0), (.int 0)]) A374 (Nat.le_trans O0.2.1 (Nat.le_trans K378.1 (Nat.le_of_eq g357))) (by decide) (by decide) rfl (nb rfl) (by decide) rfl (D at_90) rfl (fun h388 W389 A390 => ?_)
    refine go_aload 93 (D at_91) rfl rfl rfl ?_
    refine go_iconst 94 (v := 2) (D at_93) rfl rfl ?_
    refine go_aload 96 (D at_94) rfl rfl rfl ?_
    refine go_aload 98 (D at_96) rfl rfl rfl ?_
    refine go_iconst 99 (v := 2) (D at_98) rfl rfl ?_
    have K391 : Keep h335 h388 [] := (K379.wr W389 (Or.inr (Nat.le_trans K364.1 (Nat.le_of_eq g357))))
    have S392 := (f338.keep K391)
    have A393 := (A384.other W389 (Nat.ne_of_lt (Nat.lt_of_lt_of_le (Nat.lt_of_lt_of_le A343.lt K383.1) (Nat.le_of_eq g357))))
    refine go_old (fun O394 => ?_)
    refine callS0 (cells' := 4) (slots' := 28) (Wd := 2) (argsL := [(.ref r337), (.ref a340), (.int 2)]) (rest := [(.int 2), (.ref a356)]) (pay_of (a0 := a0) (c_at3_2 l G r337 a340 k344 (71 : Int32) (101 : Int32) (116 : Int32) (x2 &&& (255 : Int32)) (x3 &&& (255 : Int32)) (x4 &&& (255 : Int32)) h388 O394 S392 A393 (c8_m _) (c8_m _) (c8_m _)) (wk G 22) (wk G 3)) (wk G 20) (wk G 21) (wk G 3) (wk G 22) pd7 (sz hml) all0 sf00 (D at_99) (k_v 102 rfl ?_)
    rintro _ h395 ⟨rfl, rfl⟩ K396
    refine go_stC 103 (i := 2) (x' := (116 : Int32)) (vs' := [(.int 71), (.int 101), (.int 116), (.int 0), (.int 0), (.int 0), (.int 0), (.int 0), (.int 0)]) A390 (Nat.le_trans O0.2.1 (Nat.le_trans K378.1 (Nat.le_of_eq g357))) (by decide) (by decide) rfl (nb rfl) (by decide) rfl (D at_102) rfl (fun h397 W398 A399 => ?_)
    refine go_aload 105 (D at_103) rfl rfl rfl ?_
    refine go_iconst 106 (v := 3) (D at_105) rfl rfl ?_
    refine go_aload 108 (D at_106) rfl rfl rfl ?_
    refine go_aload 110 (D at_108) rfl rfl rfl ?_
    refine go_iconst 111 (v := 3) (D at_110) rfl rfl ?_
    have K400 : Keep h335 h397 [] := (K391.wr W398 (Or.inr (Nat.le_trans K364.1 (Nat.le_of_eq g357))))
    have S401 := (f338.keep K400)
    have A402 := (A393.other W398 (Nat.ne_of_lt (Nat.lt_of_lt_of_le (Nat.lt_of_lt_of_le A343.lt K383.1) (Nat.le_of_eq g357))))
    refine go_old (fun O403 => ?_)
    refine callS0 (cells' := 4) (slots' := 28) (Wd := 2) (argsL := [(.ref r337), (.ref a340), (.int 3)]) (rest := [(.int 3), (.ref a356)]) (pay_of (a0 := a0) (c_at3_3 l G r337 a340 k344 (71 : Int32) (101 : Int32) (116 : Int32) (x2 &&& (255 : Int32)) (x3 &&& (255 : Int32)) (x4 &&& (255 : Int32)) h397 O403 S401 A402 (c8_m _) (c8_m _) (c8_m _)) (wk G 22) (wk G 3)) (wk G 20) (wk G 21) (wk G 3) (wk G 22) pd7 (sz hml) all0 sf00 (D at_111) (k_v 114 rfl ?_)
    rintro _ h404 ⟨rfl, rfl⟩ K405
    refine go_stC 115 (i := 3) (x' := (x2 &&& (255 : Int32))) (vs' := [(.int 71), (.int 101), (.int 116), (.int (x2 &&& (255 : Int32))), (.int 0), (.int 0), (.int 0), (.int 0), (.int 0)]) A399 (Nat.le_trans O0.2.1 (Nat.le_trans K378.1 (Nat.le_of_eq g357))) (by decide) (by decide) rfl (nb rfl) (i2c_mask _) rfl (D at_114) rfl (fun h406 W407 A408 => ?_)
    refine go_aload 117 (D at_115) rfl rfl rfl ?_
    refine go_iconst 118 (v := 4) (D at_117) rfl rfl ?_
    refine go_aload 120 (D at_118) rfl rfl rfl ?_
    refine go_aload 122 (D at_120) rfl rfl rfl ?_
    refine go_iconst 123 (v := 4) (D at_122) rfl rfl ?_
    have K409 : Keep h335 h406 [] := (K400.wr W407 (Or.inr (Nat.le_trans K364.1 (Nat.le_of_eq g357))))
    have S410 := (f338.keep K409)
    have A411 := (A402.other W407 (Nat.ne_of_lt (Nat.lt_of_lt_of_le (Nat.lt_of_lt_of_le A343.lt K383.1) (Nat.le_of_eq g357))))
    refine go_old (fun O412 => ?_)
    refine callS0 (cells' := 4) (slots' := 28) (Wd := 2) (argsL := [(.ref r337), (.ref a340), (.int 4)]) (rest := [(.int 4), (.ref a356)]) (pay_of (a0 := a0) (c_at3_4 l G r337 a340 k344 (71 : Int32) (101 : Int32) (116 : Int32) (x2 &&& (255 : Int32)) (x3 &&& (255 : Int32)) (x4 &&& (255 : Int32)) h406 O412 S410 A411 (c8_m _) (c8_m _) (c8_m _)) (wk G 22) (wk G 3)) (wk G 20) (wk G 21) (wk G 3) (wk G 22) pd7 (sz hml) all0 sf00 (D at_123) (k_v 126 rfl ?_)
    rintro _ h413 ⟨rfl, rfl⟩ K414
    refine go_stC 127 (i := 4) (x' := (x3 &&& (255 : Int32))) (vs' := [(.int 71), (.int 101), (.int 116), (.int (x2 &&& (255 : Int32))), (.int (x3 &&& (255 : Int32))), (.int 0), (.int 0), (.int 0), (.int 0)]) A408 (Nat.le_trans O0.2.1 (Nat.le_trans K378.1 (Nat.le_of_eq g357))) (by decide) (by decide) rfl (nb rfl) (i2c_mask _) rfl (D at_126) rfl (fun h415 W416 A417 => ?_)
    refine go_aload 129 (D at_127) rfl rfl rfl ?_
    refine go_iconst 130 (v := 5) (D at_129) rfl rfl ?_
    refine go_aload 132 (D at_130) rfl rfl rfl ?_
    refine go_aload 134 (D at_132) rfl rfl rfl ?_
    refine go_iconst 135 (v := 5) (D at_134) rfl rfl ?_
    have K418 : Keep h335 h415 [] := (K409.wr W416 (Or.inr (Nat.le_trans K364.1 (Nat.le_of_eq g357))))
    have S419 := (f338.keep K418)
    have A420 := (A411.other W416 (Nat.ne_of_lt (Nat.lt_of_lt_of_le (Nat.lt_of_lt_of_le A343.lt K383.1) (Nat.le_of_eq g357))))
    refine go_old (fun O421 => ?_)
    refine callS0 (cells' := 4) (slots' := 28) (Wd := 2) (argsL := [(.ref r337), (.ref a340), (.int 5)]) (rest := [(.int 5), (.ref a356)]) (pay_of (a0 := a0) (c_at3_5 l G r337 a340 k344 (71 : Int32) (101 : Int32) (116 : Int32) (x2 &&& (255 : Int32)) (x3 &&& (255 : Int32)) (x4 &&& (255 : Int32)) h415 O421 S419 A420 (c8_m _) (c8_m _) (c8_m _)) (wk G 22) (wk G 3)) (wk G 20) (wk G 21) (wk G 3) (wk G 22) pd7 (sz hml) all0 sf00 (D at_135) (k_v 138 rfl ?_)
    rintro _ h422 ⟨rfl, rfl⟩ K423
    refine go_stC 139 (i := 5) (x' := (x4 &&& (255 : Int32))) (vs' := [(.int 71), (.int 101), (.int 116), (.int (x2 &&& (255 : Int32))), (.int (x3 &&& (255 : Int32))), (.int (x4 &&& (255 : Int32))), (.int 0), (.int 0), (.int 0)]) A417 (Nat.le_trans O0.2.1 (Nat.le_trans K378.1 (Nat.le_of_eq g357))) (by decide) (by decide) rfl (nb rfl) (i2c_mask _) rfl (D at_138) rfl (fun h424 W425 A426 => ?_)
    refine go_aload 141 (D at_139) rfl rfl rfl ?_
    refine go_bipush 143 (v := 6) (D at_141) rfl rfl ?_
    refine go_aload 145 (D at_143) rfl rfl rfl ?_
    refine go_aload 147 (D at_145) rfl rfl rfl ?_
    refine go_bipush 149 (v := 6) (D at_147) rfl rfl ?_
    have K427 : Keep h335 h424 [] := (K418.wr W425 (Or.inr (Nat.le_trans K364.1 (Nat.le_of_eq g357))))
    have S428 := (f338.keep K427)
    have A429 := (A420.other W425 (Nat.ne_of_lt (Nat.lt_of_lt_of_le (Nat.lt_of_lt_of_le A343.lt K383.1) (Nat.le_of_eq g357))))
    refine go_old (fun O430 => ?_)
    refine callS0 (cells' := 4) (slots' := 28) (Wd := 2) (argsL := [(.ref r337), (.ref a340), (.int 6)]) (rest := [(.int 6), (.ref a356)]) (pay_of (a0 := a0) (c_at3_6 l G r337 a340 k344 (71 : Int32) (101 : Int32) (116 : Int32) (x2 &&& (255 : Int32)) (x3 &&& (255 : Int32)) (x4 &&& (255 : Int32)) h424 O430 S428 A429 (c8_m _) (c8_m _) (c8_m _)) (wk G 22) (wk G 3)) (wk G 20) (wk G 21) (wk G 3) (wk G 22) pd7 (sz hml) all0 sf00 (D at_149) (k_v 152 rfl ?_)
    rintro _ h431 ⟨rfl, rfl⟩ K432
    refine go_stC 153 (i := 6) (x' := (120 : Int32)) (vs' := [(.int 71), (.int 101), (.int 116), (.int (x2 &&& (255 : Int32))), (.int (x3 &&& (255 : Int32))), (.int (x4 &&& (255 : Int32))), (.int 120), (.int 0), (.int 0)]) A426 (Nat.le_trans O0.2.1 (Nat.le_trans K378.1 (Nat.le_of_eq g357))) (by decide) (by decide) rfl (nb rfl) (by decide) rfl (D at_152) rfl (fun h433 W434 A435 => ?_)
    refine go_aload 155 (D at_153) rfl rfl rfl ?_
    refine go_bipush 157 (v := 7) (D at_155) rfl rfl ?_
    refine go_aload 159 (D at_157) rfl rfl rfl ?_
    refine go_aload 161 (D at_159) rfl rfl rfl ?_
    refine go_bipush 163 (v := 7) (D at_161) rfl rfl ?_
    have K436 : Keep h335 h433 [] := (K427.wr W434 (Or.inr (Nat.le_trans K364.1 (Nat.le_of_eq g357))))
    have S437 := (f338.keep K436)
    have A438 := (A429.other W434 (Nat.ne_of_lt (Nat.lt_of_lt_of_le (Nat.lt_of_lt_of_le A343.lt K383.1) (Nat.le_of_eq g357))))
    refine go_old (fun O439 => ?_)
    refine callS0 (cells' := 4) (slots' := 28) (Wd := 2) (argsL := [(.ref r337), (.ref a340), (.int 7)]) (rest := [(.int 7), (.ref a356)]) (pay_of (a0 := a0) (c_at3_7 l G r337 a340 k344 (71 : Int32) (101 : Int32) (116 : Int32) (x2 &&& (255 : Int32)) (x3 &&& (255 : Int32)) (x4 &&& (255 : Int32)) h433 O439 S437 A438 (c8_m _) (c8_m _) (c8_m _)) (wk G 22) (wk G 3)) (wk G 20) (wk G 21) (wk G 3) (wk G 22) pd7 (sz hml) all0 sf00 (D at_163) (k_v 166 rfl ?_)
    rintro _ h440 ⟨rfl, rfl⟩ K441
    refine go_stC 167 (i := 7) (x' := (120 : Int32)) (vs' := [(.int 71), (.int 101), (.int 116), (.int (x2 &&& (255 : Int32))), (.int (x3 &&& (255 : Int32))), (.int (x4 &&& (255 : Int32))), (.int 120), (.int 120), (.int 0)]) A435 (Nat.le_trans O0.2.1 (Nat.le_trans K378.1 (Nat.le_of_eq g357))) (by decide) (by decide) rfl (nb rfl) (by decide) rfl (D at_166) rfl (fun h442 W443 A444 => ?_)
    refine go_aload 169 (D at_167) rfl rfl rfl ?_
    refine go_bipush 171 (v := 8) (D at_169) rfl rfl ?_
    refine go_aload 173 (D at_171) rfl rfl rfl ?_
    refine go_aload 175 (D at_173) rfl rfl rfl ?_
    refine go_bipush 177 (v := 8) (D at_175) rfl rfl ?_
    have K445 : Keep h335 h442 [] := (K436.wr W443 (Or.inr (Nat.le_trans K364.1 (Nat.le_of_eq g357))))
    have S446 := (f338.keep K445)
    have A447 := (A438.other W443 (Nat.ne_of_lt (Nat.lt_of_lt_of_le (Nat.lt_of_lt_of_le A343.lt K383.1) (Nat.le_of_eq g357))))
    refine go_old (fun O448 => ?_)
    refine callS0 (cells' := 4) (slots' := 28) (Wd := 2) (argsL := [(.ref r337), (.ref a340), (.int 8)]) (rest := [(.int 8), (.ref a356)]) (pay_of (a0 := a0) (c_at3_8 l G r337 a340 k344 (71 : Int32) (101 : Int32) (116 : Int32) (x2 &&& (255 : Int32)) (x3 &&& (255 : Int32)) (x4 &&& (255 : Int32)) h442 O448 S446 A447 (c8_m _) (c8_m _) (c8_m _)) (wk G 22) (wk G 3)) (wk G 20) (wk G 21) (wk G 3) (wk G 22) pd7 (sz hml) all0 sf00 (D at_177) (k_v 180 rfl ?_)
    rintro _ h449 ⟨rfl, rfl⟩ K450
    refine go_stC 181 (i := 8) (x' := (120 : Int32)) (vs' := [(.int 71), (.int 101), (.int 116), (.int (x2 &&& (255 : Int32))), (.int (x3 &&& (255 : Int32))), (.int (x4 &&& (255 : Int32))), (.int 120), (.int 120), (.int 120)]) A444 (Nat.le_trans O0.2.1 (Nat.le_trans K378.1 (Nat.le_of_eq g357))) (by decide) (by decide) rfl (nb rfl) (by decide) rfl (D at_180) rfl (fun h451 W452 A453 => ?_)
    rcases and4 x1 with q454 | q454 | q454 | q454
    · rw [q454]
      refine go_aload 183 (D at_181) rfl rfl rfl ?_
      refine go_aload 185 (D at_183) rfl rfl rfl ?_
      have K455 : Keep h335 h451 [] := (K445.wr W452 (Or.inr (Nat.le_trans K364.1 (Nat.le_of_eq g357))))
      have S456 := (f338.keep K455)
      refine go_old (fun O457 => ?_)
      have E458 := (f338.exa.keep K455)
      refine callV0 (cells' := 4) (slots' := 28) (Wd := 1) (argsL := []) (rest := [(.ref a356)]) (pay_len G O457 (n := (3 : Int32)) S456 rfl (by decide) (by decide)) E458 (wk G 23) (wk G 24) (wk G 26) (wk G 26) (wk G 25) pd5 (sz hml) all0 sf00 (D at_185) (k_v 188 rfl ?_)
      rintro _ _ ⟨rfl, rfl⟩ -
      refine go_iload 190 (D at_188) rfl rfl ?_
      refine go_iadd 191 (z := (3 : Int32)) (D at_190) rfl (by decide) ?_
      refine callS0 (cells' := 7) (slots' := 38) (Wd := 0) (argsL := [(.ref a356), (.int 3)]) (rest := []) (pay_of (a0 := a0) (c_take9_3 l G a356 k360 (71 : Int32) (101 : Int32) (116 : Int32) (x2 &&& (255 : Int32)) (x3 &&& (255 : Int32)) (x4 &&& (255 : Int32)) (120 : Int32) (120 : Int32) (120 : Int32) h451 O457 A453 (by decide) (by decide) (by decide)) (wk G 60) (wk G 3)) (wk G 58) (wk G 59) (wk G 3) (wk G 60) pd9 (sz hml) all0 sf00 (D at_191) (k_v 194 rfl ?_)
      rintro _ h459 ⟨r461, rfl, f462, f463⟩ K460
      refine go_astore 196 (ls' := #[vi x0, vi x1, vi x2, vi x3, vi x4, vi 1, vi 0, vr (s_GET Z), vr r337, vr a340, vr a356, vr r461, un, un]) (D at_194) rfl rfl rfl ?_
      refine go_aload 198 (D at_196) rfl rfl rfl ?_
      refine go_iload 200 (D at_198) rfl rfl ?_
      have A464 := ((A447.other W452 (Nat.ne_of_lt (Nat.lt_of_lt_of_le (Nat.lt_of_lt_of_le A343.lt K383.1) (Nat.le_of_eq g357)))).keep K460 nin0)
      refine go_old (fun O465 => ?_)
      refine callSW0 rfl (cells' := 13) (slots' := 50) (Wd := 0) (argsL := [(.ref a340), (.int 0)]) (rest := []) (payW_of (a0 := a0) (c_take3_0 l G a340 k344 (x2 &&& (255 : Int32)) (x3 &&& (255 : Int32)) (x4 &&& (255 : Int32)) h459 O465 A464) (wk G 60) (wk G 3) (ew1 G)) (wk G 58) (wk G 59) (wk G 3) (wk G 60) pd9 (sz hml) all0 (D at_200) (k_v 203 rfl ?_)
      rintro _ h466 ⟨r468, rfl, f469, f470⟩ K467
      refine go_astore 205 (ls' := #[vi x0, vi x1, vi x2, vi x3, vi x4, vi 1, vi 0, vr (s_GET Z), vr r337, vr a340, vr a356, vr r461, vr r468, un]) (D at_203) rfl rfl rfl ?_
      refine go_aload 207 (D at_205) rfl rfl rfl ?_
      refine go_aload 209 (D at_207) rfl rfl rfl ?_
      refine go_old (fun O472 => ?_)
      have Z471 := F10.ext O472.2
      have Z473 := S11.ext O472.2
      have K474 : Keep h459 h466 [] := ((Keep.refl h459 []).trans K467 all0)
      have S475 := (f463.keep K474)
      have Z476 := (se_GET G).2.ext O472.2
      refine callVW0 rfl (cells' := 15) (slots' := 54) (Wd := 0) (argsL := [(.ref r461)]) (rest := []) (payW_of (a0 := a0) (c_noun3_3 l G (s_GET Z) r461 (w_GET Z) y7 y8 y9 (71 : Int32) (101 : Int32) (116 : Int32) h466 O472 Z471 Z473 S475) (wk G 86) (wk G 6) (ew1 G)) Z476 (wk G 82) (wk G 83) (wk G 85) (wk G 85) (wk G 84) pd14 (sz hml) all0 (D at_209) (k_v 212 rfl ?_)
      rintro _ h477 ⟨r479, rfl, f480⟩ K478
      refine go_astore 214 (ls' := #[vi x0, vi x1, vi x2, vi x3, vi x4, vi 1, vi 0, vr (s_GET Z), vr r337, vr a340, vr a356, vr r461, vr r468, vr r479]) (D at_212) rfl rfl rfl ?_
      refine go_aload 216 (D at_214) rfl rfl rfl ?_
      refine go_aload 218 (D at_216) rfl rfl rfl ?_
      have K481 : Keep h466 h477 [] := ((Keep.refl h466 []).trans K478 all0)
      have S482 := (f470.keep K481)
      refine go_old (fun O483 => ?_)
      refine callV0 (cells' := 15) (slots' := 54) (Wd := 0) (argsL := [(.ref r468)]) (rest := []) (pay_eq G O483 f480 S482 (by decide) (by decide)) f480.exa (wk G 132) (wk G 133) (wk G 135) (wk G 135) (wk G 134) pd15 (sz hml) all0 sf00 (D at_218) (k_v 221 rfl ?_)
      rintro _ _ (⟨rfl, q484, rfl⟩ | ⟨rfl, q484, rfl⟩) -
      rotate_left 1
      · exact absurd rfl q484
      have K485 : Keep h0 h355 [] := (K378.ext X358)
      have K486 : Keep h0 h372 [] := (K485.wr W373 (Or.inr (Nat.le_trans K378.1 (Nat.le_of_eq g357))))
      have K487 : Keep h0 h388 [] := (K486.wr W389 (Or.inr (Nat.le_trans K378.1 (Nat.le_of_eq g357))))
      have K488 : Keep h0 h397 [] := (K487.wr W398 (Or.inr (Nat.le_trans K378.1 (Nat.le_of_eq g357))))
      have K489 : Keep h0 h406 [] := (K488.wr W407 (Or.inr (Nat.le_trans K378.1 (Nat.le_of_eq g357))))
      have K490 : Keep h0 h415 [] := (K489.wr W416 (Or.inr (Nat.le_trans K378.1 (Nat.le_of_eq g357))))
      have K491 : Keep h0 h424 [] := (K490.wr W425 (Or.inr (Nat.le_trans K378.1 (Nat.le_of_eq g357))))
      have K492 : Keep h0 h433 [] := (K491.wr W434 (Or.inr (Nat.le_trans K378.1 (Nat.le_of_eq g357))))
      have K493 : Keep h0 h442 [] := (K492.wr W443 (Or.inr (Nat.le_trans K378.1 (Nat.le_of_eq g357))))
      have K494 : Keep h0 h451 [] := (K493.wr W452 (Or.inr (Nat.le_trans K378.1 (Nat.le_of_eq g357))))
      have K495 : Keep h0 h459 [] := (K494.trans K460 all0)
      have K496 : Keep h0 h466 [] := (K495.trans K467 all0)
      have K497 : Keep h0 h477 [] := (K496.trans K478 all0)
      refine go_ireturn hret hlk rfl (by simp) (D at_221) (by decide) (by decide) ⟨_, rfl, rfl⟩ K497
    · rw [q454]
      refine go_aload 183 (D at_181) rfl rfl rfl ?_
      refine go_aload 185 (D at_183) rfl rfl rfl ?_
      have K498 : Keep h335 h451 [] := (K445.wr W452 (Or.inr (Nat.le_trans K364.1 (Nat.le_of_eq g357))))
      have S499 := (f338.keep K498)
      refine go_old (fun O500 => ?_)
      have E501 := (f338.exa.keep K498)
      refine callV0 (cells' := 4) (slots' := 28) (Wd := 1) (argsL := []) (rest := [(.ref a356)]) (pay_len G O500 (n := (3 : Int32)) S499 rfl (by decide) (by decide)) E501 (wk G 23) (wk G 24) (wk G 26) (wk G 26) (wk G 25) pd5 (sz hml) all0 sf00 (D at_185) (k_v 188 rfl ?_)
      rintro _ _ ⟨rfl, rfl⟩ -
      refine go_iload 190 (D at_188) rfl rfl ?_
      refine go_iadd 191 (z := (4 : Int32)) (D at_190) rfl (by decide) ?_
      refine callS0 (cells' := 7) (slots' := 40) (Wd := 0) (argsL := [(.ref a356), (.int 4)]) (rest := []) (pay_of (a0 := a0) (c_take9_4 l G a356 k360 (71 : Int32) (101 : Int32) (116 : Int32) (x2 &&& (255 : Int32)) (x3 &&& (255 : Int32)) (x4 &&& (255 : Int32)) (120 : Int32) (120 : Int32) (120 : Int32) h451 O500 A453 (by decide) (by decide) (by decide) (c8_m _)) (wk G 60) (wk G 3)) (wk G 58) (wk G 59) (wk G 3) (wk G 60) pd9 (sz hml) all0 sf00 (D at_191) (k_v 194 rfl ?_)
      rintro _ h502 ⟨r504, rfl, f505, f506⟩ K503
      refine go_astore 196 (ls' := #[vi x0, vi x1, vi x2, vi x3, vi x4, vi 1, vi 1, vr (s_GET Z), vr r337, vr a340, vr a356, vr r504, un, un]) (D at_194) rfl rfl rfl ?_
      refine go_aload 198 (D at_196) rfl rfl rfl ?_
      refine go_iload 200 (D at_198) rfl rfl ?_
      have A507 := ((A447.other W452 (Nat.ne_of_lt (Nat.lt_of_lt_of_le (Nat.lt_of_lt_of_le A343.lt K383.1) (Nat.le_of_eq g357)))).keep K503 nin0)
      refine go_old (fun O508 => ?_)
      refine callS0 (cells' := 10) (slots' := 46) (Wd := 0) (argsL := [(.ref a340), (.int 1)]) (rest := []) (pay_of (a0 := a0) (c_take3_1 l G a340 k344 (x2 &&& (255 : Int32)) (x3 &&& (255 : Int32)) (x4 &&& (255 : Int32)) h502 O508 A507 (c8_m _)) (wk G 60) (wk G 3)) (wk G 58) (wk G 59) (wk G 3) (wk G 60) pd9 (sz hml) all0 sf00 (D at_200) (k_v 203 rfl ?_)
      rintro _ h509 ⟨r511, rfl, f512, f513⟩ K510
      refine go_astore 205 (ls' := #[vi x0, vi x1, vi x2, vi x3, vi x4, vi 1, vi 1, vr (s_GET Z), vr r337, vr a340, vr a356, vr r504, vr r511, un]) (D at_203) rfl rfl rfl ?_
      refine go_aload 207 (D at_205) rfl rfl rfl ?_
      refine go_aload 209 (D at_207) rfl rfl rfl ?_
      refine go_old (fun O515 => ?_)
      have Z514 := F10.ext O515.2
      have Z516 := S11.ext O515.2
      have K517 : Keep h502 h509 [] := ((Keep.refl h502 []).trans K510 all0)
      have S518 := (f506.keep K517)
      have Z519 := (se_GET G).2.ext O515.2
      refine callV0 (cells' := 12) (slots' := 51) (Wd := 0) (argsL := [(.ref r504)]) (rest := []) (pay_of (a0 := a0) (c_noun3_4 l G (s_GET Z) r504 (w_GET Z) y7 y8 y9 (71 : Int32) (101 : Int32) (116 : Int32) (x2 &&& (255 : Int32)) h509 O515 Z514 Z516 S518) (wk G 86) (wk G 6)) Z519 (wk G 82) (wk G 83) (wk G 85) (wk G 85) (wk G 84) pd14 (sz hml) all0 sf00 (D at_209) (k_v 212 rfl ?_)
      rintro _ h520 ⟨r522, rfl, f523⟩ K521
      refine go_astore 214 (ls' := #[vi x0, vi x1, vi x2, vi x3, vi x4, vi 1, vi 1, vr (s_GET Z), vr r337, vr a340, vr a356, vr r504, vr r511, vr r522]) (D at_212) rfl rfl rfl ?_
      refine go_aload 216 (D at_214) rfl rfl rfl ?_
      refine go_aload 218 (D at_216) rfl rfl rfl ?_
      have K524 : Keep h509 h520 [] := ((Keep.refl h509 []).trans K521 all0)
      have S525 := (f513.keep K524)
      refine go_old (fun O526 => ?_)
      refine callV0 (cells' := 12) (slots' := 51) (Wd := 0) (argsL := [(.ref r511)]) (rest := []) (pay_eq G O526 f523 S525 (by decide) (by decide)) f523.exa (wk G 132) (wk G 133) (wk G 135) (wk G 135) (wk G 134) pd15 (sz hml) all0 sf00 (D at_218) (k_v 221 rfl ?_)
      rintro _ _ (⟨rfl, q527, rfl⟩ | ⟨rfl, q527, rfl⟩) -
      rotate_left 1
      · exact absurd rfl q527
      have K528 : Keep h0 h355 [] := (K378.ext X358)
      have K529 : Keep h0 h372 [] := (K528.wr W373 (Or.inr (Nat.le_trans K378.1 (Nat.le_of_eq g357))))
      have K530 : Keep h0 h388 [] := (K529.wr W389 (Or.inr (Nat.le_trans K378.1 (Nat.le_of_eq g357))))
      have K531 : Keep h0 h397 [] := (K530.wr W398 (Or.inr (Nat.le_trans K378.1 (Nat.le_of_eq g357))))
      have K532 : Keep h0 h406 [] := (K531.wr W407 (Or.inr (Nat.le_trans K378.1 (Nat.le_of_eq g357))))
      have K533 : Keep h0 h415 [] := (K532.wr W416 (Or.inr (Nat.le_trans K378.1 (Nat.le_of_eq g357))))
      have K534 : Keep h0 h424 [] := (K533.wr W425 (Or.inr (Nat.le_trans K378.1 (Nat.le_of_eq g357))))
      have K535 : Keep h0 h433 [] := (K534.wr W434 (Or.inr (Nat.le_trans K378.1 (Nat.le_of_eq g357))))
      have K536 : Keep h0 h442 [] := (K535.wr W443 (Or.inr (Nat.le_trans K378.1 (Nat.le_of_eq g357))))
      have K537 : Keep h0 h451 [] := (K536.wr W452 (Or.inr (Nat.le_trans K378.1 (Nat.le_of_eq g357))))
      have K538 : Keep h0 h502 [] := (K537.trans K503 all0)
      have K539 : Keep h0 h509 [] := (K538.trans K510 all0)
      have K540 : Keep h0 h520 [] := (K539.trans K521 all0)
      refine go_ireturn hret hlk rfl (by simp) (D at_221) (by decide) (by decide) ⟨_, rfl, rfl⟩ K540
    · rw [q454]
      refine go_aload 183 (D at_181) rfl rfl rfl ?_
      refine go_aload 185 (D at_183) rfl rfl rfl ?_
      have K541 : Keep h335 h451 [] := (K445.wr W452 (Or.inr (Nat.le_trans K364.1 (Nat.le_of_eq g357))))
      have S542 := (f338.keep K541)
      refine go_old (fun O543 => ?_)
      have E544 := (f338.exa.keep K541)
      refine callV0 (cells' := 4) (slots' := 28) (Wd := 1) (argsL := []) (rest := [(.ref a356)]) (pay_len G O543 (n := (3 : Int32)) S542 rfl (by decide) (by decide)) E544 (wk G 23) (wk G 24) (wk G 26) (wk G 26) (wk G 25) pd5 (sz hml) all0 sf00 (D at_185) (k_v 188 rfl ?_)
      rintro _ _ ⟨rfl, rfl⟩ -
      refine go_iload 190 (D at_188) rfl rfl ?_
      refine go_iadd 191 (z := (5 : Int32)) (D at_190) rfl (by decide) ?_
      refine callS0 (cells' := 7) (slots' := 42) (Wd := 0) (argsL := [(.ref a356), (.int 5)]) (rest := []) (pay_of (a0 := a0) (c_take9_5 l G a356 k360 (71 : Int32) (101 : Int32) (116 : Int32) (x2 &&& (255 : Int32)) (x3 &&& (255 : Int32)) (x4 &&& (255 : Int32)) (120 : Int32) (120 : Int32) (120 : Int32) h451 O543 A453 (by decide) (by decide) (by decide) (c8_m _) (c8_m _)) (wk G 60) (wk G 3)) (wk G 58) (wk G 59) (wk G 3) (wk G 60) pd9 (sz hml) all0 sf00 (D at_191) (k_v 194 rfl ?_)
      rintro _ h545 ⟨r547, rfl, f548, f549⟩ K546
      refine go_astore 196 (ls' := #[vi x0, vi x1, vi x2, vi x3, vi x4, vi 1, vi 2, vr (s_GET Z), vr r337, vr a340, vr a356, vr r547, un, un]) (D at_194) rfl rfl rfl ?_
      refine go_aload 198 (D at_196) rfl rfl rfl ?_
      refine go_iload 200 (D at_198) rfl rfl ?_
      have A550 := ((A447.other W452 (Nat.ne_of_lt (Nat.lt_of_lt_of_le (Nat.lt_of_lt_of_le A343.lt K383.1) (Nat.le_of_eq g357)))).keep K546 nin0)
      refine go_old (fun O551 => ?_)
      refine callS0 (cells' := 10) (slots' := 50) (Wd := 0) (argsL := [(.ref a340), (.int 2)]) (rest := []) (pay_of (a0 := a0) (c_take3_2 l G a340 k344 (x2 &&& (255 : Int32)) (x3 &&& (255 : Int32)) (x4 &&& (255 : Int32)) h545 O551 A550 (c8_m _) (c8_m _)) (wk G 60) (wk G 3)) (wk G 58) (wk G 59) (wk G 3) (wk G 60) pd9 (sz hml) all0 sf00 (D at_200) (k_v 203 rfl ?_)
      rintro _ h552 ⟨r554, rfl, f555, f556⟩ K553
      refine go_astore 205 (ls' := #[vi x0, vi x1, vi x2, vi x3, vi x4, vi 1, vi 2, vr (s_GET Z), vr r337, vr a340, vr a356, vr r547, vr r554, un]) (D at_203) rfl rfl rfl ?_
      refine go_aload 207 (D at_205) rfl rfl rfl ?_
      refine go_aload 209 (D at_207) rfl rfl rfl ?_
      refine go_old (fun O558 => ?_)
      have Z557 := F10.ext O558.2
      have Z559 := S11.ext O558.2
      have K560 : Keep h545 h552 [] := ((Keep.refl h545 []).trans K553 all0)
      have S561 := (f549.keep K560)
      have Z562 := (se_GET G).2.ext O558.2
      refine callV0 (cells' := 12) (slots' := 56) (Wd := 0) (argsL := [(.ref r547)]) (rest := []) (pay_of (a0 := a0) (c_noun3_5 l G (s_GET Z) r547 (w_GET Z) y7 y8 y9 (71 : Int32) (101 : Int32) (116 : Int32) (x2 &&& (255 : Int32)) (x3 &&& (255 : Int32)) h552 O558 Z557 Z559 S561) (wk G 86) (wk G 6)) Z562 (wk G 82) (wk G 83) (wk G 85) (wk G 85) (wk G 84) pd14 (sz hml) all0 sf00 (D at_209) (k_v 212 rfl ?_)
      rintro _ h563 ⟨r565, rfl, f566⟩ K564
      refine go_astore 214 (ls' := #[vi x0, vi x1, vi x2, vi x3, vi x4, vi 1, vi 2, vr (s_GET Z), vr r337, vr a340, vr a356, vr r547, vr r554, vr r565]) (D at_212) rfl rfl rfl ?_
      refine go_aload 216 (D at_214) rfl rfl rfl ?_
      refine go_aload 218 (D at_216) rfl rfl rfl ?_
      have K567 : Keep h552 h563 [] := ((Keep.refl h552 []).trans K564 all0)
      have S568 := (f556.keep K567)
      refine go_old (fun O569 => ?_)
      refine callV0 (cells' := 12) (slots' := 56) (Wd := 0) (argsL := [(.ref r554)]) (rest := []) (pay_eq G O569 f566 S568 (by decide) (by decide)) f566.exa (wk G 132) (wk G 133) (wk G 135) (wk G 135) (wk G 134) pd15 (sz hml) all0 sf00 (D at_218) (k_v 221 rfl ?_)
      rintro _ _ (⟨rfl, q570, rfl⟩ | ⟨rfl, q570, rfl⟩) -
      rotate_left 1
      · exact absurd rfl q570
      have K571 : Keep h0 h355 [] := (K378.ext X358)
      have K572 : Keep h0 h372 [] := (K571.wr W373 (Or.inr (Nat.le_trans K378.1 (Nat.le_of_eq g357))))
      have K573 : Keep h0 h388 [] := (K572.wr W389 (Or.inr (Nat.le_trans K378.1 (Nat.le_of_eq g357))))
      have K574 : Keep h0 h397 [] := (K573.wr W398 (Or.inr (Nat.le_trans K378.1 (Nat.le_of_eq g357))))
      have K575 : Keep h0 h406 [] := (K574.wr W407 (Or.inr (Nat.le_trans K378.1 (Nat.le_of_eq g357))))
      have K576 : Keep h0 h415 [] := (K575.wr W416 (Or.inr (Nat.le_trans K378.1 (Nat.le_of_eq g357))))
      have K577 : Keep h0 h424 [] := (K576.wr W425 (Or.inr (Nat.le_trans K378.1 (Nat.le_of_eq g357))))
      have K578 : Keep h0 h433 [] := (K577.wr W434 (Or.inr (Nat.le_trans K378.1 (Nat.le_of_eq g357))))
      have K579 : Keep h0 h442 [] := (K578.wr W443 (Or.inr (Nat.le_trans K378.1 (Nat.le_of_eq g357))))
      have K580 : Keep h0 h451 [] := (K579.wr W452 (Or.inr (Nat.le_trans K378.1 (Nat.le_of_eq g357))))
      have K581 : Keep h0 h545 [] := (K580.trans K546 all0)
      have K582 : Keep h0 h552 [] := (K581.trans K553 all0)
      have K583 : Keep h0 h563 [] := (K582.trans K564 all0)
      refine go_ireturn hret hlk rfl (by simp) (D at_221) (by decide) (by decide) ⟨_, rfl, rfl⟩ K583
    · rw [q454]
      refine go_aload 183 (D at_181) rfl rfl rfl ?_
      refine go_aload 185 (D at_183) rfl rfl rfl ?_
      have K584 : Keep h335 h451 [] := (K445.wr W452 (Or.inr (Nat.le_trans K364.1 (Nat.le_of_eq g357))))
      have S585 := (f338.keep K584)
      refine go_old (fun O586 => ?_)
      have E587 := (f338.exa.keep K584)
      refine callV0 (cells' := 4) (slots' := 28) (Wd := 1) (argsL := []) (rest := [(.ref a356)]) (pay_len G O586 (n := (3 : Int32)) S585 rfl (by decide) (by decide)) E587 (wk G 23) (wk G 24) (wk G 26) (wk G 26) (wk G 25) pd5 (sz hml) all0 sf00 (D at_185) (k_v 188 rfl ?_)
      rintro _ _ ⟨rfl, rfl⟩ -
      refine go_iload 190 (D at_188) rfl rfl ?_
      refine go_iadd 191 (z := (6 : Int32)) (D at_190) rfl (by decide) ?_
      refine callS0 (cells' := 7) (slots' := 44) (Wd := 0) (argsL := [(.ref a356), (.int 6)]) (rest := []) (pay_of (a0 := a0) (c_take9_6 l G a356 k360 (71 : Int32) (101 : Int32) (116 : Int32) (x2 &&& (255 : Int32)) (x3 &&& (255 : Int32)) (x4 &&& (255 : Int32)) (120 : Int32) (120 : Int32) (120 : Int32) h451 O586 A453 (by decide) (by decide) (by decide) (c8_m _) (c8_m _) (c8_m _)) (wk G 60) (wk G 3)) (wk G 58) (wk G 59) (wk G 3) (wk G 60) pd9 (sz hml) all0 sf00 (D at_191) (k_v 194 rfl ?_)
      rintro _ h588 ⟨r590, rfl, f591, f592⟩ K589
      refine go_astore 196 (ls' := #[vi x0, vi x1, vi x2, vi x3, vi x4, vi 1, vi 3, vr (s_GET Z), vr r337, vr a340, vr a356, vr r590, un, un]) (D at_194) rfl rfl rfl ?_
      refine go_aload 198 (D at_196) rfl rfl rfl ?_
      refine go_iload 200 (D at_198) rfl rfl ?_
      have A593 := ((A447.other W452 (Nat.ne_of_lt (Nat.lt_of_lt_of_le (Nat.lt_of_lt_of_le A343.lt K383.1) (Nat.le_of_eq g357)))).keep K589 nin0)
      refine go_old (fun O594 => ?_)
      refine callS0 (cells' := 10) (slots' := 54) (Wd := 0) (argsL := [(.ref a340), (.int 3)]) (rest := []) (pay_of (a0 := a0) (c_take3_3 l G a340 k344 (x2 &&& (255 : Int32)) (x3 &&& (255 : Int32)) (x4 &&& (255 : Int32)) h588 O594 A593 (c8_m _) (c8_m _) (c8_m _)) (wk G 60) (wk G 3)) (wk G 58) (wk G 59) (wk G 3) (wk G 60) pd9 (sz hml) all0 sf00 (D at_200) (k_v 203 rfl ?_)
      rintro _ h595 ⟨r597, rfl, f598, f599⟩ K596
      refine go_astore 205 (ls' := #[vi x0, vi x1, vi x2, vi x3, vi x4, vi 1, vi 3, vr (s_GET Z), vr r337, vr a340, vr a356, vr r590, vr r597, un]) (D at_203) rfl rfl rfl ?_
      refine go_aload 207 (D at_205) rfl rfl rfl ?_
      refine go_aload 209 (D at_207) rfl rfl rfl ?_
      refine go_old (fun O601 => ?_)
      have Z600 := F10.ext O601.2
      have Z602 := S11.ext O601.2
      have K603 : Keep h588 h595 [] := ((Keep.refl h588 []).trans K596 all0)
      have S604 := (f592.keep K603)
      have Z605 := (se_GET G).2.ext O601.2
      refine callV0 (cells' := 12) (slots' := 61) (Wd := 0) (argsL := [(.ref r590)]) (rest := []) (pay_of (a0 := a0) (c_noun3_6 l G (s_GET Z) r590 (w_GET Z) y7 y8 y9 (71 : Int32) (101 : Int32) (116 : Int32) (x2 &&& (255 : Int32)) (x3 &&& (255 : Int32)) (x4 &&& (255 : Int32)) h595 O601 Z600 Z602 S604) (wk G 86) (wk G 6)) Z605 (wk G 82) (wk G 83) (wk G 85) (wk G 85) (wk G 84) pd14 (sz hml) all0 sf00 (D at_209) (k_v 212 rfl ?_)
      rintro _ h606 ⟨r608, rfl, f609⟩ K607
      refine go_astore 214 (ls' := #[vi x0, vi x1, vi x2, vi x3, vi x4, vi 1, vi 3, vr (s_GET Z), vr r337, vr a340, vr a356, vr r590, vr r597, vr r608]) (D at_212) rfl rfl rfl ?_
      refine go_aload 216 (D at_214) rfl rfl rfl ?_
      refine go_aload 218 (D at_216) rfl rfl rfl ?_
      have K610 : Keep h595 h606 [] := ((Keep.refl h595 []).trans K607 all0)
      have S611 := (f599.keep K610)
      refine go_old (fun O612 => ?_)
      refine callV0 (cells' := 12) (slots' := 61) (Wd := 0) (argsL := [(.ref r597)]) (rest := []) (pay_eq G O612 f609 S611 (by decide) (by decide)) f609.exa (wk G 132) (wk G 133) (wk G 135) (wk G 135) (wk G 134) pd15 (sz hml) all0 sf00 (D at_218) (k_v 221 rfl ?_)
      rintro _ _ (⟨rfl, q613, rfl⟩ | ⟨rfl, q613, rfl⟩) -
      rotate_left 1
      · exact absurd rfl q613
      have K614 : Keep h0 h355 [] := (K378.ext X358)
      have K615 : Keep h0 h372 [] := (K614.wr W373 (Or.inr (Nat.le_trans K378.1 (Nat.le_of_eq g357))))
      have K616 : Keep h0 h388 [] := (K615.wr W389 (Or.inr (Nat.le_trans K378.1 (Nat.le_of_eq g357))))
      have K617 : Keep h0 h397 [] := (K616.wr W398 (Or.inr (Nat.le_trans K378.1 (Nat.le_of_eq g357))))
      have K618 : Keep h0 h406 [] := (K617.wr W407 (Or.inr (Nat.le_trans K378.1 (Nat.le_of_eq g357))))
      have K619 : Keep h0 h415 [] := (K618.wr W416 (Or.inr (Nat.le_trans K378.1 (Nat.le_of_eq g357))))
      have K620 : Keep h0 h424 [] := (K619.wr W425 (Or.inr (Nat.le_trans K378.1 (Nat.le_of_eq g357))))
      have K621 : Keep h0 h433 [] := (K620.wr W434 (Or.inr (Nat.le_trans K378.1 (Nat.le_of_eq g357))))
      have K622 : Keep h0 h442 [] := (K621.wr W443 (Or.inr (Nat.le_trans K378.1 (Nat.le_of_eq g357))))
      have K623 : Keep h0 h451 [] := (K622.wr W452 (Or.inr (Nat.le_trans K378.1 (Nat.le_of_eq g357))))
      have K624 : Keep h0 h588 [] := (K623.trans K589 all0)
      have K625 : Keep h0 h595 [] := (K624.trans K596 all0)
      have K626 : Keep h0 h606 [] := (K625.trans K607 all0)
      refine go_ireturn hret hlk rfl (by simp) (D at_221) (by decide) (by decide) ⟨_, rfl, rfl⟩ K626
  · rw [q38]
    refine go_iload 16 (D at_14) rfl rfl ?_
    refine callS0 (cells' := 0) (slots' := 0) (Wd := 0) (argsL := [(.int 2)]) (rest := []) (pay_of (a0 := a0) (c_kind2 l G  h0 O0 ) (wk G 4) (wk G 3)) (wk G 1) (wk G 2) (wk G 3) (wk G 4) pd3 (sz hml) all0 sf00 (D at_16) (k_v 19 rfl ?_)
    rintro _ h627 ⟨rfl, rfl⟩ K628
    refine go_astore 21 (ls' := #[vi x0, vi x1, vi x2, vi x3, vi x4, vi 2, vi (x1 &&& (3 : Int32)), vr (s_CREATE Z), un, un, un, un, un, un]) (D at_19) rfl rfl rfl ?_
    refine go_iload 23 (D at_21) rfl rfl ?_
    refine callSW0 rfl (cells' := 2) (slots' := 28) (Wd := 0) (argsL := [(.int 2)]) (rest := []) (payW_of (a0 := a0) (c_word2 l G  h0 O0 ) (wk G 10) (wk G 3) (ew1 G)) (wk G 8) (wk G 9) (wk G 3) (wk G 10) pd4 (sz hml) all0 (D at_23) (k_v 26 rfl ?_)
    rintro _ h629 ⟨r631, rfl, f632⟩ K630
    refine go_astore 28 (ls' := #[vi x0, vi x1, vi x2, vi x3, vi x4, vi 2, vi (x1 &&& (3 : Int32)), vr (s_CREATE Z), vr r631, un, un, un, un, un]) (D at_26) rfl rfl rfl ?_
    refine go_iconst 29 (v := 3) (D at_28) rfl rfl ?_
    refine go_newP 31 (cells' := 3) (slots' := 31) (cap := 3) (vs := [(.int 0), (.int 0), (.int 0)]) (ty := .char) (dv := .int 0) (wk G 19) rfl rfl (D at_29) rfl (by decide) rfl (by decide) rfl rfl rfl (by decide) (by decide) (fun h633 a634 k638 g635 X636 A637 => ?_)
    refine go_dup 32 (D at_31) rfl rfl ?_
    refine go_iconst 33 (v := 0) (D at_32) rfl rfl ?_
    refine go_iload_n 34 (D at_33) rfl rfl ?_
    refine go_sipush 37 (v := 255) (D at_34) rfl rfl ?_
    refine go_iand 38 (z := (x2 &&& (255 : Int32))) (D at_37) rfl rfl ?_
    refine go_i2c 39 (z := (x2 &&& (255 : Int32))) (D at_38) rfl (i2c_mask _) ?_
    have K642 : Keep h0 h629 [] := ((Keep.refl h0 []).trans K630 all0)
    refine go_stC 40 (i := 0) (x' := (x2 &&& (255 : Int32))) (vs' := [(.int (x2 &&& (255 : Int32))), (.int 0), (.int 0)]) A637 (Nat.le_trans O0.2.1 (Nat.le_trans K642.1 (Nat.le_of_eq g635))) (by decide) (by decide) rfl (nb rfl) (i2c_mask _) rfl (D at_39) rfl (fun h639 W640 A641 => ?_)
    refine go_dup 41 (D at_40) rfl rfl ?_
    refine go_iconst 42 (v := 1) (D at_41) rfl rfl ?_
    refine go_iload_n 43 (D at_42) rfl rfl ?_
    refine go_sipush 46 (v := 255) (D at_43) rfl rfl ?_
    refine go_iand 47 (z := (x3 &&& (255 : Int32))) (D at_46) rfl rfl ?_
    refine go_i2c 48 (z := (x3 &&& (255 : Int32))) (D at_47) rfl (i2c_mask _) ?_
    refine go_stC 49 (i := 1) (x' := (x3 &&& (255 : Int32))) (vs' := [(.int (x2 &&& (255 : Int32))), (.int (x3 &&& (255 : Int32))), (.int 0)]) A641 (Nat.le_trans O0.2.1 (Nat.le_trans K642.1 (Nat.le_of_eq g635))) (by decide) (by decide) rfl (nb rfl) (i2c_mask _) rfl (D at_48) rfl (fun h643 W644 A645 => ?_)
    refine go_dup 50 (D at_49) rfl rfl ?_
    refine go_iconst 51 (v := 2) (D at_50) rfl rfl ?_
    refine go_iload 53 (D at_51) rfl rfl ?_
    refine go_sipush 56 (v := 255) (D at_53) rfl rfl ?_
    refine go_iand 57 (z := (x4 &&& (255 : Int32))) (D at_56) rfl rfl ?_
    refine go_i2c 58 (z := (x4 &&& (255 : Int32))) (D at_57) rfl (i2c_mask _) ?_
    refine go_stC 59 (i := 2) (x' := (x4 &&& (255 : Int32))) (vs' := [(.int (x2 &&& (255 : Int32))), (.int (x3 &&& (255 : Int32))), (.int (x4 &&& (255 : Int32)))]) A645 (Nat.le_trans O0.2.1 (Nat.le_trans K642.1 (Nat.le_of_eq g635))) (by decide) (by decide) rfl (nb rfl) (i2c_mask _) rfl (D at_58) rfl (fun h646 W647 A648 => ?_)
    refine go_astore 61 (ls' := #[vi x0, vi x1, vi x2, vi x3, vi x4, vi 2, vi (x1 &&& (3 : Int32)), vr (s_CREATE Z), vr r631, vr a634, un, un, un, un]) (D at_59) rfl rfl rfl ?_
    refine go_bipush 63 (v := 9) (D at_61) rfl rfl ?_
    refine go_newP 65 (cells' := 4) (slots' := 40) (cap := 9) (vs := [(.int 0), (.int 0), (.int 0), (.int 0), (.int 0), (.int 0), (.int 0), (.int 0), (.int 0)]) (ty := .char) (dv := .int 0) (wk G 19) rfl rfl (D at_63) rfl (by decide) rfl (by decide) rfl rfl rfl (by decide) (by decide) (fun h649 a650 k654 g651 X652 A653 => ?_)
    refine go_astore 67 (ls' := #[vi x0, vi x1, vi x2, vi x3, vi x4, vi 2, vi (x1 &&& (3 : Int32)), vr (s_CREATE Z), vr r631, vr a634, vr a650, un, un, un]) (D at_65) rfl rfl rfl ?_
    refine go_aload 69 (D at_67) rfl rfl rfl ?_
    refine go_iconst 70 (v := 0) (D at_69) rfl rfl ?_
    refine go_aload 72 (D at_70) rfl rfl rfl ?_
    refine go_aload 74 (D at_72) rfl rfl rfl ?_
    refine go_iconst 75 (v := 0) (D at_74) rfl rfl ?_
    have K655 : Keep h629 h633 [] := ((Keep.refl h629 []).ext X636)
    have K656 : Keep h629 h639 [] := (K655.wr W640 (Or.inr (Nat.le_of_eq g635)))
    have K657 : Keep h629 h643 [] := (K656.wr W644 (Or.inr (Nat.le_of_eq g635)))
    have K658 : Keep h629 h646 [] := (K657.wr W647 (Or.inr (Nat.le_of_eq g635)))
    have K659 : Keep h629 h649 [] := (K658.ext X652)
    have S660 := (f632.keep K659)
    have K661 : Keep h646 h649 [] := ((Keep.refl h646 []).ext X652)
    have A662 := (A648.keep K661 nin0)
    refine go_old (fun O663 => ?_)
    refine callS0 (cells' := 4) (slots' := 40) (Wd := 2) (argsL := [(.ref r631), (.ref a634), (.int 0)]) (rest := [(.int 0), (.ref a650)]) (pay_of (a0 := a0) (c_at6_0 l G r631 a634 k638 (67 : Int32) (114 : Int32) (101 : Int32) (97 : Int32) (116 : Int32) (101 : Int32) (x2 &&& (255 : Int32)) (x3 &&& (255 : Int32)) (x4 &&& (255 : Int32)) h649 O663 S660 A662 (c8_m _) (c8_m _) (c8_m _)) (wk G 22) (wk G 3)) (wk G 20) (wk G 21) (wk G 3) (wk G 22) pd7 (sz hml) all0 sf00 (D at_75) (k_v 78 rfl ?_)
    rintro _ h664 ⟨rfl, rfl⟩ K665
    have K669 : Keep h0 h633 [] := (K642.ext X636)
    have K670 : Keep h0 h639 [] := (K669.wr W640 (Or.inr (Nat.le_trans K642.1 (Nat.le_of_eq g635))))
    have K671 : Keep h0 h643 [] := (K670.wr W644 (Or.inr (Nat.le_trans K642.1 (Nat.le_of_eq g635))))
    have K672 : Keep h0 h646 [] := (K671.wr W647 (Or.inr (Nat.le_trans K642.1 (Nat.le_of_eq g635))))
    refine go_stC 79 (i := 0) (x' := (67 : Int32)) (vs' := [(.int 67), (.int 0), (.int 0), (.int 0), (.int 0), (.int 0), (.int 0), (.int 0), (.int 0)]) A653 (Nat.le_trans O0.2.1 (Nat.le_trans K672.1 (Nat.le_of_eq g651))) (by decide) (by decide) rfl (nb rfl) (by decide) rfl (D at_78) rfl (fun h666 W667 A668 => ?_)
    refine go_aload 81 (D at_79) rfl rfl rfl ?_
    refine go_iconst 82 (v := 1) (D at_81) rfl rfl ?_
    refine go_aload 84 (D at_82) rfl rfl rfl ?_
    refine go_aload 86 (D at_84) rfl rfl rfl ?_
    refine go_iconst 87 (v := 1) (D at_86) rfl rfl ?_
    have K673 : Keep h629 h666 [] := (K659.wr W667 (Or.inr (Nat.le_trans K658.1 (Nat.le_of_eq g651))))
    have S674 := (f632.keep K673)
    have K675 : Keep h633 h639 [a634] := ((Keep.refl h633 [a634]).wr W640 (Or.inl (by simp)))
    have K676 : Keep h633 h643 [a634] := (K675.wr W644 (Or.inl (by simp)))
    have K677 : Keep h633 h646 [a634] := (K676.wr W647 (Or.inl (by simp)))
    have A678 := (A662.other W667 (Nat.ne_of_lt (Nat.lt_of_lt_of_le (Nat.lt_of_lt_of_le A637.lt K677.1) (Nat.le_of_eq g651))))
    refine go_old (fun O679 => ?_)
    refine callS0 (cells' := 4) (slots' := 40) (Wd := 2) (argsL := [(.ref r631), (.ref a634), (.int 1)]) (rest := [(.int 1), (.ref a650)]) (pay_of (a0 := a0) (c_at6_1 l G r631 a634 k638 (67 : Int32) (114 : Int32) (101 : Int32) (97 : Int32) (116 : Int32) (101 : Int32) (x2 &&& (255 : Int32)) (x3 &&& (255 : Int32)) (x4 &&& (255 : Int32)) h666 O679 S674 A678 (c8_m _) (c8_m _) (c8_m _)) (wk G 22) (wk G 3)) (wk G 20) (wk G 21) (wk G 3) (wk G 22) pd7 (sz hml) all0 sf00 (D at_87) (k_v 90 rfl ?_)
    rintro _ h680 ⟨rfl, rfl⟩ K681
    refine go_stC 91 (i := 1) (x' := (114 : Int32)) (vs' := [(.int 67), (.int 114), (.int 0), (.int 0), (.int 0), (.int 0), (.int 0), (.int 0), (.int 0)]) A668 (Nat.le_trans O0.2.1 (Nat.le_trans K672.1 (Nat.le_of_eq g651))) (by decide) (by decide) rfl (nb rfl) (by decide) rfl (D at_90) rfl (fun h682 W683 A684 => ?_)
    refine go_aload 93 (D at_91) rfl rfl rfl ?_
    refine go_iconst 94 (v := 2) (D at_93) rfl rfl ?_
    refine go_aload 96 (D at_94) rfl rfl rfl ?_
    refine go_aload 98 (D at_96) rfl rfl rfl ?_
    refine go_iconst 99 (v := 2) (D at_98) rfl rfl ?_
    have K685 : Keep h629 h682 [] := (K673.wr W683 (Or.inr (Nat.le_trans K658.1 (Nat.le_of_eq g651))))
    have S686 := (f632.keep K685)
    have A687 := (A678.other W683 (Nat.ne_of_lt (Nat.lt_of_lt_of_le (Nat.lt_of_lt_of_le A637.lt K677.1) (Nat.le_of_eq g651))))
    refine go_old (fun O688 => ?_)
    refine callS0 (cells' := 4) (slots' := 40) (Wd := 2) (argsL := [(.ref r631), (.ref a634), (.int 2)]) (rest := [(.int 2), (.ref a650)]) (pay_of (a0 := a0) (c_at6_2 l G r631 a634 k638 (67 : Int32) (114 : Int32) (101 : Int32) (97 : Int32) (116 : Int32) (101 : Int32) (x2 &&& (255 : Int32)) (x3 &&& (255 : Int32)) (x4 &&& (255 : Int32)) h682 O688 S686 A687 (c8_m _) (c8_m _) (c8_m _)) (wk G 22) (wk G 3)) (wk G 20) (wk G 21) (wk G 3) (wk G 22) pd7 (sz hml) all0 sf00 (D at_99) (k_v 102 rfl ?_)
    rintro _ h689 ⟨rfl, rfl⟩ K690
    refine go_stC 103 (i := 2) (x' := (101 : Int32)) (vs' := [(.int 67), (.int 114), (.int 101), (.int 0), (.int 0), (.int 0), (.int 0), (.int 0), (.int 0)]) A684 (Nat.le_trans O0.2.1 (Nat.le_trans K672.1 (Nat.le_of_eq g651))) (by decide) (by decide) rfl (nb rfl) (by decide) rfl (D at_102) rfl (fun h691 W692 A693 => ?_)
    refine go_aload 105 (D at_103) rfl rfl rfl ?_
    refine go_iconst 106 (v := 3) (D at_105) rfl rfl ?_
    refine go_aload 108 (D at_106) rfl rfl rfl ?_
    refine go_aload 110 (D at_108) rfl rfl rfl ?_
    refine go_iconst 111 (v := 3) (D at_110) rfl rfl ?_
    have K694 : Keep h629 h691 [] := (K685.wr W692 (Or.inr (Nat.le_trans K658.1 (Nat.le_of_eq g651))))
    have S695 := (f632.keep K694)
    have A696 := (A687.other W692 (Nat.ne_of_lt (Nat.lt_of_lt_of_le (Nat.lt_of_lt_of_le A637.lt K677.1) (Nat.le_of_eq g651))))
    refine go_old (fun O697 => ?_)
    refine callS0 (cells' := 4) (slots' := 40) (Wd := 2) (argsL := [(.ref r631), (.ref a634), (.int 3)]) (rest := [(.int 3), (.ref a650)]) (pay_of (a0 := a0) (c_at6_3 l G r631 a634 k638 (67 : Int32) (114 : Int32) (101 : Int32) (97 : Int32) (116 : Int32) (101 : Int32) (x2 &&& (255 : Int32)) (x3 &&& (255 : Int32)) (x4 &&& (255 : Int32)) h691 O697 S695 A696 (c8_m _) (c8_m _) (c8_m _)) (wk G 22) (wk G 3)) (wk G 20) (wk G 21) (wk G 3) (wk G 22) pd7 (sz hml) all0 sf00 (D at_111) (k_v 114 rfl ?_)
    rintro _ h698 ⟨rfl, rfl⟩ K699
    refine go_stC 115 (i := 3) (x' := (97 : Int32)) (vs' := [(.int 67), (.int 114), (.int 101), (.int 97), (.int 0), (.int 0), (.int 0), (.int 0), (.int 0)]) A693 (Nat.le_trans O0.2.1 (Nat.le_trans K672.1 (Nat.le_of_eq g651))) (by decide) (by decide) rfl (nb rfl) (by decide) rfl (D at_114) rfl (fun h700 W701 A702 => ?_)
    refine go_aload 117 (D at_115) rfl rfl rfl ?_
    refine go_iconst 118 (v := 4) (D at_117) rfl rfl ?_
    refine go_aload 120 (D at_118) rfl rfl rfl ?_
    refine go_aload 122 (D at_120) rfl rfl rfl ?_
    refine go_iconst 123 (v := 4) (D at_122) rfl rfl ?_
    have K703 : Keep h629 h700 [] := (K694.wr W701 (Or.inr (Nat.le_trans K658.1 (Nat.le_of_eq g651))))
    have S704 := (f632.keep K703)
    have A705 := (A696.other W701 (Nat.ne_of_lt (Nat.lt_of_lt_of_le (Nat.lt_of_lt_of_le A637.lt K677.1) (Nat.le_of_eq g651))))
    refine go_old (fun O706 => ?_)
    refine callS0 (cells' := 4) (slots' := 40) (Wd := 2) (argsL := [(.ref r631), (.ref a634), (.int 4)]) (rest := [(.int 4), (.ref a650)]) (pay_of (a0 := a0) (c_at6_4 l G r631 a634 k638 (67 : Int32) (114 : Int32) (101 : Int32) (97 : Int32) (116 : Int32) (101 : Int32) (x2 &&& (255 : Int32)) (x3 &&& (255 : Int32)) (x4 &&& (255 : Int32)) h700 O706 S704 A705 (c8_m _) (c8_m _) (c8_m _)) (wk G 22) (wk G 3)) (wk G 20) (wk G 21) (wk G 3) (wk G 22) pd7 (sz hml) all0 sf00 (D at_123) (k_v 126 rfl ?_)
    rintro _ h707 ⟨rfl, rfl⟩ K708
    refine go_stC 127 (i := 4) (x' := (116 : Int32)) (vs' := [(.int 67), (.int 114), (.int 101), (.int 97), (.int 116), (.int 0), (.int 0), (.int 0), (.int 0)]) A702 (Nat.le_trans O0.2.1 (Nat.le_trans K672.1 (Nat.le_of_eq g651))) (by decide) (by decide) rfl (nb rfl) (by decide) rfl (D at_126) rfl (fun h709 W710 A711 => ?_)
    refine go_aload 129 (D at_127) rfl rfl rfl ?_
    refine go_iconst 130 (v := 5) (D at_129) rfl rfl ?_
    refine go_aload 132 (D at_130) rfl rfl rfl ?_
    refine go_aload 134 (D at_132) rfl rfl rfl ?_
    refine go_iconst 135 (v := 5) (D at_134) rfl rfl ?_
    have K712 : Keep h629 h709 [] := (K703.wr W710 (Or.inr (Nat.le_trans K658.1 (Nat.le_of_eq g651))))
    have S713 := (f632.keep K712)
    have A714 := (A705.other W710 (Nat.ne_of_lt (Nat.lt_of_lt_of_le (Nat.lt_of_lt_of_le A637.lt K677.1) (Nat.le_of_eq g651))))
    refine go_old (fun O715 => ?_)
    refine callS0 (cells' := 4) (slots' := 40) (Wd := 2) (argsL := [(.ref r631), (.ref a634), (.int 5)]) (rest := [(.int 5), (.ref a650)]) (pay_of (a0 := a0) (c_at6_5 l G r631 a634 k638 (67 : Int32) (114 : Int32) (101 : Int32) (97 : Int32) (116 : Int32) (101 : Int32) (x2 &&& (255 : Int32)) (x3 &&& (255 : Int32)) (x4 &&& (255 : Int32)) h709 O715 S713 A714 (c8_m _) (c8_m _) (c8_m _)) (wk G 22) (wk G 3)) (wk G 20) (wk G 21) (wk G 3) (wk G 22) pd7 (sz hml) all0 sf00 (D at_135) (k_v 138 rfl ?_)
    rintro _ h716 ⟨rfl, rfl⟩ K717
    refine go_stC 139 (i := 5) (x' := (101 : Int32)) (vs' := [(.int 67), (.int 114), (.int 101), (.int 97), (.int 116), (.int 101), (.int 0), (.int 0), (.int 0)]) A711 (Nat.le_trans O0.2.1 (Nat.le_trans K672.1 (Nat.le_of_eq g651))) (by decide) (by decide) rfl (nb rfl) (by decide) rfl (D at_138) rfl (fun h718 W719 A720 => ?_)
    refine go_aload 141 (D at_139) rfl rfl rfl ?_
    refine go_bipush 143 (v := 6) (D at_141) rfl rfl ?_
    refine go_aload 145 (D at_143) rfl rfl rfl ?_
    refine go_aload 147 (D at_145) rfl rfl rfl ?_
    refine go_bipush 149 (v := 6) (D at_147) rfl rfl ?_
    have K721 : Keep h629 h718 [] := (K712.wr W719 (Or.inr (Nat.le_trans K658.1 (Nat.le_of_eq g651))))
    have S722 := (f632.keep K721)
    have A723 := (A714.other W719 (Nat.ne_of_lt (Nat.lt_of_lt_of_le (Nat.lt_of_lt_of_le A637.lt K677.1) (Nat.le_of_eq g651))))
    refine go_old (fun O724 => ?_)
    refine callS0 (cells' := 4) (slots' := 40) (Wd := 2) (argsL := [(.ref r631), (.ref a634), (.int 6)]) (rest := [(.int 6), (.ref a650)]) (pay_of (a0 := a0) (c_at6_6 l G r631 a634 k638 (67 : Int32) (114 : Int32) (101 : Int32) (97 : Int32) (116 : Int32) (101 : Int32) (x2 &&& (255 : Int32)) (x3 &&& (255 : Int32)) (x4 &&& (255 : Int32)) h718 O724 S722 A723 (c8_m _) (c8_m _) (c8_m _)) (wk G 22) (wk G 3)) (wk G 20) (wk G 21) (wk G 3) (wk G 22) pd7 (sz hml) all0 sf00 (D at_149) (k_v 152 rfl ?_)
    rintro _ h725 ⟨rfl, rfl⟩ K726
    refine go_stC 153 (i := 6) (x' := (x2 &&& (255 : Int32))) (vs' := [(.int 67), (.int 114), (.int 101), (.int 97), (.int 116), (.int 101), (.int (x2 &&& (255 : Int32))), (.int 0), (.int 0)]) A720 (Nat.le_trans O0.2.1 (Nat.le_trans K672.1 (Nat.le_of_eq g651))) (by decide) (by decide) rfl (nb rfl) (i2c_mask _) rfl (D at_152) rfl (fun h727 W728 A729 => ?_)
    refine go_aload 155 (D at_153) rfl rfl rfl ?_
    refine go_bipush 157 (v := 7) (D at_155) rfl rfl ?_
    refine go_aload 159 (D at_157) rfl rfl rfl ?_
    refine go_aload 161 (D at_159) rfl rfl rfl ?_
    refine go_bipush 163 (v := 7) (D at_161) rfl rfl ?_
    have K730 : Keep h629 h727 [] := (K721.wr W728 (Or.inr (Nat.le_trans K658.1 (Nat.le_of_eq g651))))
    have S731 := (f632.keep K730)
    have A732 := (A723.other W728 (Nat.ne_of_lt (Nat.lt_of_lt_of_le (Nat.lt_of_lt_of_le A637.lt K677.1) (Nat.le_of_eq g651))))
    refine go_old (fun O733 => ?_)
    refine callS0 (cells' := 4) (slots' := 40) (Wd := 2) (argsL := [(.ref r631), (.ref a634), (.int 7)]) (rest := [(.int 7), (.ref a650)]) (pay_of (a0 := a0) (c_at6_7 l G r631 a634 k638 (67 : Int32) (114 : Int32) (101 : Int32) (97 : Int32) (116 : Int32) (101 : Int32) (x2 &&& (255 : Int32)) (x3 &&& (255 : Int32)) (x4 &&& (255 : Int32)) h727 O733 S731 A732 (c8_m _) (c8_m _) (c8_m _)) (wk G 22) (wk G 3)) (wk G 20) (wk G 21) (wk G 3) (wk G 22) pd7 (sz hml) all0 sf00 (D at_163) (k_v 166 rfl ?_)
    rintro _ h734 ⟨rfl, rfl⟩ K735
    refine go_stC 167 (i := 7) (x' := (x3 &&& (255 : Int32))) (vs' := [(.int 67), (.int 114), (.int 101), (.int 97), (.int 116), (.int 101), (.int (x2 &&& (255 : Int32))), (.int (x3 &&& (255 : Int32))), (.int 0)]) A729 (Nat.le_trans O0.2.1 (Nat.le_trans K672.1 (Nat.le_of_eq g651))) (by decide) (by decide) rfl (nb rfl) (i2c_mask _) rfl (D at_166) rfl (fun h736 W737 A738 => ?_)
    refine go_aload 169 (D at_167) rfl rfl rfl ?_
    refine go_bipush 171 (v := 8) (D at_169) rfl rfl ?_
    refine go_aload 173 (D at_171) rfl rfl rfl ?_
    refine go_aload 175 (D at_173) rfl rfl rfl ?_
    refine go_bipush 177 (v := 8) (D at_175) rfl rfl ?_
    have K739 : Keep h629 h736 [] := (K730.wr W737 (Or.inr (Nat.le_trans K658.1 (Nat.le_of_eq g651))))
    have S740 := (f632.keep K739)
    have A741 := (A732.other W737 (Nat.ne_of_lt (Nat.lt_of_lt_of_le (Nat.lt_of_lt_of_le A637.lt K677.1) (Nat.le_of_eq g651))))
    refine go_old (fun O742 => ?_)
    refine callS0 (cells' := 4) (slots' := 40) (Wd := 2) (argsL := [(.ref r631), (.ref a634), (.int 8)]) (rest := [(.int 8), (.ref a650)]) (pay_of (a0 := a0) (c_at6_8 l G r631 a634 k638 (67 : Int32) (114 : Int32) (101 : Int32) (97 : Int32) (116 : Int32) (101 : Int32) (x2 &&& (255 : Int32)) (x3 &&& (255 : Int32)) (x4 &&& (255 : Int32)) h736 O742 S740 A741 (c8_m _) (c8_m _) (c8_m _)) (wk G 22) (wk G 3)) (wk G 20) (wk G 21) (wk G 3) (wk G 22) pd7 (sz hml) all0 sf00 (D at_177) (k_v 180 rfl ?_)
    rintro _ h743 ⟨rfl, rfl⟩ K744
    refine go_stC 181 (i := 8) (x' := (x4 &&& (255 : Int32))) (vs' := [(.int 67), (.int 114), (.int 101), (.int 97), (.int 116), (.int 101), (.int (x2 &&& (255 : Int32))), (.int (x3 &&& (255 : Int32))), (.int (x4 &&& (255 : Int32)))]) A738 (Nat.le_trans O0.2.1 (Nat.le_trans K672.1 (Nat.le_of_eq g651))) (by decide) (by decide) rfl (nb rfl) (i2c_mask _) rfl (D at_180) rfl (fun h745 W746 A747 => ?_)
    rcases and4 x1 with q748 | q748 | q748 | q748
    · rw [q748]
      refine go_aload 183 (D at_181) rfl rfl rfl ?_
      refine go_aload 185 (D at_183) rfl rfl rfl ?_
      have K749 : Keep h629 h745 [] := (K739.wr W746 (Or.inr (Nat.le_trans K658.1 (Nat.le_of_eq g651))))
      have S750 := (f632.keep K749)
      refine go_old (fun O751 => ?_)
      have E752 := (f632.exa.keep K749)
      refine callV0 (cells' := 4) (slots' := 40) (Wd := 1) (argsL := []) (rest := [(.ref a650)]) (pay_len G O751 (n := (6 : Int32)) S750 rfl (by decide) (by decide)) E752 (wk G 23) (wk G 24) (wk G 26) (wk G 26) (wk G 25) pd5 (sz hml) all0 sf00 (D at_185) (k_v 188 rfl ?_)
      rintro _ _ ⟨rfl, rfl⟩ -
      refine go_iload 190 (D at_188) rfl rfl ?_
      refine go_iadd 191 (z := (6 : Int32)) (D at_190) rfl (by decide) ?_
      refine callS0 (cells' := 7) (slots' := 56) (Wd := 0) (argsL := [(.ref a650), (.int 6)]) (rest := []) (pay_of (a0 := a0) (c_take9_6 l G a650 k654 (67 : Int32) (114 : Int32) (101 : Int32) (97 : Int32) (116 : Int32) (101 : Int32) (x2 &&& (255 : Int32)) (x3 &&& (255 : Int32)) (x4 &&& (255 : Int32)) h745 O751 A747 (by decide) (by decide) (by decide) (by decide) (by decide) (by decide)) (wk G 60) (wk G 3)) (wk G 58) (wk G 59) (wk G 3) (wk G 60) pd9 (sz hml) all0 sf00 (D at_191) (k_v 194 rfl ?_)
      rintro _ h753 ⟨r755, rfl, f756, f757⟩ K754
      refine go_astore 196 (ls' := #[vi x0, vi x1, vi x2, vi x3, vi x4, vi 2, vi 0, vr (s_CREATE Z), vr r631, vr a634, vr a650, vr r755, un, un]) (D at_194) rfl rfl rfl ?_
      refine go_aload 198 (D at_196) rfl rfl rfl ?_
      refine go_iload 200 (D at_198) rfl rfl ?_
      have A758 := ((A741.other W746 (Nat.ne_of_lt (Nat.lt_of_lt_of_le (Nat.lt_of_lt_of_le A637.lt K677.1) (Nat.le_of_eq g651)))).keep K754 nin0)
      refine go_old (fun O759 => ?_)
      refine callSW0 rfl (cells' := 13) (slots' := 68) (Wd := 0) (argsL := [(.ref a634), (.int 0)]) (rest := []) (payW_of (a0 := a0) (c_take3_0 l G a634 k638 (x2 &&& (255 : Int32)) (x3 &&& (255 : Int32)) (x4 &&& (255 : Int32)) h753 O759 A758) (wk G 60) (wk G 3) (ew1 G)) (wk G 58) (wk G 59) (wk G 3) (wk G 60) pd9 (sz hml) all0 (D at_200) (k_v 203 rfl ?_)
      rintro _ h760 ⟨r762, rfl, f763, f764⟩ K761
      refine go_astore 205 (ls' := #[vi x0, vi x1, vi x2, vi x3, vi x4, vi 2, vi 0, vr (s_CREATE Z), vr r631, vr a634, vr a650, vr r755, vr r762, un]) (D at_203) rfl rfl rfl ?_
      refine go_aload 207 (D at_205) rfl rfl rfl ?_
      refine go_aload 209 (D at_207) rfl rfl rfl ?_
      refine go_old (fun O766 => ?_)
      have Z765 := F18.ext O766.2
      have Z767 := S19.ext O766.2
      have K768 : Keep h753 h760 [] := ((Keep.refl h753 []).trans K761 all0)
      have S769 := (f757.keep K768)
      have Z770 := (se_CREATE G).2.ext O766.2
      refine callVW0 rfl (cells' := 15) (slots' := 72) (Wd := 0) (argsL := [(.ref r755)]) (rest := []) (payW_of (a0 := a0) (c_noun6_6 l G (s_CREATE Z) r755 (w_CREATE Z) y12 y13 y14 y15 y16 y17 (67 : Int32) (114 : Int32) (101 : Int32) (97 : Int32) (116 : Int32) (101 : Int32) h760 O766 Z765 Z767 S769) (wk G 86) (wk G 6) (ew1 G)) Z770 (wk G 82) (wk G 83) (wk G 85) (wk G 85) (wk G 84) pd14 (sz hml) all0 (D at_209) (k_v 212 rfl ?_)
      rintro _ h771 ⟨r773, rfl, f774⟩ K772
      refine go_astore 214 (ls' := #[vi x0, vi x1, vi x2, vi x3, vi x4, vi 2, vi 0, vr (s_CREATE Z), vr r631, vr a634, vr a650, vr r755, vr r762, vr r773]) (D at_212) rfl rfl rfl ?_
      refine go_aload 216 (D at_214) rfl rfl rfl ?_
      refine go_aload 218 (D at_216) rfl rfl rfl ?_
      have K775 : Keep h760 h771 [] := ((Keep.refl h760 []).trans K772 all0)
      have S776 := (f764.keep K775)
      refine go_old (fun O777 => ?_)
      refine callV0 (cells' := 15) (slots' := 72) (Wd := 0) (argsL := [(.ref r762)]) (rest := []) (pay_eq G O777 f774 S776 (by decide) (by decide)) f774.exa (wk G 132) (wk G 133) (wk G 135) (wk G 135) (wk G 134) pd15 (sz hml) all0 sf00 (D at_218) (k_v 221 rfl ?_)
      rintro _ _ (⟨rfl, q778, rfl⟩ | ⟨rfl, q778, rfl⟩) -
      rotate_left 1
      · exact absurd rfl q778
      have K779 : Keep h0 h649 [] := (K672.ext X652)
      have K780 : Keep h0 h666 [] := (K779.wr W667 (Or.inr (Nat.le_trans K672.1 (Nat.le_of_eq g651))))
      have K781 : Keep h0 h682 [] := (K780.wr W683 (Or.inr (Nat.le_trans K672.1 (Nat.le_of_eq g651))))
      have K782 : Keep h0 h691 [] := (K781.wr W692 (Or.inr (Nat.le_trans K672.1 (Nat.le_of_eq g651))))
      have K783 : Keep h0 h700 [] := (K782.wr W701 (Or.inr (Nat.le_trans K672.1 (Nat.le_of_eq g651))))
      have K784 : Keep h0 h709 [] := (K783.wr W710 (Or.inr (Nat.le_trans K672.1 (Nat.le_of_eq g651))))
      have K785 : Keep h0 h718 [] := (K784.wr W719 (Or.inr (Nat.le_trans K672.1 (Nat.le_of_eq g651))))
      have K786 : Keep h0 h727 [] := (K785.wr W728 (Or.inr (Nat.le_trans K672.1 (Nat.le_of_eq g651))))
      have K787 : Keep h0 h736 [] := (K786.wr W737 (Or.inr (Nat.le_trans K672.1 (Nat.le_of_eq g651))))
      have K788 : Keep h0 h745 [] := (K787.wr W746 (Or.inr (Nat.le_trans K672.1 (Nat.le_of_eq g651))))
      have K789 : Keep h0 h753 [] := (K788.trans K754 all0)
      have K790 : Keep h0 h760 [] := (K789.trans K761 all0)
      have K791 : Keep h0 h771 [] := (K790.trans K772 all0)
      refine go_ireturn hret hlk rfl (by simp) (D at_221) (by decide) (by decide) ⟨_, rfl, rfl⟩ K791
    · rw [q748]
      refine go_aload 183 (D at_181) rfl rfl rfl ?_
      refine go_aload 185 (D at_183) rfl rfl rfl ?_
      have K792 : Keep h629 h745 [] := (K739.wr W746 (Or.inr (Nat.le_trans K658.1 (Nat.le_of_eq g651))))
      have S793 := (f632.keep K792)
      refine go_old (fun O794 => ?_)
      have E795 := (f632.exa.keep K792)
      refine callV0 (cells' := 4) (slots' := 40) (Wd := 1) (argsL := []) (rest := [(.ref a650)]) (pay_len G O794 (n := (6 : Int32)) S793 rfl (by decide) (by decide)) E795 (wk G 23) (wk G 24) (wk G 26) (wk G 26) (wk G 25) pd5 (sz hml) all0 sf00 (D at_185) (k_v 188 rfl ?_)
      rintro _ _ ⟨rfl, rfl⟩ -
      refine go_iload 190 (D at_188) rfl rfl ?_
      refine go_iadd 191 (z := (7 : Int32)) (D at_190) rfl (by decide) ?_
      refine callS0 (cells' := 7) (slots' := 58) (Wd := 0) (argsL := [(.ref a650), (.int 7)]) (rest := []) (pay_of (a0 := a0) (c_take9_7 l G a650 k654 (67 : Int32) (114 : Int32) (101 : Int32) (97 : Int32) (116 : Int32) (101 : Int32) (x2 &&& (255 : Int32)) (x3 &&& (255 : Int32)) (x4 &&& (255 : Int32)) h745 O794 A747 (by decide) (by decide) (by decide) (by decide) (by decide) (by decide) (c8_m _)) (wk G 60) (wk G 3)) (wk G 58) (wk G 59) (wk G 3) (wk G 60) pd9 (sz hml) all0 sf00 (D at_191) (k_v 194 rfl ?_)
      rintro _ h796 ⟨r798, rfl, f799, f800⟩ K797
      refine go_astore 196 (ls' := #[vi x0, vi x1, vi x2, vi x3, vi x4, vi 2, vi 1, vr (s_CREATE Z), vr r631, vr a634, vr a650, vr r798, un, un]) (D at_194) rfl rfl rfl ?_
      refine go_aload 198 (D at_196) rfl rfl rfl ?_
      refine go_iload 200 (D at_198) rfl rfl ?_
      have A801 := ((A741.other W746 (Nat.ne_of_lt (Nat.lt_of_lt_of_le (Nat.lt_of_lt_of_le A637.lt K677.1) (Nat.le_of_eq g651)))).keep K797 nin0)
      refine go_old (fun O802 => ?_)
      refine callS0 (cells' := 10) (slots' := 64) (Wd := 0) (argsL := [(.ref a634), (.int 1)]) (rest := []) (pay_of (a0 := a0) (c_take3_1 l G a634 k638 (x2 &&& (255 : Int32)) (x3 &&& (255 : Int32)) (x4 &&& (255 : Int32)) h796 O802 A801 (c8_m _)) (wk G 60) (wk G 3)) (wk G 58) (wk G 59) (wk G 3) (wk G 60) pd9 (sz hml) all0 sf00 (D at_200) (k_v 203 rfl ?_)
      rintro _ h803 ⟨r805, rfl, f806, f807⟩ K804
      refine go_astore 205 (ls' := #[vi x0, vi x1, vi x2, vi x3, vi x4, vi 2, vi 1, vr (s_CREATE Z), vr r631, vr a634, vr a650, vr r798, vr r805, un]) (D at_203) rfl rfl rfl ?_
      refine go_aload 207 (D at_205) rfl rfl rfl ?_
      refine go_aload 209 (D at_207) rfl rfl rfl ?_
      refine go_old (fun O809 => ?_)
      have Z808 := F18.ext O809.2
      have Z810 := S19.ext O809.2
      have K811 : Keep h796 h803 [] := ((Keep.refl h796 []).trans K804 all0)
      have S812 := (f800.keep K811)
      have Z813 := (se_CREATE G).2.ext O809.2
      refine callV0 (cells' := 12) (slots' := 69) (Wd := 0) (argsL := [(.ref r798)]) (rest := []) (pay_of (a0 := a0) (c_noun6_7 l G (s_CREATE Z) r798 (w_CREATE Z) y12 y13 y14 y15 y16 y17 (67 : Int32) (114 : Int32) (101 : Int32) (97 : Int32) (116 : Int32) (101 : Int32) (x2 &&& (255 : Int32)) h803 O809 Z808 Z810 S812) (wk G 86) (wk G 6)) Z813 (wk G 82) (wk G 83) (wk G 85) (wk G 85) (wk G 84) pd14 (sz hml) all0 sf00 (D at_209) (k_v 212 rfl ?_)
      rintro _ h814 ⟨r816, rfl, f817⟩ K815
      refine go_astore 214 (ls' := #[vi x0, vi x1, vi x2, vi x3, vi x4, vi 2, vi 1, vr (s_CREATE Z), vr r631, vr a634, vr a650, vr r798, vr r805, vr r816]) (D at_212) rfl rfl rfl ?_
      refine go_aload 216 (D at_214) rfl rfl rfl ?_
      refine go_aload 218 (D at_216) rfl rfl rfl ?_
      have K818 : Keep h803 h814 [] := ((Keep.refl h803 []).trans K815 all0)
      have S819 := (f807.keep K818)
      refine go_old (fun O820 => ?_)
      refine callV0 (cells' := 12) (slots' := 69) (Wd := 0) (argsL := [(.ref r805)]) (rest := []) (pay_eq G O820 f817 S819 (by decide) (by decide)) f817.exa (wk G 132) (wk G 133) (wk G 135) (wk G 135) (wk G 134) pd15 (sz hml) all0 sf00 (D at_218) (k_v 221 rfl ?_)
      rintro _ _ (⟨rfl, q821, rfl⟩ | ⟨rfl, q821, rfl⟩) -
      rotate_left 1
      · exact absurd rfl q821
      have K822 : Keep h0 h649 [] := (K672.ext X652)
      have K823 : Keep h0 h666 [] := (K822.wr W667 (Or.inr (Nat.le_trans K672.1 (Nat.le_of_eq g651))))
      have K824 : Keep h0 h682 [] := (K823.wr W683 (Or.inr (Nat.le_trans K672.1 (Nat.le_of_eq g651))))
      have K825 : Keep h0 h691 [] := (K824.wr W692 (Or.inr (Nat.le_trans K672.1 (Nat.le_of_eq g651))))
      have K826 : Keep h0 h700 [] := (K825.wr W701 (Or.inr (Nat.le_trans K672.1 (Nat.le_of_eq g651))))
      have K827 : Keep h0 h709 [] := (K826.wr W710 (Or.inr (Nat.le_trans K672.1 (Nat.le_of_eq g651))))
      have K828 : Keep h0 h718 [] := (K827.wr W719 (Or.inr (Nat.le_trans K672.1 (Nat.le_of_eq g651))))
      have K829 : Keep h0 h727 [] := (K828.wr W728 (Or.inr (Nat.le_trans K672.1 (Nat.le_of_eq g651))))
      have K830 : Keep h0 h736 [] := (K829.wr W737 (Or.inr (Nat.le_trans K672.1 (Nat.le_of_eq g651))))
      have K831 : Keep h0 h745 [] := (K830.wr W746 (Or.inr (Nat.le_trans K672.1 (Nat.le_of_eq g651))))
      have K832 : Keep h0 h796 [] := (K831.trans K797 all0)
      have K833 : Keep h0 h803 [] := (K832.trans K804 all0)
      have K834 : Keep h0 h814 [] := (K833.trans K815 all0)
      refine go_ireturn hret hlk rfl (by simp) (D at_221) (by decide) (by decide) ⟨_, rfl, rfl⟩ K834
    · rw [q748]
      refine go_aload 183 (D at_181) rfl rfl rfl ?_
      refine go_aload 185 (D at_183) rfl rfl rfl ?_
      have K835 : Keep h629 h745 [] := (K739.wr W746 (Or.inr (Nat.le_trans K658.1 (Nat.le_of_eq g651))))
      have S836 := (f632.keep K835)
      refine go_old (fun O837 => ?_)
      have E838 := (f632.exa.keep K835)
      refine callV0 (cells' := 4) (slots' := 40) (Wd := 1) (argsL := []) (rest := [(.ref a650)]) (pay_len G O837 (n := (6 : Int32)) S836 rfl (by decide) (by decide)) E838 (wk G 23) (wk G 24) (wk G 26) (wk G 26) (wk G 25) pd5 (sz hml) all0 sf00 (D at_185) (k_v 188 rfl ?_)
      rintro _ _ ⟨rfl, rfl⟩ -
      refine go_iload 190 (D at_188) rfl rfl ?_
      refine go_iadd 191 (z := (8 : Int32)) (D at_190) rfl (by decide) ?_
      refine callS0 (cells' := 7) (slots' := 60) (Wd := 0) (argsL := [(.ref a650), (.int 8)]) (rest := []) (pay_of (a0 := a0) (c_take9_8 l G a650 k654 (67 : Int32) (114 : Int32) (101 : Int32) (97 : Int32) (116 : Int32) (101 : Int32) (x2 &&& (255 : Int32)) (x3 &&& (255 : Int32)) (x4 &&& (255 : Int32)) h745 O837 A747 (by decide) (by decide) (by decide) (by decide) (by decide) (by decide) (c8_m _) (c8_m _)) (wk G 60) (wk G 3)) (wk G 58) (wk G 59) (wk G 3) (wk G 60) pd9 (sz hml) all0 sf00 (D at_191) (k_v 194 rfl ?_)
      rintro _ h839 ⟨r841, rfl, f842, f843⟩ K840
      refine go_astore 196 (ls' := #[vi x0, vi x1, vi x2, vi x3, vi x4, vi 2, vi 2, vr (s_CREATE Z), vr r631, vr a634, vr a650, vr r841, un, un]) (D at_194) rfl rfl rfl ?_
      refine go_aload 198 (D at_196) rfl rfl rfl ?_
      refine go_iload 200 (D at_198) rfl rfl ?_
      have A844 := ((A741.other W746 (Nat.ne_of_lt (Nat.lt_of_lt_of_le (Nat.lt_of_lt_of_le A637.lt K677.1) (Nat.le_of_eq g651)))).keep K840 nin0)
      refine go_old (fun O845 => ?_)
      refine callS0 (cells' := 10) (slots' := 68) (Wd := 0) (argsL := [(.ref a634), (.int 2)]) (rest := []) (pay_of (a0 := a0) (c_take3_2 l G a634 k638 (x2 &&& (255 : Int32)) (x3 &&& (255 : Int32)) (x4 &&& (255 : Int32)) h839 O845 A844 (c8_m _) (c8_m _)) (wk G 60) (wk G 3)) (wk G 58) (wk G 59) (wk G 3) (wk G 60) pd9 (sz hml) all0 sf00 (D at_200) (k_v 203 rfl ?_)
      rintro _ h846 ⟨r848, rfl, f849, f850⟩ K847
      refine go_astore 205 (ls' := #[vi x0, vi x1, vi x2, vi x3, vi x4, vi 2, vi 2, vr (s_CREATE Z), vr r631, vr a634, vr a650, vr r841, vr r848, un]) (D at_203) rfl rfl rfl ?_
      refine go_aload 207 (D at_205) rfl rfl rfl ?_
      refine go_aload 209 (D at_207) rfl rfl rfl ?_
      refine go_old (fun O852 => ?_)
      have Z851 := F18.ext O852.2
      have Z853 := S19.ext O852.2
      have K854 : Keep h839 h846 [] := ((Keep.refl h839 []).trans K847 all0)
      have S855 := (f843.keep K854)
      have Z856 := (se_CREATE G).2.ext O852.2
      refine callV0 (cells' := 12) (slots' := 74) (Wd := 0) (argsL := [(.ref r841)]) (rest := []) (pay_of (a0 := a0) (c_noun6_8 l G (s_CREATE Z) r841 (w_CREATE Z) y12 y13 y14 y15 y16 y17 (67 : Int32) (114 : Int32) (101 : Int32) (97 : Int32) (116 : Int32) (101 : Int32) (x2 &&& (255 : Int32)) (x3 &&& (255 : Int32)) h846 O852 Z851 Z853 S855) (wk G 86) (wk G 6)) Z856 (wk G 82) (wk G 83) (wk G 85) (wk G 85) (wk G 84) pd14 (sz hml) all0 sf00 (D at_209) (k_v 212 rfl ?_)
      rintro _ h857 ⟨r859, rfl, f860⟩ K858
      refine go_astore 214 (ls' := #[vi x0, vi x1, vi x2, vi x3, vi x4, vi 2, vi 2, vr (s_CREATE Z), vr r631, vr a634, vr a650, vr r841, vr r848, vr r859]) (D at_212) rfl rfl rfl ?_
      refine go_aload 216 (D at_214) rfl rfl rfl ?_
      refine go_aload 218 (D at_216) rfl rfl rfl ?_
      have K861 : Keep h846 h857 [] := ((Keep.refl h846 []).trans K858 all0)
      have S862 := (f850.keep K861)
      refine go_old (fun O863 => ?_)
      refine callV0 (cells' := 12) (slots' := 74) (Wd := 0) (argsL := [(.ref r848)]) (rest := []) (pay_eq G O863 f860 S862 (by decide) (by decide)) f860.exa (wk G 132) (wk G 133) (wk G 135) (wk G 135) (wk G 134) pd15 (sz hml) all0 sf00 (D at_218) (k_v 221 rfl ?_)
      rintro _ _ (⟨rfl, q864, rfl⟩ | ⟨rfl, q864, rfl⟩) -
      rotate_left 1
      · exact absurd rfl q864
      have K865 : Keep h0 h649 [] := (K672.ext X652)
      have K866 : Keep h0 h666 [] := (K865.wr W667 (Or.inr (Nat.le_trans K672.1 (Nat.le_of_eq g651))))
      have K867 : Keep h0 h682 [] := (K866.wr W683 (Or.inr (Nat.le_trans K672.1 (Nat.le_of_eq g651))))
      have K868 : Keep h0 h691 [] := (K867.wr W692 (Or.inr (Nat.le_trans K672.1 (Nat.le_of_eq g651))))
      have K869 : Keep h0 h700 [] := (K868.wr W701 (Or.inr (Nat.le_trans K672.1 (Nat.le_of_eq g651))))
      have K870 : Keep h0 h709 [] := (K869.wr W710 (Or.inr (Nat.le_trans K672.1 (Nat.le_of_eq g651))))
      have K871 : Keep h0 h718 [] := (K870.wr W719 (Or.inr (Nat.le_trans K672.1 (Nat.le_of_eq g651))))
      have K872 : Keep h0 h727 [] := (K871.wr W728 (Or.inr (Nat.le_trans K672.1 (Nat.le_of_eq g651))))
      have K873 : Keep h0 h736 [] := (K872.wr W737 (Or.inr (Nat.le_trans K672.1 (Nat.le_of_eq g651))))
      have K874 : Keep h0 h745 [] := (K873.wr W746 (Or.inr (Nat.le_trans K672.1 (Nat.le_of_eq g651))))
      have K875 : Keep h0 h839 [] := (K874.trans K840 all0)
      have K876 : Keep h0 h846 [] := (K875.trans K847 all0)
      have K877 : Keep h0 h857 [] := (K876.trans K858 all0)
      refine go_ireturn hret hlk rfl (by simp) (D at_221) (by decide) (by decide) ⟨_, rfl, rfl⟩ K877
    · rw [q748]
      refine go_aload 183 (D at_181) rfl rfl rfl ?_
      refine go_aload 185 (D at_183) rfl rfl rfl ?_
      have K878 : Keep h629 h745 [] := (K739.wr W746 (Or.inr (Nat.le_trans K658.1 (Nat.le_of_eq g651))))
      have S879 := (f632.keep K878)
      refine go_old (fun O880 => ?_)
      have E881 := (f632.exa.keep K878)
      refine callV0 (cells' := 4) (slots' := 40) (Wd := 1) (argsL := []) (rest := [(.ref a650)]) (pay_len G O880 (n := (6 : Int32)) S879 rfl (by decide) (by decide)) E881 (wk G 23) (wk G 24) (wk G 26) (wk G 26) (wk G 25) pd5 (sz hml) all0 sf00 (D at_185) (k_v 188 rfl ?_)
      rintro _ _ ⟨rfl, rfl⟩ -
      refine go_iload 190 (D at_188) rfl rfl ?_
      refine go_iadd 191 (z := (9 : Int32)) (D at_190) rfl (by decide) ?_
      refine callS0 (cells' := 7) (slots' := 62) (Wd := 0) (argsL := [(.ref a650), (.int 9)]) (rest := []) (pay_of (a0 := a0) (c_take9_9 l G a650 k654 (67 : Int32) (114 : Int32) (101 : Int32) (97 : Int32) (116 : Int32) (101 : Int32) (x2 &&& (255 : Int32)) (x3 &&& (255 : Int32)) (x4 &&& (255 : Int32)) h745 O880 A747 (by decide) (by decide) (by decide) (by decide) (by decide) (by decide) (c8_m _) (c8_m _) (c8_m _)) (wk G 60) (wk G 3)) (wk G 58) (wk G 59) (wk G 3) (wk G 60) pd9 (sz hml) all0 sf00 (D at_191) (k_v 194 rfl ?_)
      rintro _ h882 ⟨r884, rfl, f885, f886⟩ K883
      refine go_astore 196 (ls' := #[vi x0, vi x1, vi x2, vi x3, vi x4, vi 2, vi 3, vr (s_CREATE Z), vr r631, vr a634, vr a650, vr r884, un, un]) (D at_194) rfl rfl rfl ?_
      refine go_aload 198 (D at_196) rfl rfl rfl ?_
      refine go_iload 200 (D at_198) rfl rfl ?_
      have A887 := ((A741.other W746 (Nat.ne_of_lt (Nat.lt_of_lt_of_le (Nat.lt_of_lt_of_le A637.lt K677.1) (Nat.le_of_eq g651)))).keep K883 nin0)
      refine go_old (fun O888 => ?_)
      refine callS0 (cells' := 10) (slots' := 72) (Wd := 0) (argsL := [(.ref a634), (.int 3)]) (rest := []) (pay_of (a0 := a0) (c_take3_3 l G a634 k638 (x2 &&& (255 : Int32)) (x3 &&& (255 : Int32)) (x4 &&& (255 : Int32)) h882 O888 A887 (c8_m _) (c8_m _) (c8_m _)) (wk G 60) (wk G 3)) (wk G 58) (wk G 59) (wk G 3) (wk G 60) pd9 (sz hml) all0 sf00 (D at_200) (k_v 203 rfl ?_)
      rintro _ h889 ⟨r891, rfl, f892, f893⟩ K890
      refine go_astore 205 (ls' := #[vi x0, vi x1, vi x2, vi x3, vi x4, vi 2, vi 3, vr (s_CREATE Z), vr r631, vr a634, vr a650, vr r884, vr r891, un]) (D at_203) rfl rfl rfl ?_
      refine go_aload 207 (D at_205) rfl rfl rfl ?_
      refine go_aload 209 (D at_207) rfl rfl rfl ?_
      refine go_old (fun O895 => ?_)
      have Z894 := F18.ext O895.2
      have Z896 := S19.ext O895.2
      have K897 : Keep h882 h889 [] := ((Keep.refl h882 []).trans K890 all0)
      have S898 := (f886.keep K897)
      have Z899 := (se_CREATE G).2.ext O895.2
      refine callV0 (cells' := 12) (slots' := 79) (Wd := 0) (argsL := [(.ref r884)]) (rest := []) (pay_of (a0 := a0) (c_noun6_9 l G (s_CREATE Z) r884 (w_CREATE Z) y12 y13 y14 y15 y16 y17 (67 : Int32) (114 : Int32) (101 : Int32) (97 : Int32) (116 : Int32) (101 : Int32) (x2 &&& (255 : Int32)) (x3 &&& (255 : Int32)) (x4 &&& (255 : Int32)) h889 O895 Z894 Z896 S898) (wk G 86) (wk G 6)) Z899 (wk G 82) (wk G 83) (wk G 85) (wk G 85) (wk G 84) pd14 (sz hml) all0 sf00 (D at_209) (k_v 212 rfl ?_)
      rintro _ h900 ⟨r902, rfl, f903⟩ K901
      refine go_astore 214 (ls' := #[vi x0, vi x1, vi x2, vi x3, vi x4, vi 2, vi 3, vr (s_CREATE Z), vr r631, vr a634, vr a650, vr r884, vr r891, vr r902]) (D at_212) rfl rfl rfl ?_
      refine go_aload 216 (D at_214) rfl rfl rfl ?_
      refine go_aload 218 (D at_216) rfl rfl rfl ?_
      have K904 : Keep h889 h900 [] := ((Keep.refl h889 []).trans K901 all0)
      have S905 := (f893.keep K904)
      refine go_old (fun O906 => ?_)
      refine callV0 (cells' := 12) (slots' := 79) (Wd := 0) (argsL := [(.ref r891)]) (rest := []) (pay_eq G O906 f903 S905 (by decide) (by decide)) f903.exa (wk G 132) (wk G 133) (wk G 135) (wk G 135) (wk G 134) pd15 (sz hml) all0 sf00 (D at_218) (k_v 221 rfl ?_)
      rintro _ _ (⟨rfl, q907, rfl⟩ | ⟨rfl, q907, rfl⟩) -
      rotate_left 1
      · exact absurd rfl q907
      have K908 : Keep h0 h649 [] := (K672.ext X652)
      have K909 : Keep h0 h666 [] := (K908.wr W667 (Or.inr (Nat.le_trans K672.1 (Nat.le_of_eq g651))))
      have K910 : Keep h0 h682 [] := (K909.wr W683 (Or.inr (Nat.le_trans K672.1 (Nat.le_of_eq g651))))
      have K911 : Keep h0 h691 [] := (K910.wr W692 (Or.inr (Nat.le_trans K672.1 (Nat.le_of_eq g651))))
      have K912 : Keep h0 h700 [] := (K911.wr W701 (Or.inr (Nat.le_trans K672.1 (Nat.le_of_eq g651))))
      have K913 : Keep h0 h709 [] := (K912.wr W710 (Or.inr (Nat.le_trans K672.1 (Nat.le_of_eq g651))))
      have K914 : Keep h0 h718 [] := (K913.wr W719 (Or.inr (Nat.le_trans K672.1 (Nat.le_of_eq g651))))
      have K915 : Keep h0 h727 [] := (K914.wr W728 (Or.inr (Nat.le_trans K672.1 (Nat.le_of_eq g651))))
      have K916 : Keep h0 h736 [] := (K915.wr W737 (Or.inr (Nat.le_trans K672.1 (Nat.le_of_eq g651))))
      have K917 : Keep h0 h745 [] := (K916.wr W746 (Or.inr (Nat.le_trans K672.1 (Nat.le_of_eq g651))))
      have K918 : Keep h0 h882 [] := (K917.trans K883 all0)
      have K919 : Keep h0 h889 [] := (K918.trans K890 all0)
      have K920 : Keep h0 h900 [] := (K919.trans K901 all0)
      refine go_ireturn hret hlk rfl (by simp) (D at_221) (by decide) (by decide) ⟨_, rfl, rfl⟩ K920
  · rw [q38]
    refine go_iload 16 (D at_14) rfl rfl ?_
    refine callS0 (cells' := 0) (slots' := 0) (Wd := 0) (argsL := [(.int 3)]) (rest := []) (pay_of (a0 := a0) (c_kind3 l G  h0 O0 ) (wk G 4) (wk G 3)) (wk G 1) (wk G 2) (wk G 3) (wk G 4) pd3 (sz hml) all0 sf00 (D at_16) (k_v 19 rfl ?_)
    rintro _ h921 ⟨rfl, rfl⟩ K922
    refine go_astore 21 (ls' := #[vi x0, vi x1, vi x2, vi x3, vi x4, vi 3, vi (x1 &&& (3 : Int32)), vr (s_UPDATE Z), un, un, un, un, un, un]) (D at_19) rfl rfl rfl ?_
    refine go_iload 23 (D at_21) rfl rfl ?_
    refine callSW0 rfl (cells' := 2) (slots' := 28) (Wd := 0) (argsL := [(.int 3)]) (rest := []) (payW_of (a0 := a0) (c_word3 l G  h0 O0 ) (wk G 10) (wk G 3) (ew1 G)) (wk G 8) (wk G 9) (wk G 3) (wk G 10) pd4 (sz hml) all0 (D at_23) (k_v 26 rfl ?_)
    rintro _ h923 ⟨r925, rfl, f926⟩ K924
    refine go_astore 28 (ls' := #[vi x0, vi x1, vi x2, vi x3, vi x4, vi 3, vi (x1 &&& (3 : Int32)), vr (s_UPDATE Z), vr r925, un, un, un, un, un]) (D at_26) rfl rfl rfl ?_
    refine go_iconst 29 (v := 3) (D at_28) rfl rfl ?_
    refine go_newP 31 (cells' := 3) (slots' := 31) (cap := 3) (vs := [(.int 0), (.int 0), (.int 0)]) (ty := .char) (dv := .int 0) (wk G 19) rfl rfl (D at_29) rfl (by decide) rfl (by decide) rfl rfl rfl (by decide) (by decide) (fun h927 a928 k932 g929 X930 A931 => ?_)
    refine go_dup 32 (D at_31) rfl rfl ?_
    refine go_iconst 33 (v := 0) (D at_32) rfl rfl ?_
    refine go_iload_n 34 (D at_33) rfl rfl ?_
    refine go_sipush 37 (v := 255) (D at_34) rfl rfl ?_
    refine go_iand 38 (z := (x2 &&& (255 : Int32))) (D at_37) rfl rfl ?_
    refine go_i2c 39 (z := (x2 &&& (255 : Int32))) (D at_38) rfl (i2c_mask _) ?_
    have K936 : Keep h0 h923 [] := ((Keep.refl h0 []).trans K924 all0)
    refine go_stC 40 (i := 0) (x' := (x2 &&& (255 : Int32))) (vs' := [(.int (x2 &&& (255 : Int32))), (.int 0), (.int 0)]) A931 (Nat.le_trans O0.2.1 (Nat.le_trans K936.1 (Nat.le_of_eq g929))) (by decide) (by decide) rfl (nb rfl) (i2c_mask _) rfl (D at_39) rfl (fun h933 W934 A935 => ?_)
    refine go_dup 41 (D at_40) rfl rfl ?_
    refine go_iconst 42 (v := 1) (D at_41) rfl rfl ?_
    refine go_iload_n 43 (D at_42) rfl rfl ?_
    refine go_sipush 46 (v := 255) (D at_43) rfl rfl ?_
    refine go_iand 47 (z := (x3 &&& (255 : Int32))) (D at_46) rfl rfl ?_
    refine go_i2c 48 (z := (x3 &&& (255 : Int32))) (D at_47) rfl (i2c_mask _) ?_
    refine go_stC 49 (i := 1) (x' := (x3 &&& (255 : Int32))) (vs' := [(.int (x2 &&& (255 : Int32))), (.int (x3 &&& (255 : Int32))), (.int 0)]) A935 (Nat.le_trans O0.2.1 (Nat.le_trans K936.1 (Nat.le_of_eq g929))) (by decide) (by decide) rfl (nb rfl) (i2c_mask _) rfl (D at_48) rfl (fun h937 W938 A939 => ?_)
    refine go_dup 50 (D at_49) rfl rfl ?_
    refine go_iconst 51 (v := 2) (D at_50) rfl rfl ?_
    refine go_iload 53 (D at_51) rfl rfl ?_
    refine go_sipush 56 (v := 255) (D at_53) rfl rfl ?_
    refine go_iand 57 (z := (x4 &&& (255 : Int32))) (D at_56) rfl rfl ?_
    refine go_i2c 58 (z := (x4 &&& (255 : Int32))) (D at_57) rfl (i2c_mask _) ?_
    refine go_stC 59 (i := 2) (x' := (x4 &&& (255 : Int32))) (vs' := [(.int (x2 &&& (255 : Int32))), (.int (x3 &&& (255 : Int32))), (.int (x4 &&& (255 : Int32)))]) A939 (Nat.le_trans O0.2.1 (Nat.le_trans K936.1 (Nat.le_of_eq g929))) (by decide) (by decide) rfl (nb rfl) (i2c_mask _) rfl (D at_58) rfl (fun h940 W941 A942 => ?_)
    refine go_astore 61 (ls' := #[vi x0, vi x1, vi x2, vi x3, vi x4, vi 3, vi (x1 &&& (3 : Int32)), vr (s_UPDATE Z), vr r925, vr a928, un, un, un, un]) (D at_59) rfl rfl rfl ?_
    refine go_bipush 63 (v := 9) (D at_61) rfl rfl ?_
    refine go_newP 65 (cells' := 4) (slots' := 40) (cap := 9) (vs := [(.int 0), (.int 0), (.int 0), (.int 0), (.int 0), (.int 0), (.int 0), (.int 0), (.int 0)]) (ty := .char) (dv := .int 0) (wk G 19) rfl rfl (D at_63) rfl (by decide) rfl (by decide) rfl rfl rfl (by decide) (by decide) (fun h943 a944 k948 g945 X946 A947 => ?_)
    refine go_astore 67 (ls' := #[vi x0, vi x1, vi x2, vi x3, vi x4, vi 3, vi (x1 &&& (3 : Int32)), vr (s_UPDATE Z), vr r925, vr a928, vr a944, un, un, un]) (D at_65) rfl rfl rfl ?_
    refine go_aload 69 (D at_67) rfl rfl rfl ?_
    refine go_iconst 70 (v := 0) (D at_69) rfl rfl ?_
    refine go_aload 72 (D at_70) rfl rfl rfl ?_
    refine go_aload 74 (D at_72) rfl rfl rfl ?_
    refine go_iconst 75 (v := 0) (D at_74) rfl rfl ?_
    have K949 : Keep h923 h927 [] := ((Keep.refl h923 []).ext X930)
    have K950 : Keep h923 h933 [] := (K949.wr W934 (Or.inr (Nat.le_of_eq g929)))
    have K951 : Keep h923 h937 [] := (K950.wr W938 (Or.inr (Nat.le_of_eq g929)))
    have K952 : Keep h923 h940 [] := (K951.wr W941 (Or.inr (Nat.le_of_eq g929)))
    have K953 : Keep h923 h943 [] := (K952.ext X946)
    have S954 := (f926.keep K953)
    have K955 : Keep h940 h943 [] := ((Keep.refl h940 []).ext X946)
    have A956 := (A942.keep K955 nin0)
    refine go_old (fun O957 => ?_)
    refine callS0 (cells' := 4) (slots' := 40) (Wd := 2) (argsL := [(.ref r925), (.ref a928), (.int 0)]) (rest := [(.int 0), (.ref a944)]) (pay_of (a0 := a0) (c_at6_0 l G r925 a928 k932 (85 : Int32) (112 : Int32) (100 : Int32) (97 : Int32) (116 : Int32) (101 : Int32) (x2 &&& (255 : Int32)) (x3 &&& (255 : Int32)) (x4 &&& (255 : Int32)) h943 O957 S954 A956 (c8_m _) (c8_m _) (c8_m _)) (wk G 22) (wk G 3)) (wk G 20) (wk G 21) (wk G 3) (wk G 22) pd7 (sz hml) all0 sf00 (D at_75) (k_v 78 rfl ?_)
    rintro _ h958 ⟨rfl, rfl⟩ K959
    have K963 : Keep h0 h927 [] := (K936.ext X930)
    have K964 : Keep h0 h933 [] := (K963.wr W934 (Or.inr (Nat.le_trans K936.1 (Nat.le_of_eq g929))))
    have K965 : Keep h0 h937 [] := (K964.wr W938 (Or.inr (Nat.le_trans K936.1 (Nat.le_of_eq g929))))
    have K966 : Keep h0 h940 [] := (K965.wr W941 (Or.inr (Nat.le_trans K936.1 (Nat.le_of_eq g929))))
    refine go_stC 79 (i := 0) (x' := (85 : Int32)) (vs' := [(.int 85), (.int 0), (.int 0), (.int 0), (.int 0), (.int 0), (.int 0), (.int 0), (.int 0)]) A947 (Nat.le_trans O0.2.1 (Nat.le_trans K966.1 (Nat.le_of_eq g945))) (by decide) (by decide) rfl (nb rfl) (by decide) rfl (D at_78) rfl (fun h960 W961 A962 => ?_)
    refine go_aload 81 (D at_79) rfl rfl rfl ?_
    refine go_iconst 82 (v := 1) (D at_81) rfl rfl ?_
    refine go_aload 84 (D at_82) rfl rfl rfl ?_
    refine go_aload 86 (D at_84) rfl rfl rfl ?_
    refine go_iconst 87 (v := 1) (D at_86) rfl rfl ?_
    have K967 : Keep h923 h960 [] := (K953.wr W961 (Or.inr (Nat.le_trans K952.1 (Nat.le_of_eq g945))))
    have S968 := (f926.keep K967)
    have K969 : Keep h927 h933 [a928] := ((Keep.refl h927 [a928]).wr W934 (Or.inl (by simp)))
    have K970 : Keep h927 h937 [a928] := (K969.wr W938 (Or.inl (by simp)))
    have K971 : Keep h927 h940 [a928] := (K970.wr W941 (Or.inl (by simp)))
    have A972 := (A956.other W961 (Nat.ne_of_lt (Nat.lt_of_lt_of_le (Nat.lt_of_lt_of_le A931.lt K971.1) (Nat.le_of_eq g945))))
    refine go_old (fun O973 => ?_)
    refine callS0 (cells' := 4) (slots' := 40) (Wd := 2) (argsL := [(.ref r925), (.ref a928), (.int 1)]) (rest := [(.int 1), (.ref a944)]) (pay_of (a0 := a0) (c_at6_1 l G r925 a928 k932 (85 : Int32) (112 : Int32) (100 : Int32) (97 : Int32) (116 : Int32) (101 : Int32) (x2 &&& (255 : Int32)) (x3 &&& (255 : Int32)) (x4 &&& (255 : Int32)) h960 O973 S968 A972 (c8_m _) (c8_m _) (c8_m _)) (wk G 22) (wk G 3)) (wk G 20) (wk G 21) (wk G 3) (wk G 22) pd7 (sz hml) all0 sf00 (D at_87) (k_v 90 rfl ?_)
    rintro _ h974 ⟨rfl, rfl⟩ K975
    refine go_stC 91 (i := 1) (x' := (112 : Int32)) (vs' := [(.int 85), (.int 112), (.int 0), (.int 0), (.int 0), (.int 0), (.int 0), (.int 0), (.int 0)]) A962 (Nat.le_trans O0.2.1 (Nat.le_trans K966.1 (Nat.le_of_eq g945))) (by decide) (by decide) rfl (nb rfl) (by decide) rfl (D at_90) rfl (fun h976 W977 A978 => ?_)
    refine go_aload 93 (D at_91) rfl rfl rfl ?_
    refine go_iconst 94 (v := 2) (D at_93) rfl rfl ?_
    refine go_aload 96 (D at_94) rfl rfl rfl ?_
    refine go_aload 98 (D at_96) rfl rfl rfl ?_
    refine go_iconst 99 (v := 2) (D at_98) rfl rfl ?_
    have K979 : Keep h923 h976 [] := (K967.wr W977 (Or.inr (Nat.le_trans K952.1 (Nat.le_of_eq g945))))
    have S980 := (f926.keep K979)
    have A981 := (A972.other W977 (Nat.ne_of_lt (Nat.lt_of_lt_of_le (Nat.lt_of_lt_of_le A931.lt K971.1) (Nat.le_of_eq g945))))
    refine go_old (fun O982 => ?_)
    refine callS0 (cells' := 4) (slots' := 40) (Wd := 2) (argsL := [(.ref r925), (.ref a928), (.int 2)]) (rest := [(.int 2), (.ref a944)]) (pay_of (a0 := a0) (c_at6_2 l G r925 a928 k932 (85 : Int32) (112 : Int32) (100 : Int32) (97 : Int32) (116 : Int32) (101 : Int32) (x2 &&& (255 : Int32)) (x3 &&& (255 : Int32)) (x4 &&& (255 : Int32)) h976 O982 S980 A981 (c8_m _) (c8_m _) (c8_m _)) (wk G 22) (wk G 3)) (wk G 20) (wk G 21) (wk G 3) (wk G 22) pd7 (sz hml) all0 sf00 (D at_99) (k_v 102 rfl ?_)
    rintro _ h983 ⟨rfl, rfl⟩ K984
    refine go_stC 103 (i := 2) (x' := (100 : Int32)) (vs' := [(.int 85), (.int 112), (.int 100), (.int 0), (.int 0), (.int 0), (.int 0), (.int 0), (.int 0)]) A978 (Nat.le_trans O0.2.1 (Nat.le_trans K966.1 (Nat.le_of_eq g945))) (by decide) (by decide) rfl (nb rfl) (by decide) rfl (D at_102) rfl (fun h985 W986 A987 => ?_)
    refine go_aload 105 (D at_103) rfl rfl rfl ?_
    refine go_iconst 106 (v := 3) (D at_105) rfl rfl ?_
    refine go_aload 108 (D at_106) rfl rfl rfl ?_
    refine go_aload 110 (D at_108) rfl rfl rfl ?_
    refine go_iconst 111 (v := 3) (D at_110) rfl rfl ?_
    have K988 : Keep h923 h985 [] := (K979.wr W986 (Or.inr (Nat.le_trans K952.1 (Nat.le_of_eq g945))))
    have S989 := (f926.keep K988)
    have A990 := (A981.other W986 (Nat.ne_of_lt (Nat.lt_of_lt_of_le (Nat.lt_of_lt_of_le A931.lt K971.1) (Nat.le_of_eq g945))))
    refine go_old (fun O991 => ?_)
    refine callS0 (cells' := 4) (slots' := 40) (Wd := 2) (argsL := [(.ref r925), (.ref a928), (.int 3)]) (rest := [(.int 3), (.ref a944)]) (pay_of (a0 := a0) (c_at6_3 l G r925 a928 k932 (85 : Int32) (112 : Int32) (100 : Int32) (97 : Int32) (116 : Int32) (101 : Int32) (x2 &&& (255 : Int32)) (x3 &&& (255 : Int32)) (x4 &&& (255 : Int32)) h985 O991 S989 A990 (c8_m _) (c8_m _) (c8_m _)) (wk G 22) (wk G 3)) (wk G 20) (wk G 21) (wk G 3) (wk G 22) pd7 (sz hml) all0 sf00 (D at_111) (k_v 114 rfl ?_)
    rintro _ h992 ⟨rfl, rfl⟩ K993
    refine go_stC 115 (i := 3) (x' := (97 : Int32)) (vs' := [(.int 85), (.int 112), (.int 100), (.int 97), (.int 0), (.int 0), (.int 0), (.int 0), (.int 0)]) A987 (Nat.le_trans O0.2.1 (Nat.le_trans K966.1 (Nat.le_of_eq g945))) (by decide) (by decide) rfl (nb rfl) (by decide) rfl (D at_114) rfl (fun h994 W995 A996 => ?_)
    refine go_aload 117 (D at_115) rfl rfl rfl ?_
    refine go_iconst 118 (v := 4) (D at_117) rfl rfl ?_
    refine go_aload 120 (D at_118) rfl rfl rfl ?_
    refine go_aload 122 (D at_120) rfl rfl rfl ?_
    refine go_iconst 123 (v := 4) (D at_122) rfl rfl ?_
    have K997 : Keep h923 h994 [] := (K988.wr W995 (Or.inr (Nat.le_trans K952.1 (Nat.le_of_eq g945))))
    have S998 := (f926.keep K997)
    have A999 := (A990.other W995 (Nat.ne_of_lt (Nat.lt_of_lt_of_le (Nat.lt_of_lt_of_le A931.lt K971.1) (Nat.le_of_eq g945))))
    refine go_old (fun O1000 => ?_)
    refine callS0 (cells' := 4) (slots' := 40) (Wd := 2) (argsL := [(.ref r925), (.ref a928), (.int 4)]) (rest := [(.int 4), (.ref a944)]) (pay_of (a0 := a0) (c_at6_4 l G r925 a928 k932 (85 : Int32) (112 : Int32) (100 : Int32) (97 : Int32) (116 : Int32) (101 : Int32) (x2 &&& (255 : Int32)) (x3 &&& (255 : Int32)) (x4 &&& (255 : Int32)) h994 O1000 S998 A999 (c8_m _) (c8_m _) (c8_m _)) (wk G 22) (wk G 3)) (wk G 20) (wk G 21) (wk G 3) (wk G 22) pd7 (sz hml) all0 sf00 (D at_123) (k_v 126 rfl ?_)
    rintro _ h1001 ⟨rfl, rfl⟩ K1002
    refine go_stC 127 (i := 4) (x' := (116 : Int32)) (vs' := [(.int 85), (.int 112), (.int 100), (.int 97), (.int 116), (.int 0), (.int 0), (.int 0), (.int 0)]) A996 (Nat.le_trans O0.2.1 (Nat.le_trans K966.1 (Nat.le_of_eq g945))) (by decide) (by decide) rfl (nb rfl) (by decide) rfl (D at_126) rfl (fun h1003 W1004 A1005 => ?_)
    refine go_aload 129 (D at_127) rfl rfl rfl ?_
    refine go_iconst 130 (v := 5) (D at_129) rfl rfl ?_
    refine go_aload 132 (D at_130) rfl rfl rfl ?_
    refine go_aload 134 (D at_132) rfl rfl rfl ?_
    refine go_iconst 135 (v := 5) (D at_134) rfl rfl ?_
    have K1006 : Keep h923 h1003 [] := (K997.wr W1004 (Or.inr (Nat.le_trans K952.1 (Nat.le_of_eq g945))))
    have S1007 := (f926.keep K1006)
    have A1008 := (A999.other W1004 (Nat.ne_of_lt (Nat.lt_of_lt_of_le (Nat.lt_of_lt_of_le A931.lt K971.1) (Nat.le_of_eq g945))))
    refine go_old (fun O1009 => ?_)
    refine callS0 (cells' := 4) (slots' := 40) (Wd := 2) (argsL := [(.ref r925), (.ref a928), (.int 5)]) (rest := [(.int 5), (.ref a944)]) (pay_of (a0 := a0) (c_at6_5 l G r925 a928 k932 (85 : Int32) (112 : Int32) (100 : Int32) (97 : Int32) (116 : Int32) (101 : Int32) (x2 &&& (255 : Int32)) (x3 &&& (255 : Int32)) (x4 &&& (255 : Int32)) h1003 O1009 S1007 A1008 (c8_m _) (c8_m _) (c8_m _)) (wk G 22) (wk G 3)) (wk G 20) (wk G 21) (wk G 3) (wk G 22) pd7 (sz hml) all0 sf00 (D at_135) (k_v 138 rfl ?_)
    rintro _ h1010 ⟨rfl, rfl⟩ K1011
    refine go_stC 139 (i := 5) (x' := (101 : Int32)) (vs' := [(.int 85), (.int 112), (.int 100), (.int 97), (.int 116), (.int 101), (.int 0), (.int 0), (.int 0)]) A1005 (Nat.le_trans O0.2.1 (Nat.le_trans K966.1 (Nat.le_of_eq g945))) (by decide) (by decide) rfl (nb rfl) (by decide) rfl (D at_138) rfl (fun h1012 W1013 A1014 => ?_)
    refine go_aload 141 (D at_139) rfl rfl rfl ?_
    refine go_bipush 143 (v := 6) (D at_141) rfl rfl ?_
    refine go_aload 145 (D at_143) rfl rfl rfl ?_
    refine go_aload 147 (D at_145) rfl rfl rfl ?_
    refine go_bipush 149 (v := 6) (D at_147) rfl rfl ?_
    have K1015 : Keep h923 h1012 [] := (K1006.wr W1013 (Or.inr (Nat.le_trans K952.1 (Nat.le_of_eq g945))))
    have S1016 := (f926.keep K1015)
    have A1017 := (A1008.other W1013 (Nat.ne_of_lt (Nat.lt_of_lt_of_le (Nat.lt_of_lt_of_le A931.lt K971.1) (Nat.le_of_eq g945))))
    refine go_old (fun O1018 => ?_)
    refine callS0 (cells' := 4) (slots' := 40) (Wd := 2) (argsL := [(.ref r925), (.ref a928), (.int 6)]) (rest := [(.int 6), (.ref a944)]) (pay_of (a0 := a0) (c_at6_6 l G r925 a928 k932 (85 : Int32) (112 : Int32) (100 : Int32) (97 : Int32) (116 : Int32) (101 : Int32) (x2 &&& (255 : Int32)) (x3 &&& (255 : Int32)) (x4 &&& (255 : Int32)) h1012 O1018 S1016 A1017 (c8_m _) (c8_m _) (c8_m _)) (wk G 22) (wk G 3)) (wk G 20) (wk G 21) (wk G 3) (wk G 22) pd7 (sz hml) all0 sf00 (D at_149) (k_v 152 rfl ?_)
    rintro _ h1019 ⟨rfl, rfl⟩ K1020
    refine go_stC 153 (i := 6) (x' := (x2 &&& (255 : Int32))) (vs' := [(.int 85), (.int 112), (.int 100), (.int 97), (.int 116), (.int 101), (.int (x2 &&& (255 : Int32))), (.int 0), (.int 0)]) A1014 (Nat.le_trans O0.2.1 (Nat.le_trans K966.1 (Nat.le_of_eq g945))) (by decide) (by decide) rfl (nb rfl) (i2c_mask _) rfl (D at_152) rfl (fun h1021 W1022 A1023 => ?_)
    refine go_aload 155 (D at_153) rfl rfl rfl ?_
    refine go_bipush 157 (v := 7) (D at_155) rfl rfl ?_
    refine go_aload 159 (D at_157) rfl rfl rfl ?_
    refine go_aload 161 (D at_159) rfl rfl rfl ?_
    refine go_bipush 163 (v := 7) (D at_161) rfl rfl ?_
    have K1024 : Keep h923 h1021 [] := (K1015.wr W1022 (Or.inr (Nat.le_trans K952.1 (Nat.le_of_eq g945))))
    have S1025 := (f926.keep K1024)
    have A1026 := (A1017.other W1022 (Nat.ne_of_lt (Nat.lt_of_lt_of_le (Nat.lt_of_lt_of_le A931.lt K971.1) (Nat.le_of_eq g945))))
    refine go_old (fun O1027 => ?_)
    refine callS0 (cells' := 4) (slots' := 40) (Wd := 2) (argsL := [(.ref r925), (.ref a928), (.int 7)]) (rest := [(.int 7), (.ref a944)]) (pay_of (a0 := a0) (c_at6_7 l G r925 a928 k932 (85 : Int32) (112 : Int32) (100 : Int32) (97 : Int32) (116 : Int32) (101 : Int32) (x2 &&& (255 : Int32)) (x3 &&& (255 : Int32)) (x4 &&& (255 : Int32)) h1021 O1027 S1025 A1026 (c8_m _) (c8_m _) (c8_m _)) (wk G 22) (wk G 3)) (wk G 20) (wk G 21) (wk G 3) (wk G 22) pd7 (sz hml) all0 sf00 (D at_163) (k_v 166 rfl ?_)
    rintro _ h1028 ⟨rfl, rfl⟩ K1029
    refine go_stC 167 (i := 7) (x' := (x3 &&& (255 : Int32))) (vs' := [(.int 85), (.int 112), (.int 100), (.int 97), (.int 116), (.int 101), (.int (x2 &&& (255 : Int32))), (.int (x3 &&& (255 : Int32))), (.int 0)]) A1023 (Nat.le_trans O0.2.1 (Nat.le_trans K966.1 (Nat.le_of_eq g945))) (by decide) (by decide) rfl (nb rfl) (i2c_mask _) rfl (D at_166) rfl (fun h1030 W1031 A1032 => ?_)
    refine go_aload 169 (D at_167) rfl rfl rfl ?_
    refine go_bipush 171 (v := 8) (D at_169) rfl rfl ?_
    refine go_aload 173 (D at_171) rfl rfl rfl ?_
    refine go_aload 175 (D at_173) rfl rfl rfl ?_
    refine go_bipush 177 (v := 8) (D at_175) rfl rfl ?_
    have K1033 : Keep h923 h1030 [] := (K1024.wr W1031 (Or.inr (Nat.le_trans K952.1 (Nat.le_of_eq g945))))
    have S1034 := (f926.keep K1033)
    have A1035 := (A1026.other W1031 (Nat.ne_of_lt (Nat.lt_of_lt_of_le (Nat.lt_of_lt_of_le A931.lt K971.1) (Nat.le_of_eq g945))))
    refine go_old (fun O1036 => ?_)
    refine callS0 (cells' := 4) (slots' := 40) (Wd := 2) (argsL := [(.ref r925), (.ref a928), (.int 8)]) (rest := [(.int 8), (.ref a944)]) (pay_of (a0 := a0) (c_at6_8 l G r925 a928 k932 (85 : Int32) (112 : Int32) (100 : Int32) (97 : Int32) (116 : Int32) (101 : Int32) (x2 &&& (255 : Int32)) (x3 &&& (255 : Int32)) (x4 &&& (255 : Int32)) h1030 O1036 S1034 A1035 (c8_m _) (c8_m _) (c8_m _)) (wk G 22) (wk G 3)) (wk G 20) (wk G 21) (wk G 3) (wk G 22) pd7 (sz hml) all0 sf00 (D at_177) (k_v 180 rfl ?_)
    rintro _ h1037 ⟨rfl, rfl⟩ K1038
    refine go_stC 181 (i := 8) (x' := (x4 &&& (255 : Int32))) (vs' := [(.int 85), (.int 112), (.int 100), (.int 97), (.int 116), (.int 101), (.int (x2 &&& (255 : Int32))), (.int (x3 &&& (255 : Int32))), (.int (x4 &&& (255 : Int32)))]) A1032 (Nat.le_trans O0.2.1 (Nat.le_trans K966.1 (Nat.le_of_eq g945))) (by decide) (by decide) rfl (nb rfl) (i2c_mask _) rfl (D at_180) rfl (fun h1039 W1040 A1041 => ?_)
    rcases and4 x1 with q1042 | q1042 | q1042 | q1042
    · rw [q1042]
      refine go_aload 183 (D at_181) rfl rfl rfl ?_
      refine go_aload 185 (D at_183) rfl rfl rfl ?_
      have K1043 : Keep h923 h1039 [] := (K1033.wr W1040 (Or.inr (Nat.le_trans K952.1 (Nat.le_of_eq g945))))
      have S1044 := (f926.keep K1043)
      refine go_old (fun O1045 => ?_)
      have E1046 := (f926.exa.keep K1043)
      refine callV0 (cells' := 4) (slots' := 40) (Wd := 1) (argsL := []) (rest := [(.ref a944)]) (pay_len G O1045 (n := (6 : Int32)) S1044 rfl (by decide) (by decide)) E1046 (wk G 23) (wk G 24) (wk G 26) (wk G 26) (wk G 25) pd5 (sz hml) all0 sf00 (D at_185) (k_v 188 rfl ?_)
      rintro _ _ ⟨rfl, rfl⟩ -
      refine go_iload 190 (D at_188) rfl rfl ?_
      refine go_iadd 191 (z := (6 : Int32)) (D at_190) rfl (by decide) ?_
      refine callS0 (cells' := 7) (slots' := 56) (Wd := 0) (argsL := [(.ref a944), (.int 6)]) (rest := []) (pay_of (a0 := a0) (c_take9_6 l G a944 k948 (85 : Int32) (112 : Int32) (100 : Int32) (97 : Int32) (116 : Int32) (101 : Int32) (x2 &&& (255 : Int32)) (x3 &&& (255 : Int32)) (x4 &&& (255 : Int32)) h1039 O1045 A1041 (by decide) (by decide) (by decide) (by decide) (by decide) (by decide)) (wk G 60) (wk G 3)) (wk G 58) (wk G 59) (wk G 3) (wk G 60) pd9 (sz hml) all0 sf00 (D at_191) (k_v 194 rfl ?_)
      rintro _ h1047 ⟨r1049, rfl, f1050, f1051⟩ K1048
      refine go_astore 196 (ls' := #[vi x0, vi x1, vi x2, vi x3, vi x4, vi 3, vi 0, vr (s_UPDATE Z), vr r925, vr a928, vr a944, vr r1049, un, un]) (D at_194) rfl rfl rfl ?_
      refine go_aload 198 (D at_196) rfl rfl rfl ?_
      refine go_iload 200 (D at_198) rfl rfl ?_
      have A1052 := ((A1035.other W1040 (Nat.ne_of_lt (Nat.lt_of_lt_of_le (Nat.lt_of_lt_of_le A931.lt K971.1) (Nat.le_of_eq g945)))).keep K1048 nin0)
      refine go_old (fun O1053 => ?_)
      refine callSW0 rfl (cells' := 13) (slots' := 68) (Wd := 0) (argsL := [(.ref a928), (.int 0)]) (rest := []) (payW_of (a0 := a0) (c_take3_0 l G a928 k932 (x2 &&& (255 : Int32)) (x3 &&& (255 : Int32)) (x4 &&& (255 : Int32)) h1047 O1053 A1052) (wk G 60) (wk G 3) (ew1 G)) (wk G 58) (wk G 59) (wk G 3) (wk G 60) pd9 (sz hml) all0 (D at_200) (k_v 203 rfl ?_)
      rintro _ h1054 ⟨r1056, rfl, f1057, f1058⟩ K1055
      refine go_astore 205 (ls' := #[vi x0, vi x1, vi x2, vi x3, vi x4, vi 3, vi 0, vr (s_UPDATE Z), vr r925, vr a928, vr a944, vr r1049, vr r1056, un]) (D at_203) rfl rfl rfl ?_
      refine go_aload 207 (D at_205) rfl rfl rfl ?_
      refine go_aload 209 (D at_207) rfl rfl rfl ?_
      refine go_old (fun O1060 => ?_)
      have Z1059 := F26.ext O1060.2
      have Z1061 := S27.ext O1060.2
      have K1062 : Keep h1047 h1054 [] := ((Keep.refl h1047 []).trans K1055 all0)
      have S1063 := (f1051.keep K1062)
      have Z1064 := (se_UPDATE G).2.ext O1060.2
      refine callVW0 rfl (cells' := 15) (slots' := 72) (Wd := 0) (argsL := [(.ref r1049)]) (rest := []) (payW_of (a0 := a0) (c_noun6_6 l G (s_UPDATE Z) r1049 (w_UPDATE Z) y20 y21 y22 y23 y24 y25 (85 : Int32) (112 : Int32) (100 : Int32) (97 : Int32) (116 : Int32) (101 : Int32) h1054 O1060 Z1059 Z1061 S1063) (wk G 86) (wk G 6) (ew1 G)) Z1064 (wk G 82) (wk G 83) (wk G 85) (wk G 85) (wk G 84) pd14 (sz hml) all0 (D at_209) (k_v 212 rfl ?_)
      rintro _ h1065 ⟨r1067, rfl, f1068⟩ K1066
      refine go_astore 214 (ls' := #[vi x0, vi x1, vi x2, vi x3, vi x4, vi 3, vi 0, vr (s_UPDATE Z), vr r925, vr a928, vr a944, vr r1049, vr r1056, vr r1067]) (D at_212) rfl rfl rfl ?_
      refine go_aload 216 (D at_214) rfl rfl rfl ?_
      refine go_aload 218 (D at_216) rfl rfl rfl ?_
      have K1069 : Keep h1054 h1065 [] := ((Keep.refl h1054 []).trans K1066 all0)
      have S1070 := (f1058.keep K1069)
      refine go_old (fun O1071 => ?_)
      refine callV0 (cells' := 15) (slots' := 72) (Wd := 0) (argsL := [(.ref r1056)]) (rest := []) (pay_eq G O1071 f1068 S1070 (by decide) (by decide)) f1068.exa (wk G 132) (wk G 133) (wk G 135) (wk G 135) (wk G 134) pd15 (sz hml) all0 sf00 (D at_218) (k_v 221 rfl ?_)
      rintro _ _ (⟨rfl, q1072, rfl⟩ | ⟨rfl, q1072, rfl⟩) -
      rotate_left 1
      · exact absurd rfl q1072
      have K1073 : Keep h0 h943 [] := (K966.ext X946)
      have K1074 : Keep h0 h960 [] := (K1073.wr W961 (Or.inr (Nat.le_trans K966.1 (Nat.le_of_eq g945))))
      have K1075 : Keep h0 h976 [] := (K1074.wr W977 (Or.inr (Nat.le_trans K966.1 (Nat.le_of_eq g945))))
      have K1076 : Keep h0 h985 [] := (K1075.wr W986 (Or.inr (Nat.le_trans K966.1 (Nat.le_of_eq g945))))
      have K1077 : Keep h0 h994 [] := (K1076.wr W995 (Or.inr (Nat.le_trans K966.1 (Nat.le_of_eq g945))))
      have K1078 : Keep h0 h1003 [] := (K1077.wr W1004 (Or.inr (Nat.le_trans K966.1 (Nat.le_of_eq g945))))
      have K1079 : Keep h0 h1012 [] := (K1078.wr W1013 (Or.inr (Nat.le_trans K966.1 (Nat.le_of_eq g945))))
      have K1080 : Keep h0 h1021 [] := (K1079.wr W1022 (Or.inr (Nat.le_trans K966.1 (Nat.le_of_eq g945))))
      have K1081 : Keep h0 h1030 [] := (K1080.wr W1031 (Or.inr (Nat.le_trans K966.1 (Nat.le_of_eq g945))))
      have K1082 : Keep h0 h1039 [] := (K1081.wr W1040 (Or.inr (Nat.le_trans K966.1 (Nat.le_of_eq g945))))
      have K1083 : Keep h0 h1047 [] := (K1082.trans K1048 all0)
      have K1084 : Keep h0 h1054 [] := (K1083.trans K1055 all0)
      have K1085 : Keep h0 h1065 [] := (K1084.trans K1066 all0)
      refine go_ireturn hret hlk rfl (by simp) (D at_221) (by decide) (by decide) ⟨_, rfl, rfl⟩ K1085
    · rw [q1042]
      refine go_aload 183 (D at_181) rfl rfl rfl ?_
      refine go_aload 185 (D at_183) rfl rfl rfl ?_
      have K1086 : Keep h923 h1039 [] := (K1033.wr W1040 (Or.inr (Nat.le_trans K952.1 (Nat.le_of_eq g945))))
      have S1087 := (f926.keep K1086)
      refine go_old (fun O1088 => ?_)
      have E1089 := (f926.exa.keep K1086)
      refine callV0 (cells' := 4) (slots' := 40) (Wd := 1) (argsL := []) (rest := [(.ref a944)]) (pay_len G O1088 (n := (6 : Int32)) S1087 rfl (by decide) (by decide)) E1089 (wk G 23) (wk G 24) (wk G 26) (wk G 26) (wk G 25) pd5 (sz hml) all0 sf00 (D at_185) (k_v 188 rfl ?_)
      rintro _ _ ⟨rfl, rfl⟩ -
      refine go_iload 190 (D at_188) rfl rfl ?_
      refine go_iadd 191 (z := (7 : Int32)) (D at_190) rfl (by decide) ?_
      refine callS0 (cells' := 7) (slots' := 58) (Wd := 0) (argsL := [(.ref a944), (.int 7)]) (rest := []) (pay_of (a0 := a0) (c_take9_7 l G a944 k948 (85 : Int32) (112 : Int32) (100 : Int32) (97 : Int32) (116 : Int32) (101 : Int32) (x2 &&& (255 : Int32)) (x3 &&& (255 : Int32)) (x4 &&& (255 : Int32)) h1039 O1088 A1041 (by decide) (by decide) (by decide) (by decide) (by decide) (by decide) (c8_m _)) (wk G 60) (wk G 3)) (wk G 58) (wk G 59) (wk G 3) (wk G 60) pd9 (sz hml) all0 sf00 (D at_191) (k_v 194 rfl ?_)
      rintro _ h1090 ⟨r1092, rfl, f1093, f1094⟩ K1091
      refine go_astore 196 (ls' := #[vi x0, vi x1, vi x2, vi x3, vi x4, vi 3, vi 1, vr (s_UPDATE Z), vr r925, vr a928, vr a944, vr r1092, un, un]) (D at_194) rfl rfl rfl ?_
      refine go_aload 198 (D at_196) rfl rfl rfl ?_
      refine go_iload 200 (D at_198) rfl rfl ?_
      have A1095 := ((A1035.other W1040 (Nat.ne_of_lt (Nat.lt_of_lt_of_le (Nat.lt_of_lt_of_le A931.lt K971.1) (Nat.le_of_eq g945)))).keep K1091 nin0)
      refine go_old (fun O1096 => ?_)
      refine callS0 (cells' := 10) (slots' := 64) (Wd := 0) (argsL := [(.ref a928), (.int 1)]) (rest := []) (pay_of (a0 := a0) (c_take3_1 l G a928 k932 (x2 &&& (255 : Int32)) (x3 &&& (255 : Int32)) (x4 &&& (255 : Int32)) h1090 O1096 A1095 (c8_m _)) (wk G 60) (wk G 3)) (wk G 58) (wk G 59) (wk G 3) (wk G 60) pd9 (sz hml) all0 sf00 (D at_200) (k_v 203 rfl ?_)
      rintro _ h1097 ⟨r1099, rfl, f1100, f1101⟩ K1098
      refine go_astore 205 (ls' := #[vi x0, vi x1, vi x2, vi x3, vi x4, vi 3, vi 1, vr (s_UPDATE Z), vr r925, vr a928, vr a944, vr r1092, vr r1099, un]) (D at_203) rfl rfl rfl ?_
      refine go_aload 207 (D at_205) rfl rfl rfl ?_
      refine go_aload 209 (D at_207) rfl rfl rfl ?_
      refine go_old (fun O1103 => ?_)
      have Z1102 := F26.ext O1103.2
      have Z1104 := S27.ext O1103.2
      have K1105 : Keep h1090 h1097 [] := ((Keep.refl h1090 []).trans K1098 all0)
      have S1106 := (f1094.keep K1105)
      have Z1107 := (se_UPDATE G).2.ext O1103.2
      refine callV0 (cells' := 12) (slots' := 69) (Wd := 0) (argsL := [(.ref r1092)]) (rest := []) (pay_of (a0 := a0) (c_noun6_7 l G (s_UPDATE Z) r1092 (w_UPDATE Z) y20 y21 y22 y23 y24 y25 (85 : Int32) (112 : Int32) (100 : Int32) (97 : Int32) (116 : Int32) (101 : Int32) (x2 &&& (255 : Int32)) h1097 O1103 Z1102 Z1104 S1106) (wk G 86) (wk G 6)) Z1107 (wk G 82) (wk G 83) (wk G 85) (wk G 85) (wk G 84) pd14 (sz hml) all0 sf00 (D at_209) (k_v 212 rfl ?_)
      rintro _ h1108 ⟨r1110, rfl, f1111⟩ K1109
      refine go_astore 214 (ls' := #[vi x0, vi x1, vi x2, vi x3, vi x4, vi 3, vi 1, vr (s_UPDATE Z), vr r925, vr a928, vr a944, vr r1092, vr r1099, vr r1110]) (D at_212) rfl rfl rfl ?_
      refine go_aload 216 (D at_214) rfl rfl rfl ?_
      refine go_aload 218 (D at_216) rfl rfl rfl ?_
      have K1112 : Keep h1097 h1108 [] := ((Keep.refl h1097 []).trans K1109 all0)
      have S1113 := (f1101.keep K1112)
      refine go_old (fun O1114 => ?_)
      refine callV0 (cells' := 12) (slots' := 69) (Wd := 0) (argsL := [(.ref r1099)]) (rest := []) (pay_eq G O1114 f1111 S1113 (by decide) (by decide)) f1111.exa (wk G 132) (wk G 133) (wk G 135) (wk G 135) (wk G 134) pd15 (sz hml) all0 sf00 (D at_218) (k_v 221 rfl ?_)
      rintro _ _ (⟨rfl, q1115, rfl⟩ | ⟨rfl, q1115, rfl⟩) -
      rotate_left 1
      · exact absurd rfl q1115
      have K1116 : Keep h0 h943 [] := (K966.ext X946)
      have K1117 : Keep h0 h960 [] := (K1116.wr W961 (Or.inr (Nat.le_trans K966.1 (Nat.le_of_eq g945))))
      have K1118 : Keep h0 h976 [] := (K1117.wr W977 (Or.inr (Nat.le_trans K966.1 (Nat.le_of_eq g945))))
      have K1119 : Keep h0 h985 [] := (K1118.wr W986 (Or.inr (Nat.le_trans K966.1 (Nat.le_of_eq g945))))
      have K1120 : Keep h0 h994 [] := (K1119.wr W995 (Or.inr (Nat.le_trans K966.1 (Nat.le_of_eq g945))))
      have K1121 : Keep h0 h1003 [] := (K1120.wr W1004 (Or.inr (Nat.le_trans K966.1 (Nat.le_of_eq g945))))
      have K1122 : Keep h0 h1012 [] := (K1121.wr W1013 (Or.inr (Nat.le_trans K966.1 (Nat.le_of_eq g945))))
      have K1123 : Keep h0 h1021 [] := (K1122.wr W1022 (Or.inr (Nat.le_trans K966.1 (Nat.le_of_eq g945))))
      have K1124 : Keep h0 h1030 [] := (K1123.wr W1031 (Or.inr (Nat.le_trans K966.1 (Nat.le_of_eq g945))))
      have K1125 : Keep h0 h1039 [] := (K1124.wr W1040 (Or.inr (Nat.le_trans K966.1 (Nat.le_of_eq g945))))
      have K1126 : Keep h0 h1090 [] := (K1125.trans K1091 all0)
      have K1127 : Keep h0 h1097 [] := (K1126.trans K1098 all0)
      have K1128 : Keep h0 h1108 [] := (K1127.trans K1109 all0)
      refine go_ireturn hret hlk rfl (by simp) (D at_221) (by decide) (by decide) ⟨_, rfl, rfl⟩ K1128
    · rw [q1042]
      refine go_aload 183 (D at_181) rfl rfl rfl ?_
      refine go_aload 185 (D at_183) rfl rfl rfl ?_
      have K1129 : Keep h923 h1039 [] := (K1033.wr W1040 (Or.inr (Nat.le_trans K952.1 (Nat.le_of_eq g945))))
      have S1130 := (f926.keep K1129)
      refine go_old (fun O1131 => ?_)
      have E1132 := (f926.exa.keep K1129)
      refine callV0 (cells' := 4) (slots' := 40) (Wd := 1) (argsL := []) (rest := [(.ref a944)]) (pay_len G O1131 (n := (6 : Int32)) S1130 rfl (by decide) (by decide)) E1132 (wk G 23) (wk G 24) (wk G 26) (wk G 26) (wk G 25) pd5 (sz hml) all0 sf00 (D at_185) (k_v 188 rfl ?_)
      rintro _ _ ⟨rfl, rfl⟩ -
      refine go_iload 190 (D at_188) rfl rfl ?_
      refine go_iadd 191 (z := (8 : Int32)) (D at_190) rfl (by decide) ?_
      refine callS0 (cells' := 7) (slots' := 60) (Wd := 0) (argsL := [(.ref a944), (.int 8)]) (rest := []) (pay_of (a0 := a0) (c_take9_8 l G a944 k948 (85 : Int32) (112 : Int32) (100 : Int32) (97 : Int32) (116 : Int32) (101 : Int32) (x2 &&& (255 : Int32)) (x3 &&& (255 : Int32)) (x4 &&& (255 : Int32)) h1039 O1131 A1041 (by decide) (by decide) (by decide) (by decide) (by decide) (by decide) (c8_m _) (c8_m _)) (wk G 60) (wk G 3)) (wk G 58) (wk G 59) (wk G 3) (wk G 60) pd9 (sz hml) all0 sf00 (D at_191) (k_v 194 rfl ?_)
      rintro _ h1133 ⟨r1135, rfl, f1136, f1137⟩ K1134
      refine go_astore 196 (ls' := #[vi x0, vi x1, vi x2, vi x3, vi x4, vi 3, vi 2, vr (s_UPDATE Z), vr r925, vr a928, vr a944, vr r1135, un, un]) (D at_194) rfl rfl rfl ?_
      refine go_aload 198 (D at_196) rfl rfl rfl ?_
      refine go_iload 200 (D at_198) rfl rfl ?_
      have A1138 := ((A1035.other W1040 (Nat.ne_of_lt (Nat.lt_of_lt_of_le (Nat.lt_of_lt_of_le A931.lt K971.1) (Nat.le_of_eq g945)))).keep K1134 nin0)
      refine go_old (fun O1139 => ?_)
      refine callS0 (cells' := 10) (slots' := 68) (Wd := 0) (argsL := [(.ref a928), (.int 2)]) (rest := []) (pay_of (a0 := a0) (c_take3_2 l G a928 k932 (x2 &&& (255 : Int32)) (x3 &&& (255 : Int32)) (x4 &&& (255 : Int32)) h1133 O1139 A1138 (c8_m _) (c8_m _)) (wk G 60) (wk G 3)) (wk G 58) (wk G 59) (wk G 3) (wk G 60) pd9 (sz hml) all0 sf00 (D at_200) (k_v 203 rfl ?_)
      rintro _ h1140 ⟨r1142, rfl, f1143, f1144⟩ K1141
      refine go_astore 205 (ls' := #[vi x0, vi x1, vi x2, vi x3, vi x4, vi 3, vi 2, vr (s_UPDATE Z), vr r925, vr a928, vr a944, vr r1135, vr r1142, un]) (D at_203) rfl rfl rfl ?_
      refine go_aload 207 (D at_205) rfl rfl rfl ?_
      refine go_aload 209 (D at_207) rfl rfl rfl ?_
      refine go_old (fun O1146 => ?_)
      have Z1145 := F26.ext O1146.2
      have Z1147 := S27.ext O1146.2
      have K1148 : Keep h1133 h1140 [] := ((Keep.refl h1133 []).trans K1141 all0)
      have S1149 := (f1137.keep K1148)
      have Z1150 := (se_UPDATE G).2.ext O1146.2
      refine callV0 (cells' := 12) (slots' := 74) (Wd := 0) (argsL := [(.ref r1135)]) (rest := []) (pay_of (a0 := a0) (c_noun6_8 l G (s_UPDATE Z) r1135 (w_UPDATE Z) y20 y21 y22 y23 y24 y25 (85 : Int32) (112 : Int32) (100 : Int32) (97 : Int32) (116 : Int32) (101 : Int32) (x2 &&& (255 : Int32)) (x3 &&& (255 : Int32)) h1140 O1146 Z1145 Z1147 S1149) (wk G 86) (wk G 6)) Z1150 (wk G 82) (wk G 83) (wk G 85) (wk G 85) (wk G 84) pd14 (sz hml) all0 sf00 (D at_209) (k_v 212 rfl ?_)
      rintro _ h1151 ⟨r1153, rfl, f1154⟩ K1152
      refine go_astore 214 (ls' := #[vi x0, vi x1, vi x2, vi x3, vi x4, vi 3, vi 2, vr (s_UPDATE Z), vr r925, vr a928, vr a944, vr r1135, vr r1142, vr r1153]) (D at_212) rfl rfl rfl ?_
      refine go_aload 216 (D at_214) rfl rfl rfl ?_
      refine go_aload 218 (D at_216) rfl rfl rfl ?_
      have K1155 : Keep h1140 h1151 [] := ((Keep.refl h1140 []).trans K1152 all0)
      have S1156 := (f1144.keep K1155)
      refine go_old (fun O1157 => ?_)
      refine callV0 (cells' := 12) (slots' := 74) (Wd := 0) (argsL := [(.ref r1142)]) (rest := []) (pay_eq G O1157 f1154 S1156 (by decide) (by decide)) f1154.exa (wk G 132) (wk G 133) (wk G 135) (wk G 135) (wk G 134) pd15 (sz hml) all0 sf00 (D at_218) (k_v 221 rfl ?_)
      rintro _ _ (⟨rfl, q1158, rfl⟩ | ⟨rfl, q1158, rfl⟩) -
      rotate_left 1
      · exact absurd rfl q1158
      have K1159 : Keep h0 h943 [] := (K966.ext X946)
      have K1160 : Keep h0 h960 [] := (K1159.wr W961 (Or.inr (Nat.le_trans K966.1 (Nat.le_of_eq g945))))
      have K1161 : Keep h0 h976 [] := (K1160.wr W977 (Or.inr (Nat.le_trans K966.1 (Nat.le_of_eq g945))))
      have K1162 : Keep h0 h985 [] := (K1161.wr W986 (Or.inr (Nat.le_trans K966.1 (Nat.le_of_eq g945))))
      have K1163 : Keep h0 h994 [] := (K1162.wr W995 (Or.inr (Nat.le_trans K966.1 (Nat.le_of_eq g945))))
      have K1164 : Keep h0 h1003 [] := (K1163.wr W1004 (Or.inr (Nat.le_trans K966.1 (Nat.le_of_eq g945))))
      have K1165 : Keep h0 h1012 [] := (K1164.wr W1013 (Or.inr (Nat.le_trans K966.1 (Nat.le_of_eq g945))))
      have K1166 : Keep h0 h1021 [] := (K1165.wr W1022 (Or.inr (Nat.le_trans K966.1 (Nat.le_of_eq g945))))
      have K1167 : Keep h0 h1030 [] := (K1166.wr W1031 (Or.inr (Nat.le_trans K966.1 (Nat.le_of_eq g945))))
      have K1168 : Keep h0 h1039 [] := (K1167.wr W1040 (Or.inr (Nat.le_trans K966.1 (Nat.le_of_eq g945))))
      have K1169 : Keep h0 h1133 [] := (K1168.trans K1134 all0)
      have K1170 : Keep h0 h1140 [] := (K1169.trans K1141 all0)
      have K1171 : Keep h0 h1151 [] := (K1170.trans K1152 all0)
      refine go_ireturn hret hlk rfl (by simp) (D at_221) (by decide) (by decide) ⟨_, rfl, rfl⟩ K1171
    · rw [q1042]
      refine go_aload 183 (D at_181) rfl rfl rfl ?_
      refine go_aload 185 (D at_183) rfl rfl rfl ?_
      have K1172 : Keep h923 h1039 [] := (K1033.wr W1040 (Or.inr (Nat.le_trans K952.1 (Nat.le_of_eq g945))))
      have S1173 := (f926.keep K1172)
      refine go_old (fun O1174 => ?_)
      have E1175 := (f926.exa.keep K1172)
      refine callV0 (cells' := 4) (slots' := 40) (Wd := 1) (argsL := []) (rest := [(.ref a944)]) (pay_len G O1174 (n := (6 : Int32)) S1173 rfl (by decide) (by decide)) E1175 (wk G 23) (wk G 24) (wk G 26) (wk G 26) (wk G 25) pd5 (sz hml) all0 sf00 (D at_185) (k_v 188 rfl ?_)
      rintro _ _ ⟨rfl, rfl⟩ -
      refine go_iload 190 (D at_188) rfl rfl ?_
      refine go_iadd 191 (z := (9 : Int32)) (D at_190) rfl (by decide) ?_
      refine callS0 (cells' := 7) (slots' := 62) (Wd := 0) (argsL := [(.ref a944), (.int 9)]) (rest := []) (pay_of (a0 := a0) (c_take9_9 l G a944 k948 (85 : Int32) (112 : Int32) (100 : Int32) (97 : Int32) (116 : Int32) (101 : Int32) (x2 &&& (255 : Int32)) (x3 &&& (255 : Int32)) (x4 &&& (255 : Int32)) h1039 O1174 A1041 (by decide) (by decide) (by decide) (by decide) (by decide) (by decide) (c8_m _) (c8_m _) (c8_m _)) (wk G 60) (wk G 3)) (wk G 58) (wk G 59) (wk G 3) (wk G 60) pd9 (sz hml) all0 sf00 (D at_191) (k_v 194 rfl ?_)
      rintro _ h1176 ⟨r1178, rfl, f1179, f1180⟩ K1177
      refine go_astore 196 (ls' := #[vi x0, vi x1, vi x2, vi x3, vi x4, vi 3, vi 3, vr (s_UPDATE Z), vr r925, vr a928, vr a944, vr r1178, un, un]) (D at_194) rfl rfl rfl ?_
      refine go_aload 198 (D at_196) rfl rfl rfl ?_
      refine go_iload 200 (D at_198) rfl rfl ?_
      have A1181 := ((A1035.other W1040 (Nat.ne_of_lt (Nat.lt_of_lt_of_le (Nat.lt_of_lt_of_le A931.lt K971.1) (Nat.le_of_eq g945)))).keep K1177 nin0)
      refine go_old (fun O1182 => ?_)
      refine callS0 (cells' := 10) (slots' := 72) (Wd := 0) (argsL := [(.ref a928), (.int 3)]) (rest := []) (pay_of (a0 := a0) (c_take3_3 l G a928 k932 (x2 &&& (255 : Int32)) (x3 &&& (255 : Int32)) (x4 &&& (255 : Int32)) h1176 O1182 A1181 (c8_m _) (c8_m _) (c8_m _)) (wk G 60) (wk G 3)) (wk G 58) (wk G 59) (wk G 3) (wk G 60) pd9 (sz hml) all0 sf00 (D at_200) (k_v 203 rfl ?_)
      rintro _ h1183 ⟨r1185, rfl, f1186, f1187⟩ K1184
      refine go_astore 205 (ls' := #[vi x0, vi x1, vi x2, vi x3, vi x4, vi 3, vi 3, vr (s_UPDATE Z), vr r925, vr a928, vr a944, vr r1178, vr r1185, un]) (D at_203) rfl rfl rfl ?_
      refine go_aload 207 (D at_205) rfl rfl rfl ?_
      refine go_aload 209 (D at_207) rfl rfl rfl ?_
      refine go_old (fun O1189 => ?_)
      have Z1188 := F26.ext O1189.2
      have Z1190 := S27.ext O1189.2
      have K1191 : Keep h1176 h1183 [] := ((Keep.refl h1176 []).trans K1184 all0)
      have S1192 := (f1180.keep K1191)
      have Z1193 := (se_UPDATE G).2.ext O1189.2
      refine callV0 (cells' := 12) (slots' := 79) (Wd := 0) (argsL := [(.ref r1178)]) (rest := []) (pay_of (a0 := a0) (c_noun6_9 l G (s_UPDATE Z) r1178 (w_UPDATE Z) y20 y21 y22 y23 y24 y25 (85 : Int32) (112 : Int32) (100 : Int32) (97 : Int32) (116 : Int32) (101 : Int32) (x2 &&& (255 : Int32)) (x3 &&& (255 : Int32)) (x4 &&& (255 : Int32)) h1183 O1189 Z1188 Z1190 S1192) (wk G 86) (wk G 6)) Z1193 (wk G 82) (wk G 83) (wk G 85) (wk G 85) (wk G 84) pd14 (sz hml) all0 sf00 (D at_209) (k_v 212 rfl ?_)
      rintro _ h1194 ⟨r1196, rfl, f1197⟩ K1195
      refine go_astore 214 (ls' := #[vi x0, vi x1, vi x2, vi x3, vi x4, vi 3, vi 3, vr (s_UPDATE Z), vr r925, vr a928, vr a944, vr r1178, vr r1185, vr r1196]) (D at_212) rfl rfl rfl ?_
      refine go_aload 216 (D at_214) rfl rfl rfl ?_
      refine go_aload 218 (D at_216) rfl rfl rfl ?_
      have K1198 : Keep h1183 h1194 [] := ((Keep.refl h1183 []).trans K1195 all0)
      have S1199 := (f1187.keep K1198)
      refine go_old (fun O1200 => ?_)
      refine callV0 (cells' := 12) (slots' := 79) (Wd := 0) (argsL := [(.ref r1185)]) (rest := []) (pay_eq G O1200 f1197 S1199 (by decide) (by decide)) f1197.exa (wk G 132) (wk G 133) (wk G 135) (wk G 135) (wk G 134) pd15 (sz hml) all0 sf00 (D at_218) (k_v 221 rfl ?_)
      rintro _ _ (⟨rfl, q1201, rfl⟩ | ⟨rfl, q1201, rfl⟩) -
      rotate_left 1
      · exact absurd rfl q1201
      have K1202 : Keep h0 h943 [] := (K966.ext X946)
      have K1203 : Keep h0 h960 [] := (K1202.wr W961 (Or.inr (Nat.le_trans K966.1 (Nat.le_of_eq g945))))
      have K1204 : Keep h0 h976 [] := (K1203.wr W977 (Or.inr (Nat.le_trans K966.1 (Nat.le_of_eq g945))))
      have K1205 : Keep h0 h985 [] := (K1204.wr W986 (Or.inr (Nat.le_trans K966.1 (Nat.le_of_eq g945))))
      have K1206 : Keep h0 h994 [] := (K1205.wr W995 (Or.inr (Nat.le_trans K966.1 (Nat.le_of_eq g945))))
      have K1207 : Keep h0 h1003 [] := (K1206.wr W1004 (Or.inr (Nat.le_trans K966.1 (Nat.le_of_eq g945))))
      have K1208 : Keep h0 h1012 [] := (K1207.wr W1013 (Or.inr (Nat.le_trans K966.1 (Nat.le_of_eq g945))))
      have K1209 : Keep h0 h1021 [] := (K1208.wr W1022 (Or.inr (Nat.le_trans K966.1 (Nat.le_of_eq g945))))
      have K1210 : Keep h0 h1030 [] := (K1209.wr W1031 (Or.inr (Nat.le_trans K966.1 (Nat.le_of_eq g945))))
      have K1211 : Keep h0 h1039 [] := (K1210.wr W1040 (Or.inr (Nat.le_trans K966.1 (Nat.le_of_eq g945))))
      have K1212 : Keep h0 h1176 [] := (K1211.trans K1177 all0)
      have K1213 : Keep h0 h1183 [] := (K1212.trans K1184 all0)
      have K1214 : Keep h0 h1194 [] := (K1213.trans K1195 all0)
      refine go_ireturn hret hlk rfl (by simp) (D at_221) (by decide) (by decide) ⟨_, rfl, rfl⟩ K1214
  · rw [q38]
    refine go_iload 16 (D at_14) rfl rfl ?_
    refine callS0 (cells' := 0) (slots' := 0) (Wd := 0) (argsL := [(.int 4)]) (rest := []) (pay_of (a0 := a0) (c_kind4 l G  h0 O0 ) (wk G 4) (wk G 3)) (wk G 1) (wk G 2) (wk G 3) (wk G 4) pd3 (sz hml) all0 sf00 (D at_16) (k_v 19 rfl ?_)
    rintro _ h1215 ⟨rfl, rfl⟩ K1216
    refine go_astore 21 (ls' := #[vi x0, vi x1, vi x2, vi x3, vi x4, vi 4, vi (x1 &&& (3 : Int32)), vr (s_DELETE Z), un, un, un, un, un, un]) (D at_19) rfl rfl rfl ?_
    refine go_iload 23 (D at_21) rfl rfl ?_
    refine callSW0 rfl (cells' := 2) (slots' := 28) (Wd := 0) (argsL := [(.int 4)]) (rest := []) (payW_of (a0 := a0) (c_word4 l G  h0 O0 ) (wk G 10) (wk G 3) (ew1 G)) (wk G 8) (wk G 9) (wk G 3) (wk G 10) pd4 (sz hml) all0 (D at_23) (k_v 26 rfl ?_)
    rintro _ h1217 ⟨r1219, rfl, f1220⟩ K1218
    refine go_astore 28 (ls' := #[vi x0, vi x1, vi x2, vi x3, vi x4, vi 4, vi (x1 &&& (3 : Int32)), vr (s_DELETE Z), vr r1219, un, un, un, un, un]) (D at_26) rfl rfl rfl ?_
    refine go_iconst 29 (v := 3) (D at_28) rfl rfl ?_
    refine go_newP 31 (cells' := 3) (slots' := 31) (cap := 3) (vs := [(.int 0), (.int 0), (.int 0)]) (ty := .char) (dv := .int 0) (wk G 19) rfl rfl (D at_29) rfl (by decide) rfl (by decide) rfl rfl rfl (by decide) (by decide) (fun h1221 a1222 k1226 g1223 X1224 A1225 => ?_)
    refine go_dup 32 (D at_31) rfl rfl ?_
    refine go_iconst 33 (v := 0) (D at_32) rfl rfl ?_
    refine go_iload_n 34 (D at_33) rfl rfl ?_
    refine go_sipush 37 (v := 255) (D at_34) rfl rfl ?_
    refine go_iand 38 (z := (x2 &&& (255 : Int32))) (D at_37) rfl rfl ?_
    refine go_i2c 39 (z := (x2 &&& (255 : Int32))) (D at_38) rfl (i2c_mask _) ?_
    have K1230 : Keep h0 h1217 [] := ((Keep.refl h0 []).trans K1218 all0)
    refine go_stC 40 (i := 0) (x' := (x2 &&& (255 : Int32))) (vs' := [(.int (x2 &&& (255 : Int32))), (.int 0), (.int 0)]) A1225 (Nat.le_trans O0.2.1 (Nat.le_trans K1230.1 (Nat.le_of_eq g1223))) (by decide) (by decide) rfl (nb rfl) (i2c_mask _) rfl (D at_39) rfl (fun h1227 W1228 A1229 => ?_)
    refine go_dup 41 (D at_40) rfl rfl ?_
    refine go_iconst 42 (v := 1) (D at_41) rfl rfl ?_
    refine go_iload_n 43 (D at_42) rfl rfl ?_
    refine go_sipush 46 (v := 255) (D at_43) rfl rfl ?_
    refine go_iand 47 (z := (x3 &&& (255 : Int32))) (D at_46) rfl rfl ?_
    refine go_i2c 48 (z := (x3 &&& (255 : Int32))) (D at_47) rfl (i2c_mask _) ?_
    refine go_stC 49 (i := 1) (x' := (x3 &&& (255 : Int32))) (vs' := [(.int (x2 &&& (255 : Int32))), (.int (x3 &&& (255 : Int32))), (.int 0)]) A1229 (Nat.le_trans O0.2.1 (Nat.le_trans K1230.1 (Nat.le_of_eq g1223))) (by decide) (by decide) rfl (nb rfl) (i2c_mask _) rfl (D at_48) rfl (fun h1231 W1232 A1233 => ?_)
    refine go_dup 50 (D at_49) rfl rfl ?_
    refine go_iconst 51 (v := 2) (D at_50) rfl rfl ?_
    refine go_iload 53 (D at_51) rfl rfl ?_
    refine go_sipush 56 (v := 255) (D at_53) rfl rfl ?_
    refine go_iand 57 (z := (x4 &&& (255 : Int32))) (D at_56) rfl rfl ?_
    refine go_i2c 58 (z := (x4 &&& (255 : Int32))) (D at_57) rfl (i2c_mask _) ?_
    refine go_stC 59 (i := 2) (x' := (x4 &&& (255 : Int32))) (vs' := [(.int (x2 &&& (255 : Int32))), (.int (x3 &&& (255 : Int32))), (.int (x4 &&& (255 : Int32)))]) A1233 (Nat.le_trans O0.2.1 (Nat.le_trans K1230.1 (Nat.le_of_eq g1223))) (by decide) (by decide) rfl (nb rfl) (i2c_mask _) rfl (D at_58) rfl (fun h1234 W1235 A1236 => ?_)
    refine go_astore 61 (ls' := #[vi x0, vi x1, vi x2, vi x3, vi x4, vi 4, vi (x1 &&& (3 : Int32)), vr (s_DELETE Z), vr r1219, vr a1222, un, un, un, un]) (D at_59) rfl rfl rfl ?_
    refine go_bipush 63 (v := 9) (D at_61) rfl rfl ?_
    refine go_newP 65 (cells' := 4) (slots' := 40) (cap := 9) (vs := [(.int 0), (.int 0), (.int 0), (.int 0), (.int 0), (.int 0), (.int 0), (.int 0), (.int 0)]) (ty := .char) (dv := .int 0) (wk G 19) rfl rfl (D at_63) rfl (by decide) rfl (by decide) rfl rfl rfl (by decide) (by decide) (fun h1237 a1238 k1242 g1239 X1240 A1241 => ?_)
    refine go_astore 67 (ls' := #[vi x0, vi x1, vi x2, vi x3, vi x4, vi 4, vi (x1 &&& (3 : Int32)), vr (s_DELETE Z), vr r1219, vr a1222, vr a1238, un, un, un]) (D at_65) rfl rfl rfl ?_
    refine go_aload 69 (D at_67) rfl rfl rfl ?_
    refine go_iconst 70 (v := 0) (D at_69) rfl rfl ?_
    refine go_aload 72 (D at_70) rfl rfl rfl ?_
    refine go_aload 74 (D at_72) rfl rfl rfl ?_
    refine go_iconst 75 (v := 0) (D at_74) rfl rfl ?_
    have K1243 : Keep h1217 h1221 [] := ((Keep.refl h1217 []).ext X1224)
    have K1244 : Keep h1217 h1227 [] := (K1243.wr W1228 (Or.inr (Nat.le_of_eq g1223)))
    have K1245 : Keep h1217 h1231 [] := (K1244.wr W1232 (Or.inr (Nat.le_of_eq g1223)))
    have K1246 : Keep h1217 h1234 [] := (K1245.wr W1235 (Or.inr (Nat.le_of_eq g1223)))
    have K1247 : Keep h1217 h1237 [] := (K1246.ext X1240)
    have S1248 := (f1220.keep K1247)
    have K1249 : Keep h1234 h1237 [] := ((Keep.refl h1234 []).ext X1240)
    have A1250 := (A1236.keep K1249 nin0)
    refine go_old (fun O1251 => ?_)
    refine callS0 (cells' := 4) (slots' := 40) (Wd := 2) (argsL := [(.ref r1219), (.ref a1222), (.int 0)]) (rest := [(.int 0), (.ref a1238)]) (pay_of (a0 := a0) (c_at6_0 l G r1219 a1222 k1226 (68 : Int32) (101 : Int32) (108 : Int32) (101 : Int32) (116 : Int32) (101 : Int32) (x2 &&& (255 : Int32)) (x3 &&& (255 : Int32)) (x4 &&& (255 : Int32)) h1237 O1251 S1248 A1250 (c8_m _) (c8_m _) (c8_m _)) (wk G 22) (wk G 3)) (wk G 20) (wk G 21) (wk G 3) (wk G 22) pd7 (sz hml) all0 sf00 (D at_75) (k_v 78 rfl ?_)
    rintro _ h1252 ⟨rfl, rfl⟩ K1253
    have K1257 : Keep h0 h1221 [] := (K1230.ext X1224)
    have K1258 : Keep h0 h1227 [] := (K1257.wr W1228 (Or.inr (Nat.le_trans K1230.1 (Nat.le_of_eq g1223))))
    have K1259 : Keep h0 h1231 [] := (K1258.wr W1232 (Or.inr (Nat.le_trans K1230.1 (Nat.le_of_eq g1223))))
    have K1260 : Keep h0 h1234 [] := (K1259.wr W1235 (Or.inr (Nat.le_trans K1230.1 (Nat.le_of_eq g1223))))
    refine go_stC 79 (i := 0) (x' := (68 : Int32)) (vs' := [(.int 68), (.int 0), (.int 0), (.int 0), (.int 0), (.int 0), (.int 0), (.int 0), (.int 0)]) A1241 (Nat.le_trans O0.2.1 (Nat.le_trans K1260.1 (Nat.le_of_eq g1239))) (by decide) (by decide) rfl (nb rfl) (by decide) rfl (D at_78) rfl (fun h1254 W1255 A1256 => ?_)
    refine go_aload 81 (D at_79) rfl rfl rfl ?_
    refine go_iconst 82 (v := 1) (D at_81) rfl rfl ?_
    refine go_aload 84 (D at_82) rfl rfl rfl ?_
    refine go_aload 86 (D at_84) rfl rfl rfl ?_
    refine go_iconst 87 (v := 1) (D at_86) rfl rfl ?_
    have K1261 : Keep h1217 h1254 [] := (K1247.wr W1255 (Or.inr (Nat.le_trans K1246.1 (Nat.le_of_eq g1239))))
    have S1262 := (f1220.keep K1261)
    have K1263 : Keep h1221 h1227 [a1222] := ((Keep.refl h1221 [a1222]).wr W1228 (Or.inl (by simp)))
    have K1264 : Keep h1221 h1231 [a1222] := (K1263.wr W1232 (Or.inl (by simp)))
    have K1265 : Keep h1221 h1234 [a1222] := (K1264.wr W1235 (Or.inl (by simp)))
    have A1266 := (A1250.other W1255 (Nat.ne_of_lt (Nat.lt_of_lt_of_le (Nat.lt_of_lt_of_le A1225.lt K1265.1) (Nat.le_of_eq g1239))))
    refine go_old (fun O1267 => ?_)
    refine callS0 (cells' := 4) (slots' := 40) (Wd := 2) (argsL := [(.ref r1219), (.ref a1222), (.int 1)]) (rest := [(.int 1), (.ref a1238)]) (pay_of (a0 := a0) (c_at6_1 l G r1219 a1222 k1226 (68 : Int32) (101 : Int32) (108 : Int32) (101 : Int32) (116 : Int32) (101 : Int32) (x2 &&& (255 : Int32)) (x3 &&& (255 : Int32)) (x4 &&& (255 : Int32)) h1254 O1267 S1262 A1266 (c8_m _) (c8_m _) (c8_m _)) (wk G 22) (wk G 3)) (wk G 20) (wk G 21) (wk G 3) (wk G 22) pd7 (sz hml) all0 sf00 (D at_87) (k_v 90 rfl ?_)
    rintro _ h1268 ⟨rfl, rfl⟩ K1269
    refine go_stC 91 (i := 1) (x' := (101 : Int32)) (vs' := [(.int 68), (.int 101), (.int 0), (.int 0), (.int 0), (.int 0), (.int 0), (.int 0), (.int 0)]) A1256 (Nat.le_trans O0.2.1 (Nat.le_trans K1260.1 (Nat.le_of_eq g1239))) (by decide) (by decide) rfl (nb rfl) (by decide) rfl (D at_90) rfl (fun h1270 W1271 A1272 => ?_)
    refine go_aload 93 (D at_91) rfl rfl rfl ?_
    refine go_iconst 94 (v := 2) (D at_93) rfl rfl ?_
    refine go_aload 96 (D at_94) rfl rfl rfl ?_
    refine go_aload 98 (D at_96) rfl rfl rfl ?_
    refine go_iconst 99 (v := 2) (D at_98) rfl rfl ?_
    have K1273 : Keep h1217 h1270 [] := (K1261.wr W1271 (Or.inr (Nat.le_trans K1246.1 (Nat.le_of_eq g1239))))
    have S1274 := (f1220.keep K1273)
    have A1275 := (A1266.other W1271 (Nat.ne_of_lt (Nat.lt_of_lt_of_le (Nat.lt_of_lt_of_le A1225.lt K1265.1) (Nat.le_of_eq g1239))))
    refine go_old (fun O1276 => ?_)
    refine callS0 (cells' := 4) (slots' := 40) (Wd := 2) (argsL := [(.ref r1219), (.ref a1222), (.int 2)]) (rest := [(.int 2), (.ref a1238)]) (pay_of (a0 := a0) (c_at6_2 l G r1219 a1222 k1226 (68 : Int32) (101 : Int32) (108 : Int32) (101 : Int32) (116 : Int32) (101 : Int32) (x2 &&& (255 : Int32)) (x3 &&& (255 : Int32)) (x4 &&& (255 : Int32)) h1270 O1276 S1274 A1275 (c8_m _) (c8_m _) (c8_m _)) (wk G 22) (wk G 3)) (wk G 20) (wk G 21) (wk G 3) (wk G 22) pd7 (sz hml) all0 sf00 (D at_99) (k_v 102 rfl ?_)
    rintro _ h1277 ⟨rfl, rfl⟩ K1278
    refine go_stC 103 (i := 2) (x' := (108 : Int32)) (vs' := [(.int 68), (.int 101), (.int 108), (.int 0), (.int 0), (.int 0), (.int 0), (.int 0), (.int 0)]) A1272 (Nat.le_trans O0.2.1 (Nat.le_trans K1260.1 (Nat.le_of_eq g1239))) (by decide) (by decide) rfl (nb rfl) (by decide) rfl (D at_102) rfl (fun h1279 W1280 A1281 => ?_)
    refine go_aload 105 (D at_103) rfl rfl rfl ?_
    refine go_iconst 106 (v := 3) (D at_105) rfl rfl ?_
    refine go_aload 108 (D at_106) rfl rfl rfl ?_
    refine go_aload 110 (D at_108) rfl rfl rfl ?_
    refine go_iconst 111 (v := 3) (D at_110) rfl rfl ?_
    have K1282 : Keep h1217 h1279 [] := (K1273.wr W1280 (Or.inr (Nat.le_trans K1246.1 (Nat.le_of_eq g1239))))
    have S1283 := (f1220.keep K1282)
    have A1284 := (A1275.other W1280 (Nat.ne_of_lt (Nat.lt_of_lt_of_le (Nat.lt_of_lt_of_le A1225.lt K1265.1) (Nat.le_of_eq g1239))))
    refine go_old (fun O1285 => ?_)
    refine callS0 (cells' := 4) (slots' := 40) (Wd := 2) (argsL := [(.ref r1219), (.ref a1222), (.int 3)]) (rest := [(.int 3), (.ref a1238)]) (pay_of (a0 := a0) (c_at6_3 l G r1219 a1222 k1226 (68 : Int32) (101 : Int32) (108 : Int32) (101 : Int32) (116 : Int32) (101 : Int32) (x2 &&& (255 : Int32)) (x3 &&& (255 : Int32)) (x4 &&& (255 : Int32)) h1279 O1285 S1283 A1284 (c8_m _) (c8_m _) (c8_m _)) (wk G 22) (wk G 3)) (wk G 20) (wk G 21) (wk G 3) (wk G 22) pd7 (sz hml) all0 sf00 (D at_111) (k_v 114 rfl ?_)
    rintro _ h1286 ⟨rfl, rfl⟩ K1287
    refine go_stC 115 (i := 3) (x' := (101 : Int32)) (vs' := [(.int 68), (.int 101), (.int 108), (.int 101), (.int 0), (.int 0), (.int 0), (.int 0), (.int 0)]) A1281 (Nat.le_trans O0.2.1 (Nat.le_trans K1260.1 (Nat.le_of_eq g1239))) (by decide) (by decide) rfl (nb rfl) (by decide) rfl (D at_114) rfl (fun h1288 W1289 A1290 => ?_)
    refine go_aload 117 (D at_115) rfl rfl rfl ?_
    refine go_iconst 118 (v := 4) (D at_117) rfl rfl ?_
    refine go_aload 120 (D at_118) rfl rfl rfl ?_
    refine go_aload 122 (D at_120) rfl rfl rfl ?_
    refine go_iconst 123 (v := 4) (D at_122) rfl rfl ?_
    have K1291 : Keep h1217 h1288 [] := (K1282.wr W1289 (Or.inr (Nat.le_trans K1246.1 (Nat.le_of_eq g1239))))
    have S1292 := (f1220.keep K1291)
    have A1293 := (A1284.other W1289 (Nat.ne_of_lt (Nat.lt_of_lt_of_le (Nat.lt_of_lt_of_le A1225.lt K1265.1) (Nat.le_of_eq g1239))))
    refine go_old (fun O1294 => ?_)
    refine callS0 (cells' := 4) (slots' := 40) (Wd := 2) (argsL := [(.ref r1219), (.ref a1222), (.int 4)]) (rest := [(.int 4), (.ref a1238)]) (pay_of (a0 := a0) (c_at6_4 l G r1219 a1222 k1226 (68 : Int32) (101 : Int32) (108 : Int32) (101 : Int32) (116 : Int32) (101 : Int32) (x2 &&& (255 : Int32)) (x3 &&& (255 : Int32)) (x4 &&& (255 : Int32)) h1288 O1294 S1292 A1293 (c8_m _) (c8_m _) (c8_m _)) (wk G 22) (wk G 3)) (wk G 20) (wk G 21) (wk G 3) (wk G 22) pd7 (sz hml) all0 sf00 (D at_123) (k_v 126 rfl ?_)
    rintro _ h1295 ⟨rfl, rfl⟩ K1296
    refine go_stC 127 (i := 4) (x' := (116 : Int32)) (vs' := [(.int 68), (.int 101), (.int 108), (.int 101), (.int 116), (.int 0), (.int 0), (.int 0), (.int 0)]) A1290 (Nat.le_trans O0.2.1 (Nat.le_trans K1260.1 (Nat.le_of_eq g1239))) (by decide) (by decide) rfl (nb rfl) (by decide) rfl (D at_126) rfl (fun h1297 W1298 A1299 => ?_)
    refine go_aload 129 (D at_127) rfl rfl rfl ?_
    refine go_iconst 130 (v := 5) (D at_129) rfl rfl ?_
    refine go_aload 132 (D at_130) rfl rfl rfl ?_
    refine go_aload 134 (D at_132) rfl rfl rfl ?_
    refine go_iconst 135 (v := 5) (D at_134) rfl rfl ?_
    have K1300 : Keep h1217 h1297 [] := (K1291.wr W1298 (Or.inr (Nat.le_trans K1246.1 (Nat.le_of_eq g1239))))
    have S1301 := (f1220.keep K1300)
    have A1302 := (A1293.other W1298 (Nat.ne_of_lt (Nat.lt_of_lt_of_le (Nat.lt_of_lt_of_le A1225.lt K1265.1) (Nat.le_of_eq g1239))))
    refine go_old (fun O1303 => ?_)
    refine callS0 (cells' := 4) (slots' := 40) (Wd := 2) (argsL := [(.ref r1219), (.ref a1222), (.int 5)]) (rest := [(.int 5), (.ref a1238)]) (pay_of (a0 := a0) (c_at6_5 l G r1219 a1222 k1226 (68 : Int32) (101 : Int32) (108 : Int32) (101 : Int32) (116 : Int32) (101 : Int32) (x2 &&& (255 : Int32)) (x3 &&& (255 : Int32)) (x4 &&& (255 : Int32)) h1297 O1303 S1301 A1302 (c8_m _) (c8_m _) (c8_m _)) (wk G 22) (wk G 3)) (wk G 20) (wk G 21) (wk G 3) (wk G 22) pd7 (sz hml) all0 sf00 (D at_135) (k_v 138 rfl ?_)
    rintro _ h1304 ⟨rfl, rfl⟩ K1305
    refine go_stC 139 (i := 5) (x' := (101 : Int32)) (vs' := [(.int 68), (.int 101), (.int 108), (.int 101), (.int 116), (.int 101), (.int 0), (.int 0), (.int 0)]) A1299 (Nat.le_trans O0.2.1 (Nat.le_trans K1260.1 (Nat.le_of_eq g1239))) (by decide) (by decide) rfl (nb rfl) (by decide) rfl (D at_138) rfl (fun h1306 W1307 A1308 => ?_)
    refine go_aload 141 (D at_139) rfl rfl rfl ?_
    refine go_bipush 143 (v := 6) (D at_141) rfl rfl ?_
    refine go_aload 145 (D at_143) rfl rfl rfl ?_
    refine go_aload 147 (D at_145) rfl rfl rfl ?_
    refine go_bipush 149 (v := 6) (D at_147) rfl rfl ?_
    have K1309 : Keep h1217 h1306 [] := (K1300.wr W1307 (Or.inr (Nat.le_trans K1246.1 (Nat.le_of_eq g1239))))
    have S1310 := (f1220.keep K1309)
    have A1311 := (A1302.other W1307 (Nat.ne_of_lt (Nat.lt_of_lt_of_le (Nat.lt_of_lt_of_le A1225.lt K1265.1) (Nat.le_of_eq g1239))))
    refine go_old (fun O1312 => ?_)
    refine callS0 (cells' := 4) (slots' := 40) (Wd := 2) (argsL := [(.ref r1219), (.ref a1222), (.int 6)]) (rest := [(.int 6), (.ref a1238)]) (pay_of (a0 := a0) (c_at6_6 l G r1219 a1222 k1226 (68 : Int32) (101 : Int32) (108 : Int32) (101 : Int32) (116 : Int32) (101 : Int32) (x2 &&& (255 : Int32)) (x3 &&& (255 : Int32)) (x4 &&& (255 : Int32)) h1306 O1312 S1310 A1311 (c8_m _) (c8_m _) (c8_m _)) (wk G 22) (wk G 3)) (wk G 20) (wk G 21) (wk G 3) (wk G 22) pd7 (sz hml) all0 sf00 (D at_149) (k_v 152 rfl ?_)
    rintro _ h1313 ⟨rfl, rfl⟩ K1314
    refine go_stC 153 (i := 6) (x' := (x2 &&& (255 : Int32))) (vs' := [(.int 68), (.int 101), (.int 108), (.int 101), (.int 116), (.int 101), (.int (x2 &&& (255 : Int32))), (.int 0), (.int 0)]) A1308 (Nat.le_trans O0.2.1 (Nat.le_trans K1260.1 (Nat.le_of_eq g1239))) (by decide) (by decide) rfl (nb rfl) (i2c_mask _) rfl (D at_152) rfl (fun h1315 W1316 A1317 => ?_)
    refine go_aload 155 (D at_153) rfl rfl rfl ?_
    refine go_bipush 157 (v := 7) (D at_155) rfl rfl ?_
    refine go_aload 159 (D at_157) rfl rfl rfl ?_
    refine go_aload 161 (D at_159) rfl rfl rfl ?_
    refine go_bipush 163 (v := 7) (D at_161) rfl rfl ?_
    have K1318 : Keep h1217 h1315 [] := (K1309.wr W1316 (Or.inr (Nat.le_trans K1246.1 (Nat.le_of_eq g1239))))
    have S1319 := (f1220.keep K1318)
    have A1320 := (A1311.other W1316 (Nat.ne_of_lt (Nat.lt_of_lt_of_le (Nat.lt_of_lt_of_le A1225.lt K1265.1) (Nat.le_of_eq g1239))))
    refine go_old (fun O1321 => ?_)
    refine callS0 (cells' := 4) (slots' := 40) (Wd := 2) (argsL := [(.ref r1219), (.ref a1222), (.int 7)]) (rest := [(.int 7), (.ref a1238)]) (pay_of (a0 := a0) (c_at6_7 l G r1219 a1222 k1226 (68 : Int32) (101 : Int32) (108 : Int32) (101 : Int32) (116 : Int32) (101 : Int32) (x2 &&& (255 : Int32)) (x3 &&& (255 : Int32)) (x4 &&& (255 : Int32)) h1315 O1321 S1319 A1320 (c8_m _) (c8_m _) (c8_m _)) (wk G 22) (wk G 3)) (wk G 20) (wk G 21) (wk G 3) (wk G 22) pd7 (sz hml) all0 sf00 (D at_163) (k_v 166 rfl ?_)
    rintro _ h1322 ⟨rfl, rfl⟩ K1323
    refine go_stC 167 (i := 7) (x' := (x3 &&& (255 : Int32))) (vs' := [(.int 68), (.int 101), (.int 108), (.int 101), (.int 116), (.int 101), (.int (x2 &&& (255 : Int32))), (.int (x3 &&& (255 : Int32))), (.int 0)]) A1317 (Nat.le_trans O0.2.1 (Nat.le_trans K1260.1 (Nat.le_of_eq g1239))) (by decide) (by decide) rfl (nb rfl) (i2c_mask _) rfl (D at_166) rfl (fun h1324 W1325 A1326 => ?_)
    refine go_aload 169 (D at_167) rfl rfl rfl ?_
    refine go_bipush 171 (v := 8) (D at_169) rfl rfl ?_
    refine go_aload 173 (D at_171) rfl rfl rfl ?_
    refine go_aload 175 (D at_173) rfl rfl rfl ?_
    refine go_bipush 177 (v := 8) (D at_175) rfl rfl ?_
    have K1327 : Keep h1217 h1324 [] := (K1318.wr W1325 (Or.inr (Nat.le_trans K1246.1 (Nat.le_of_eq g1239))))
    have S1328 := (f1220.keep K1327)
    have A1329 := (A1320.other W1325 (Nat.ne_of_lt (Nat.lt_of_lt_of_le (Nat.lt_of_lt_of_le A1225.lt K1265.1) (Nat.le_of_eq g1239))))
    refine go_old (fun O1330 => ?_)
    refine callS0 (cells' := 4) (slots' := 40) (Wd := 2) (argsL := [(.ref r1219), (.ref a1222), (.int 8)]) (rest := [(.int 8), (.ref a1238)]) (pay_of (a0 := a0) (c_at6_8 l G r1219 a1222 k1226 (68 : Int32) (101 : Int32) (108 : Int32) (101 : Int32) (116 : Int32) (101 : Int32) (x2 &&& (255 : Int32)) (x3 &&& (255 : Int32)) (x4 &&& (255 : Int32)) h1324 O1330 S1328 A1329 (c8_m _) (c8_m _) (c8_m _)) (wk G 22) (wk G 3)) (wk G 20) (wk G 21) (wk G 3) (wk G 22) pd7 (sz hml) all0 sf00 (D at_177) (k_v 180 rfl ?_)
    rintro _ h1331 ⟨rfl, rfl⟩ K1332
    refine go_stC 181 (i := 8) (x' := (x4 &&& (255 : Int32))) (vs' := [(.int 68), (.int 101), (.int 108), (.int 101), (.int 116), (.int 101), (.int (x2 &&& (255 : Int32))), (.int (x3 &&& (255 : Int32))), (.int (x4 &&& (255 : Int32)))]) A1326 (Nat.le_trans O0.2.1 (Nat.le_trans K1260.1 (Nat.le_of_eq g1239))) (by decide) (by decide) rfl (nb rfl) (i2c_mask _) rfl (D at_180) rfl (fun h1333 W1334 A1335 => ?_)
    rcases and4 x1 with q1336 | q1336 | q1336 | q1336
    · rw [q1336]
      refine go_aload 183 (D at_181) rfl rfl rfl ?_
      refine go_aload 185 (D at_183) rfl rfl rfl ?_
      have K1337 : Keep h1217 h1333 [] := (K1327.wr W1334 (Or.inr (Nat.le_trans K1246.1 (Nat.le_of_eq g1239))))
      have S1338 := (f1220.keep K1337)
      refine go_old (fun O1339 => ?_)
      have E1340 := (f1220.exa.keep K1337)
      refine callV0 (cells' := 4) (slots' := 40) (Wd := 1) (argsL := []) (rest := [(.ref a1238)]) (pay_len G O1339 (n := (6 : Int32)) S1338 rfl (by decide) (by decide)) E1340 (wk G 23) (wk G 24) (wk G 26) (wk G 26) (wk G 25) pd5 (sz hml) all0 sf00 (D at_185) (k_v 188 rfl ?_)
      rintro _ _ ⟨rfl, rfl⟩ -
      refine go_iload 190 (D at_188) rfl rfl ?_
      refine go_iadd 191 (z := (6 : Int32)) (D at_190) rfl (by decide) ?_
      refine callS0 (cells' := 7) (slots' := 56) (Wd := 0) (argsL := [(.ref a1238), (.int 6)]) (rest := []) (pay_of (a0 := a0) (c_take9_6 l G a1238 k1242 (68 : Int32) (101 : Int32) (108 : Int32) (101 : Int32) (116 : Int32) (101 : Int32) (x2 &&& (255 : Int32)) (x3 &&& (255 : Int32)) (x4 &&& (255 : Int32)) h1333 O1339 A1335 (by decide) (by decide) (by decide) (by decide) (by decide) (by decide)) (wk G 60) (wk G 3)) (wk G 58) (wk G 59) (wk G 3) (wk G 60) pd9 (sz hml) all0 sf00 (D at_191) (k_v 194 rfl ?_)
      rintro _ h1341 ⟨r1343, rfl, f1344, f1345⟩ K1342
      refine go_astore 196 (ls' := #[vi x0, vi x1, vi x2, vi x3, vi x4, vi 4, vi 0, vr (s_DELETE Z), vr r1219, vr a1222, vr a1238, vr r1343, un, un]) (D at_194) rfl rfl rfl ?_
      refine go_aload 198 (D at_196) rfl rfl rfl ?_
      refine go_iload 200 (D at_198) rfl rfl ?_
      have A1346 := ((A1329.other W1334 (Nat.ne_of_lt (Nat.lt_of_lt_of_le (Nat.lt_of_lt_of_le A1225.lt K1265.1) (Nat.le_of_eq g1239)))).keep K1342 nin0)
      refine go_old (fun O1347 => ?_)
      refine callSW0 rfl (cells' := 13) (slots' := 68) (Wd := 0) (argsL := [(.ref a1222), (.int 0)]) (rest := []) (payW_of (a0 := a0) (c_take3_0 l G a1222 k1226 (x2 &&& (255 : Int32)) (x3 &&& (255 : Int32)) (x4 &&& (255 : Int32)) h1341 O1347 A1346) (wk G 60) (wk G 3) (ew1 G)) (wk G 58) (wk G 59) (wk G 3) (wk G 60) pd9 (sz hml) all0 (D at_200) (k_v 203 rfl ?_)
      rintro _ h1348 ⟨r1350, rfl, f1351, f1352⟩ K1349
      refine go_astore 205 (ls' := #[vi x0, vi x1, vi x2, vi x3, vi x4, vi 4, vi 0, vr (s_DELETE Z), vr r1219, vr a1222, vr a1238, vr r1343, vr r1350, un]) (D at_203) rfl rfl rfl ?_
      refine go_aload 207 (D at_205) rfl rfl rfl ?_
      refine go_aload 209 (D at_207) rfl rfl rfl ?_
      refine go_old (fun O1354 => ?_)
      have Z1353 := F34.ext O1354.2
      have Z1355 := S35.ext O1354.2
      have K1356 : Keep h1341 h1348 [] := ((Keep.refl h1341 []).trans K1349 all0)
      have S1357 := (f1345.keep K1356)
      have Z1358 := (se_DELETE G).2.ext O1354.2
      refine callVW0 rfl (cells' := 15) (slots' := 72) (Wd := 0) (argsL := [(.ref r1343)]) (rest := []) (payW_of (a0 := a0) (c_noun6_6 l G (s_DELETE Z) r1343 (w_DELETE Z) y28 y29 y30 y31 y32 y33 (68 : Int32) (101 : Int32) (108 : Int32) (101 : Int32) (116 : Int32) (101 : Int32) h1348 O1354 Z1353 Z1355 S1357) (wk G 86) (wk G 6) (ew1 G)) Z1358 (wk G 82) (wk G 83) (wk G 85) (wk G 85) (wk G 84) pd14 (sz hml) all0 (D at_209) (k_v 212 rfl ?_)
      rintro _ h1359 ⟨r1361, rfl, f1362⟩ K1360
      refine go_astore 214 (ls' := #[vi x0, vi x1, vi x2, vi x3, vi x4, vi 4, vi 0, vr (s_DELETE Z), vr r1219, vr a1222, vr a1238, vr r1343, vr r1350, vr r1361]) (D at_212) rfl rfl rfl ?_
      refine go_aload 216 (D at_214) rfl rfl rfl ?_
      refine go_aload 218 (D at_216) rfl rfl rfl ?_
      have K1363 : Keep h1348 h1359 [] := ((Keep.refl h1348 []).trans K1360 all0)
      have S1364 := (f1352.keep K1363)
      refine go_old (fun O1365 => ?_)
      refine callV0 (cells' := 15) (slots' := 72) (Wd := 0) (argsL := [(.ref r1350)]) (rest := []) (pay_eq G O1365 f1362 S1364 (by decide) (by decide)) f1362.exa (wk G 132) (wk G 133) (wk G 135) (wk G 135) (wk G 134) pd15 (sz hml) all0 sf00 (D at_218) (k_v 221 rfl ?_)
      rintro _ _ (⟨rfl, q1366, rfl⟩ | ⟨rfl, q1366, rfl⟩) -
      rotate_left 1
      · exact absurd rfl q1366
      have K1367 : Keep h0 h1237 [] := (K1260.ext X1240)
      have K1368 : Keep h0 h1254 [] := (K1367.wr W1255 (Or.inr (Nat.le_trans K1260.1 (Nat.le_of_eq g1239))))
      have K1369 : Keep h0 h1270 [] := (K1368.wr W1271 (Or.inr (Nat.le_trans K1260.1 (Nat.le_of_eq g1239))))
      have K1370 : Keep h0 h1279 [] := (K1369.wr W1280 (Or.inr (Nat.le_trans K1260.1 (Nat.le_of_eq g1239))))
      have K1371 : Keep h0 h1288 [] := (K1370.wr W1289 (Or.inr (Nat.le_trans K1260.1 (Nat.le_of_eq g1239))))
      have K1372 : Keep h0 h1297 [] := (K1371.wr W1298 (Or.inr (Nat.le_trans K1260.1 (Nat.le_of_eq g1239))))
      have K1373 : Keep h0 h1306 [] := (K1372.wr W1307 (Or.inr (Nat.le_trans K1260.1 (Nat.le_of_eq g1239))))
      have K1374 : Keep h0 h1315 [] := (K1373.wr W1316 (Or.inr (Nat.le_trans K1260.1 (Nat.le_of_eq g1239))))
      have K1375 : Keep h0 h1324 [] := (K1374.wr W1325 (Or.inr (Nat.le_trans K1260.1 (Nat.le_of_eq g1239))))
      have K1376 : Keep h0 h1333 [] := (K1375.wr W1334 (Or.inr (Nat.le_trans K1260.1 (Nat.le_of_eq g1239))))
      have K1377 : Keep h0 h1341 [] := (K1376.trans K1342 all0)
      have K1378 : Keep h0 h1348 [] := (K1377.trans K1349 all0)
      have K1379 : Keep h0 h1359 [] := (K1378.trans K1360 all0)
      refine go_ireturn hret hlk rfl (by simp) (D at_221) (by decide) (by decide) ⟨_, rfl, rfl⟩ K1379
    · rw [q1336]
      refine go_aload 183 (D at_181) rfl rfl rfl ?_
      refine go_aload 185 (D at_183) rfl rfl rfl ?_
      have K1380 : Keep h1217 h1333 [] := (K1327.wr W1334 (Or.inr (Nat.le_trans K1246.1 (Nat.le_of_eq g1239))))
      have S1381 := (f1220.keep K1380)
      refine go_old (fun O1382 => ?_)
      have E1383 := (f1220.exa.keep K1380)
      refine callV0 (cells' := 4) (slots' := 40) (Wd := 1) (argsL := []) (rest := [(.ref a1238)]) (pay_len G O1382 (n := (6 : Int32)) S1381 rfl (by decide) (by decide)) E1383 (wk G 23) (wk G 24) (wk G 26) (wk G 26) (wk G 25) pd5 (sz hml) all0 sf00 (D at_185) (k_v 188 rfl ?_)
      rintro _ _ ⟨rfl, rfl⟩ -
      refine go_iload 190 (D at_188) rfl rfl ?_
      refine go_iadd 191 (z := (7 : Int32)) (D at_190) rfl (by decide) ?_
      refine callS0 (cells' := 7) (slots' := 58) (Wd := 0) (argsL := [(.ref a1238), (.int 7)]) (rest := []) (pay_of (a0 := a0) (c_take9_7 l G a1238 k1242 (68 : Int32) (101 : Int32) (108 : Int32) (101 : Int32) (116 : Int32) (101 : Int32) (x2 &&& (255 : Int32)) (x3 &&& (255 : Int32)) (x4 &&& (255 : Int32)) h1333 O1382 A1335 (by decide) (by decide) (by decide) (by decide) (by decide) (by decide) (c8_m _)) (wk G 60) (wk G 3)) (wk G 58) (wk G 59) (wk G 3) (wk G 60) pd9 (sz hml) all0 sf00 (D at_191) (k_v 194 rfl ?_)
      rintro _ h1384 ⟨r1386, rfl, f1387, f1388⟩ K1385
      refine go_astore 196 (ls' := #[vi x0, vi x1, vi x2, vi x3, vi x4, vi 4, vi 1, vr (s_DELETE Z), vr r1219, vr a1222, vr a1238, vr r1386, un, un]) (D at_194) rfl rfl rfl ?_
      refine go_aload 198 (D at_196) rfl rfl rfl ?_
      refine go_iload 200 (D at_198) rfl rfl ?_
      have A1389 := ((A1329.other W1334 (Nat.ne_of_lt (Nat.lt_of_lt_of_le (Nat.lt_of_lt_of_le A1225.lt K1265.1) (Nat.le_of_eq g1239)))).keep K1385 nin0)
      refine go_old (fun O1390 => ?_)
      refine callS0 (cells' := 10) (slots' := 64) (Wd := 0) (argsL := [(.ref a1222), (.int 1)]) (rest := []) (pay_of (a0 := a0) (c_take3_1 l G a1222 k1226 (x2 &&& (255 : Int32)) (x3 &&& (255 : Int32)) (x4 &&& (255 : Int32)) h1384 O1390 A1389 (c8_m _)) (wk G 60) (wk G 3)) (wk G 58) (wk G 59) (wk G 3) (wk G 60) pd9 (sz hml) all0 sf00 (D at_200) (k_v 203 rfl ?_)
      rintro _ h1391 ⟨r1393, rfl, f1394, f1395⟩ K1392
      refine go_astore 205 (ls' := #[vi x0, vi x1, vi x2, vi x3, vi x4, vi 4, vi 1, vr (s_DELETE Z), vr r1219, vr a1222, vr a1238, vr r1386, vr r1393, un]) (D at_203) rfl rfl rfl ?_
      refine go_aload 207 (D at_205) rfl rfl rfl ?_
      refine go_aload 209 (D at_207) rfl rfl rfl ?_
      refine go_old (fun O1397 => ?_)
      have Z1396 := F34.ext O1397.2
      have Z1398 := S35.ext O1397.2
      have K1399 : Keep h1384 h1391 [] := ((Keep.refl h1384 []).trans K1392 all0)
      have S1400 := (f1388.keep K1399)
      have Z1401 := (se_DELETE G).2.ext O1397.2
      refine callV0 (cells' := 12) (slots' := 69) (Wd := 0) (argsL := [(.ref r1386)]) (rest := []) (pay_of (a0 := a0) (c_noun6_7 l G (s_DELETE Z) r1386 (w_DELETE Z) y28 y29 y30 y31 y32 y33 (68 : Int32) (101 : Int32) (108 : Int32) (101 : Int32) (116 : Int32) (101 : Int32) (x2 &&& (255 : Int32)) h1391 O1397 Z1396 Z1398 S1400) (wk G 86) (wk G 6)) Z1401 (wk G 82) (wk G 83) (wk G 85) (wk G 85) (wk G 84) pd14 (sz hml) all0 sf00 (D at_209) (k_v 212 rfl ?_)
      rintro _ h1402 ⟨r1404, rfl, f1405⟩ K1403
      refine go_astore 214 (ls' := #[vi x0, vi x1, vi x2, vi x3, vi x4, vi 4, vi 1, vr (s_DELETE Z), vr r1219, vr a1222, vr a1238, vr r1386, vr r1393, vr r1404]) (D at_212) rfl rfl rfl ?_
      refine go_aload 216 (D at_214) rfl rfl rfl ?_
      refine go_aload 218 (D at_216) rfl rfl rfl ?_
      have K1406 : Keep h1391 h1402 [] := ((Keep.refl h1391 []).trans K1403 all0)
      have S1407 := (f1395.keep K1406)
      refine go_old (fun O1408 => ?_)
      refine callV0 (cells' := 12) (slots' := 69) (Wd := 0) (argsL := [(.ref r1393)]) (rest := []) (pay_eq G O1408 f1405 S1407 (by decide) (by decide)) f1405.exa (wk G 132) (wk G 133) (wk G 135) (wk G 135) (wk G 134) pd15 (sz hml) all0 sf00 (D at_218) (k_v 221 rfl ?_)
      rintro _ _ (⟨rfl, q1409, rfl⟩ | ⟨rfl, q1409, rfl⟩) -
      rotate_left 1
      · exact absurd rfl q1409
      have K1410 : Keep h0 h1237 [] := (K1260.ext X1240)
      have K1411 : Keep h0 h1254 [] := (K1410.wr W1255 (Or.inr (Nat.le_trans K1260.1 (Nat.le_of_eq g1239))))
      have K1412 : Keep h0 h1270 [] := (K1411.wr W1271 (Or.inr (Nat.le_trans K1260.1 (Nat.le_of_eq g1239))))
      have K1413 : Keep h0 h1279 [] := (K1412.wr W1280 (Or.inr (Nat.le_trans K1260.1 (Nat.le_of_eq g1239))))
      have K1414 : Keep h0 h1288 [] := (K1413.wr W1289 (Or.inr (Nat.le_trans K1260.1 (Nat.le_of_eq g1239))))
      have K1415 : Keep h0 h1297 [] := (K1414.wr W1298 (Or.inr (Nat.le_trans K1260.1 (Nat.le_of_eq g1239))))
      have K1416 : Keep h0 h1306 [] := (K1415.wr W1307 (Or.inr (Nat.le_trans K1260.1 (Nat.le_of_eq g1239))))
      have K1417 : Keep h0 h1315 [] := (K1416.wr W1316 (Or.inr (Nat.le_trans K1260.1 (Nat.le_of_eq g1239))))
      have K1418 : Keep h0 h1324 [] := (K1417.wr W1325 (Or.inr (Nat.le_trans K1260.1 (Nat.le_of_eq g1239))))
      have K1419 : Keep h0 h1333 [] := (K1418.wr W1334 (Or.inr (Nat.le_trans K1260.1 (Nat.le_of_eq g1239))))
      have K1420 : Keep h0 h1384 [] := (K1419.trans K1385 all0)
      have K1421 : Keep h0 h1391 [] := (K1420.trans K1392 all0)
      have K1422 : Keep h0 h1402 [] := (K1421.trans K1403 all0)
      refine go_ireturn hret hlk rfl (by simp) (D at_221) (by decide) (by decide) ⟨_, rfl, rfl⟩ K1422
    · rw [q1336]
      refine go_aload 183 (D at_181) rfl rfl rfl ?_
      refine go_aload 185 (D at_183) rfl rfl rfl ?_
      have K1423 : Keep h1217 h1333 [] := (K1327.wr W1334 (Or.inr (Nat.le_trans K1246.1 (Nat.le_of_eq g1239))))
      have S1424 := (f1220.keep K1423)
      refine go_old (fun O1425 => ?_)
      have E1426 := (f1220.exa.keep K1423)
      refine callV0 (cells' := 4) (slots' := 40) (Wd := 1) (argsL := []) (rest := [(.ref a1238)]) (pay_len G O1425 (n := (6 : Int32)) S1424 rfl (by decide) (by decide)) E1426 (wk G 23) (wk G 24) (wk G 26) (wk G 26) (wk G 25) pd5 (sz hml) all0 sf00 (D at_185) (k_v 188 rfl ?_)
      rintro _ _ ⟨rfl, rfl⟩ -
      refine go_iload 190 (D at_188) rfl rfl ?_
      refine go_iadd 191 (z := (8 : Int32)) (D at_190) rfl (by decide) ?_
      refine callS0 (cells' := 7) (slots' := 60) (Wd := 0) (argsL := [(.ref a1238), (.int 8)]) (rest := []) (pay_of (a0 := a0) (c_take9_8 l G a1238 k1242 (68 : Int32) (101 : Int32) (108 : Int32) (101 : Int32) (116 : Int32) (101 : Int32) (x2 &&& (255 : Int32)) (x3 &&& (255 : Int32)) (x4 &&& (255 : Int32)) h1333 O1425 A1335 (by decide) (by decide) (by decide) (by decide) (by decide) (by decide) (c8_m _) (c8_m _)) (wk G 60) (wk G 3)) (wk G 58) (wk G 59) (wk G 3) (wk G 60) pd9 (sz hml) all0 sf00 (D at_191) (k_v 194 rfl ?_)
      rintro _ h1427 ⟨r1429, rfl, f1430, f1431⟩ K1428
      refine go_astore 196 (ls' := #[vi x0, vi x1, vi x2, vi x3, vi x4, vi 4, vi 2, vr (s_DELETE Z), vr r1219, vr a1222, vr a1238, vr r1429, un, un]) (D at_194) rfl rfl rfl ?_
      refine go_aload 198 (D at_196) rfl rfl rfl ?_
      refine go_iload 200 (D at_198) rfl rfl ?_
      have A1432 := ((A1329.other W1334 (Nat.ne_of_lt (Nat.lt_of_lt_of_le (Nat.lt_of_lt_of_le A1225.lt K1265.1) (Nat.le_of_eq g1239)))).keep K1428 nin0)
      refine go_old (fun O1433 => ?_)
      refine callS0 (cells' := 10) (slots' := 68) (Wd := 0) (argsL := [(.ref a1222), (.int 2)]) (rest := []) (pay_of (a0 := a0) (c_take3_2 l G a1222 k1226 (x2 &&& (255 : Int32)) (x3 &&& (255 : Int32)) (x4 &&& (255 : Int32)) h1427 O1433 A1432 (c8_m _) (c8_m _)) (wk G 60) (wk G 3)) (wk G 58) (wk G 59) (wk G 3) (wk G 60) pd9 (sz hml) all0 sf00 (D at_200) (k_v 203 rfl ?_)
      rintro _ h1434 ⟨r1436, rfl, f1437, f1438⟩ K1435
      refine go_astore 205 (ls' := #[vi x0, vi x1, vi x2, vi x3, vi x4, vi 4, vi 2, vr (s_DELETE Z), vr r1219, vr a1222, vr a1238, vr r1429, vr r1436, un]) (D at_203) rfl rfl rfl ?_
      refine go_aload 207 (D at_205) rfl rfl rfl ?_
      refine go_aload 209 (D at_207) rfl rfl rfl ?_
      refine go_old (fun O1440 => ?_)
      have Z1439 := F34.ext O1440.2
      have Z1441 := S35.ext O1440.2
      have K1442 : Keep h1427 h1434 [] := ((Keep.refl h1427 []).trans K1435 all0)
      have S1443 := (f1431.keep K1442)
      have Z1444 := (se_DELETE G).2.ext O1440.2
      refine callV0 (cells' := 12) (slots' := 74) (Wd := 0) (argsL := [(.ref r1429)]) (rest := []) (pay_of (a0 := a0) (c_noun6_8 l G (s_DELETE Z) r1429 (w_DELETE Z) y28 y29 y30 y31 y32 y33 (68 : Int32) (101 : Int32) (108 : Int32) (101 : Int32) (116 : Int32) (101 : Int32) (x2 &&& (255 : Int32)) (x3 &&& (255 : Int32)) h1434 O1440 Z1439 Z1441 S1443) (wk G 86) (wk G 6)) Z1444 (wk G 82) (wk G 83) (wk G 85) (wk G 85) (wk G 84) pd14 (sz hml) all0 sf00 (D at_209) (k_v 212 rfl ?_)
      rintro _ h1445 ⟨r1447, rfl, f1448⟩ K1446
      refine go_astore 214 (ls' := #[vi x0, vi x1, vi x2, vi x3, vi x4, vi 4, vi 2, vr (s_DELETE Z), vr r1219, vr a1222, vr a1238, vr r1429, vr r1436, vr r1447]) (D at_212) rfl rfl rfl ?_
      refine go_aload 216 (D at_214) rfl rfl rfl ?_
      refine go_aload 218 (D at_216) rfl rfl rfl ?_
      have K1449 : Keep h1434 h1445 [] := ((Keep.refl h1434 []).trans K1446 all0)
      have S1450 := (f1438.keep K1449)
      refine go_old (fun O1451 => ?_)
      refine callV0 (cells' := 12) (slots' := 74) (Wd := 0) (argsL := [(.ref r1436)]) (rest := []) (pay_eq G O1451 f1448 S1450 (by decide) (by decide)) f1448.exa (wk G 132) (wk G 133) (wk G 135) (wk G 135) (wk G 134) pd15 (sz hml) all0 sf00 (D at_218) (k_v 221 rfl ?_)
      rintro _ _ (⟨rfl, q1452, rfl⟩ | ⟨rfl, q1452, rfl⟩) -
      rotate_left 1
      · exact absurd rfl q1452
      have K1453 : Keep h0 h1237 [] := (K1260.ext X1240)
      have K1454 : Keep h0 h1254 [] := (K1453.wr W1255 (Or.inr (Nat.le_trans K1260.1 (Nat.le_of_eq g1239))))
      have K1455 : Keep h0 h1270 [] := (K1454.wr W1271 (Or.inr (Nat.le_trans K1260.1 (Nat.le_of_eq g1239))))
      have K1456 : Keep h0 h1279 [] := (K1455.wr W1280 (Or.inr (Nat.le_trans K1260.1 (Nat.le_of_eq g1239))))
      have K1457 : Keep h0 h1288 [] := (K1456.wr W1289 (Or.inr (Nat.le_trans K1260.1 (Nat.le_of_eq g1239))))
      have K1458 : Keep h0 h1297 [] := (K1457.wr W1298 (Or.inr (Nat.le_trans K1260.1 (Nat.le_of_eq g1239))))
      have K1459 : Keep h0 h1306 [] := (K1458.wr W1307 (Or.inr (Nat.le_trans K1260.1 (Nat.le_of_eq g1239))))
      have K1460 : Keep h0 h1315 [] := (K1459.wr W1316 (Or.inr (Nat.le_trans K1260.1 (Nat.le_of_eq g1239))))
      have K1461 : Keep h0 h1324 [] := (K1460.wr W1325 (Or.inr (Nat.le_trans K1260.1 (Nat.le_of_eq g1239))))
      have K1462 : Keep h0 h1333 [] := (K1461.wr W1334 (Or.inr (Nat.le_trans K1260.1 (Nat.le_of_eq g1239))))
      have K1463 : Keep h0 h1427 [] := (K1462.trans K1428 all0)
      have K1464 : Keep h0 h1434 [] := (K1463.trans K1435 all0)
      have K1465 : Keep h0 h1445 [] := (K1464.trans K1446 all0)
      refine go_ireturn hret hlk rfl (by simp) (D at_221) (by decide) (by decide) ⟨_, rfl, rfl⟩ K1465
    · rw [q1336]
      refine go_aload 183 (D at_181) rfl rfl rfl ?_
      refine go_aload 185 (D at_183) rfl rfl rfl ?_
      have K1466 : Keep h1217 h1333 [] := (K1327.wr W1334 (Or.inr (Nat.le_trans K1246.1 (Nat.le_of_eq g1239))))
      have S1467 := (f1220.keep K1466)
      refine go_old (fun O1468 => ?_)
      have E1469 := (f1220.exa.keep K1466)
      refine callV0 (cells' := 4) (slots' := 40) (Wd := 1) (argsL := []) (rest := [(.ref a1238)]) (pay_len G O1468 (n := (6 : Int32)) S1467 rfl (by decide) (by decide)) E1469 (wk G 23) (wk G 24) (wk G 26) (wk G 26) (wk G 25) pd5 (sz hml) all0 sf00 (D at_185) (k_v 188 rfl ?_)
      rintro _ _ ⟨rfl, rfl⟩ -
      refine go_iload 190 (D at_188) rfl rfl ?_
      refine go_iadd 191 (z := (9 : Int32)) (D at_190) rfl (by decide) ?_
      refine callS0 (cells' := 7) (slots' := 62) (Wd := 0) (argsL := [(.ref a1238), (.int 9)]) (rest := []) (pay_of (a0 := a0) (c_take9_9 l G a1238 k1242 (68 : Int32) (101 : Int32) (108 : Int32) (101 : Int32) (116 : Int32) (101 : Int32) (x2 &&& (255 : Int32)) (x3 &&& (255 : Int32)) (x4 &&& (255 : Int32)) h1333 O1468 A1335 (by decide) (by decide) (by decide) (by decide) (by decide) (by decide) (c8_m _) (c8_m _) (c8_m _)) (wk G 60) (wk G 3)) (wk G 58) (wk G 59) (wk G 3) (wk G 60) pd9 (sz hml) all0 sf00 (D at_191) (k_v 194 rfl ?_)
      rintro _ h1470 ⟨r1472, rfl, f1473, f1474⟩ K1471
      refine go_astore 196 (ls' := #[vi x0, vi x1, vi x2, vi x3, vi x4, vi 4, vi 3, vr (s_DELETE Z), vr r1219, vr a1222, vr a1238, vr r1472, un, un]) (D at_194) rfl rfl rfl ?_
      refine go_aload 198 (D at_196) rfl rfl rfl ?_
      refine go_iload 200 (D at_198) rfl rfl ?_
      have A1475 := ((A1329.other W1334 (Nat.ne_of_lt (Nat.lt_of_lt_of_le (Nat.lt_of_lt_of_le A1225.lt K1265.1) (Nat.le_of_eq g1239)))).keep K1471 nin0)
      refine go_old (fun O1476 => ?_)
      refine callS0 (cells' := 10) (slots' := 72) (Wd := 0) (argsL := [(.ref a1222), (.int 3)]) (rest := []) (pay_of (a0 := a0) (c_take3_3 l G a1222 k1226 (x2 &&& (255 : Int32)) (x3 &&& (255 : Int32)) (x4 &&& (255 : Int32)) h1470 O1476 A1475 (c8_m _) (c8_m _) (c8_m _)) (wk G 60) (wk G 3)) (wk G 58) (wk G 59) (wk G 3) (wk G 60) pd9 (sz hml) all0 sf00 (D at_200) (k_v 203 rfl ?_)
      rintro _ h1477 ⟨r1479, rfl, f1480, f1481⟩ K1478
      refine go_astore 205 (ls' := #[vi x0, vi x1, vi x2, vi x3, vi x4, vi 4, vi 3, vr (s_DELETE Z), vr r1219, vr a1222, vr a1238, vr r1472, vr r1479, un]) (D at_203) rfl rfl rfl ?_
      refine go_aload 207 (D at_205) rfl rfl rfl ?_
      refine go_aload 209 (D at_207) rfl rfl rfl ?_
      refine go_old (fun O1483 => ?_)
      have Z1482 := F34.ext O1483.2
      have Z1484 := S35.ext O1483.2
      have K1485 : Keep h1470 h1477 [] := ((Keep.refl h1470 []).trans K1478 all0)
      have S1486 := (f1474.keep K1485)
      have Z1487 := (se_DELETE G).2.ext O1483.2
      refine callV0 (cells' := 12) (slots' := 79) (Wd := 0) (argsL := [(.ref r1472)]) (rest := []) (pay_of (a0 := a0) (c_noun6_9 l G (s_DELETE Z) r1472 (w_DELETE Z) y28 y29 y30 y31 y32 y33 (68 : Int32) (101 : Int32) (108 : Int32) (101 : Int32) (116 : Int32) (101 : Int32) (x2 &&& (255 : Int32)) (x3 &&& (255 : Int32)) (x4 &&& (255 : Int32)) h1477 O1483 Z1482 Z1484 S1486) (wk G 86) (wk G 6)) Z1487 (wk G 82) (wk G 83) (wk G 85) (wk G 85) (wk G 84) pd14 (sz hml) all0 sf00 (D at_209) (k_v 212 rfl ?_)
      rintro _ h1488 ⟨r1490, rfl, f1491⟩ K1489
      refine go_astore 214 (ls' := #[vi x0, vi x1, vi x2, vi x3, vi x4, vi 4, vi 3, vr (s_DELETE Z), vr r1219, vr a1222, vr a1238, vr r1472, vr r1479, vr r1490]) (D at_212) rfl rfl rfl ?_
      refine go_aload 216 (D at_214) rfl rfl rfl ?_
      refine go_aload 218 (D at_216) rfl rfl rfl ?_
      have K1492 : Keep h1477 h1488 [] := ((Keep.refl h1477 []).trans K1489 all0)
      have S1493 := (f1481.keep K1492)
      refine go_old (fun O1494 => ?_)
      refine callV0 (cells' := 12) (slots' := 79) (Wd := 0) (argsL := [(.ref r1479)]) (rest := []) (pay_eq G O1494 f1491 S1493 (by decide) (by decide)) f1491.exa (wk G 132) (wk G 133) (wk G 135) (wk G 135) (wk G 134) pd15 (sz hml) all0 sf00 (D at_218) (k_v 221 rfl ?_)
      rintro _ _ (⟨rfl, q1495, rfl⟩ | ⟨rfl, q1495, rfl⟩) -
      rotate_left 1
      · exact absurd rfl q1495
      have K1496 : Keep h0 h1237 [] := (K1260.ext X1240)
      have K1497 : Keep h0 h1254 [] := (K1496.wr W1255 (Or.inr (Nat.le_trans K1260.1 (Nat.le_of_eq g1239))))
      have K1498 : Keep h0 h1270 [] := (K1497.wr W1271 (Or.inr (Nat.le_trans K1260.1 (Nat.le_of_eq g1239))))
      have K1499 : Keep h0 h1279 [] := (K1498.wr W1280 (Or.inr (Nat.le_trans K1260.1 (Nat.le_of_eq g1239))))
      have K1500 : Keep h0 h1288 [] := (K1499.wr W1289 (Or.inr (Nat.le_trans K1260.1 (Nat.le_of_eq g1239))))
      have K1501 : Keep h0 h1297 [] := (K1500.wr W1298 (Or.inr (Nat.le_trans K1260.1 (Nat.le_of_eq g1239))))
      have K1502 : Keep h0 h1306 [] := (K1501.wr W1307 (Or.inr (Nat.le_trans K1260.1 (Nat.le_of_eq g1239))))
      have K1503 : Keep h0 h1315 [] := (K1502.wr W1316 (Or.inr (Nat.le_trans K1260.1 (Nat.le_of_eq g1239))))
      have K1504 : Keep h0 h1324 [] := (K1503.wr W1325 (Or.inr (Nat.le_trans K1260.1 (Nat.le_of_eq g1239))))
      have K1505 : Keep h0 h1333 [] := (K1504.wr W1334 (Or.inr (Nat.le_trans K1260.1 (Nat.le_of_eq g1239))))
      have K1506 : Keep h0 h1470 [] := (K1505.trans K1471 all0)
      have K1507 : Keep h0 h1477 [] := (K1506.trans K1478 all0)
      have K1508 : Keep h0 h1488 [] := (K1507.trans K1489 all0)
      refine go_ireturn hret hlk rfl (by simp) (D at_221) (by decide) (by decide) ⟨_, rfl, rfl⟩ K1508
  · rw [q38]
    refine go_iload 16 (D at_14) rfl rfl ?_
    refine callS0 (cells' := 0) (slots' := 0) (Wd := 0) (argsL := [(.int 5)]) (rest := []) (pay_of (a0 := a0) (c_kind5 l G  h0 O0 ) (wk G 4) (wk G 3)) (wk G 1) (wk G 2) (wk G 3) (wk G 4) pd3 (sz hml) all0 sf00 (D at_16) (k_v 19 rfl ?_)
    rintro _ h1509 ⟨rfl, rfl⟩ K1510
    refine go_astore 21 (ls' := #[vi x0, vi x1, vi x2, vi x3, vi x4, vi 5, vi (x1 &&& (3 : Int32)), vr (s_CUSTOM Z), un, un, un, un, un, un]) (D at_19) rfl rfl rfl ?_
    refine go_iload 23 (D at_21) rfl rfl ?_
    refine callSW0 rfl (cells' := 2) (slots' := 4) (Wd := 0) (argsL := [(.int 5)]) (rest := []) (payW_of (a0 := a0) (c_word5 l G  h0 O0 ) (wk G 10) (wk G 3) (ew1 G)) (wk G 8) (wk G 9) (wk G 3) (wk G 10) pd4 (sz hml) all0 (D at_23) (k_v 26 rfl ?_)
    rintro _ h1511 ⟨r1513, rfl, f1514⟩ K1512
    refine go_astore 28 (ls' := #[vi x0, vi x1, vi x2, vi x3, vi x4, vi 5, vi (x1 &&& (3 : Int32)), vr (s_CUSTOM Z), vr r1513, un, un, un, un, un]) (D at_26) rfl rfl rfl ?_
    refine go_iconst 29 (v := 3) (D at_28) rfl rfl ?_
    refine go_newP 31 (cells' := 3) (slots' := 7) (cap := 3) (vs := [(.int 0), (.int 0), (.int 0)]) (ty := .char) (dv := .int 0) (wk G 19) rfl rfl (D at_29) rfl (by decide) rfl (by decide) rfl rfl rfl (by decide) (by decide) (fun h1515 a1516 k1520 g1517 X1518 A1519 => ?_)
    refine go_dup 32 (D at_31) rfl rfl ?_
    refine go_iconst 33 (v := 0) (D at_32) rfl rfl ?_
    refine go_iload_n 34 (D at_33) rfl rfl ?_
    refine go_sipush 37 (v := 255) (D at_34) rfl rfl ?_
    refine go_iand 38 (z := (x2 &&& (255 : Int32))) (D at_37) rfl rfl ?_
    refine go_i2c 39 (z := (x2 &&& (255 : Int32))) (D at_38) rfl (i2c_mask _) ?_
    have K1524 : Keep h0 h1511 [] := ((Keep.refl h0 []).trans K1512 all0)
    refine go_stC 40 (i := 0) (x' := (x2 &&& (255 : Int32))) (vs' := [(.int (x2 &&& (255 : Int32))), (.int 0), (.int 0)]) A1519 (Nat.le_trans O0.2.1 (Nat.le_trans K1524.1 (Nat.le_of_eq g1517))) (by decide) (by decide) rfl (nb rfl) (i2c_mask _) rfl (D at_39) rfl (fun h1521 W1522 A1523 => ?_)
    refine go_dup 41 (D at_40) rfl rfl ?_
    refine go_iconst 42 (v := 1) (D at_41) rfl rfl ?_
    refine go_iload_n 43 (D at_42) rfl rfl ?_
    refine go_sipush 46 (v := 255) (D at_43) rfl rfl ?_
    refine go_iand 47 (z := (x3 &&& (255 : Int32))) (D at_46) rfl rfl ?_
    refine go_i2c 48 (z := (x3 &&& (255 : Int32))) (D at_47) rfl (i2c_mask _) ?_
    refine go_stC 49 (i := 1) (x' := (x3 &&& (255 : Int32))) (vs' := [(.int (x2 &&& (255 : Int32))), (.int (x3 &&& (255 : Int32))), (.int 0)]) A1523 (Nat.le_trans O0.2.1 (Nat.le_trans K1524.1 (Nat.le_of_eq g1517))) (by decide) (by decide) rfl (nb rfl) (i2c_mask _) rfl (D at_48) rfl (fun h1525 W1526 A1527 => ?_)
    refine go_dup 50 (D at_49) rfl rfl ?_
    refine go_iconst 51 (v := 2) (D at_50) rfl rfl ?_
    refine go_iload 53 (D at_51) rfl rfl ?_
    refine go_sipush 56 (v := 255) (D at_53) rfl rfl ?_
    refine go_iand 57 (z := (x4 &&& (255 : Int32))) (D at_56) rfl rfl ?_
    refine go_i2c 58 (z := (x4 &&& (255 : Int32))) (D at_57) rfl (i2c_mask _) ?_
    refine go_stC 59 (i := 2) (x' := (x4 &&& (255 : Int32))) (vs' := [(.int (x2 &&& (255 : Int32))), (.int (x3 &&& (255 : Int32))), (.int (x4 &&& (255 : Int32)))]) A1527 (Nat.le_trans O0.2.1 (Nat.le_trans K1524.1 (Nat.le_of_eq g1517))) (by decide) (by decide) rfl (nb rfl) (i2c_mask _) rfl (D at_58) rfl (fun h1528 W1529 A1530 => ?_)
    refine go_astore 61 (ls' := #[vi x0, vi x1, vi x2, vi x3, vi x4, vi 5, vi (x1 &&& (3 : Int32)), vr (s_CUSTOM Z), vr r1513, vr a1516, un, un, un, un]) (D at_59) rfl rfl rfl ?_
    refine go_bipush 63 (v := 9) (D at_61) rfl rfl ?_
    refine go_newP 65 (cells' := 4) (slots' := 16) (cap := 9) (vs := [(.int 0), (.int 0), (.int 0), (.int 0), (.int 0), (.int 0), (.int 0), (.int 0), (.int 0)]) (ty := .char) (dv := .int 0) (wk G 19) rfl rfl (D at_63) rfl (by decide) rfl (by decide) rfl rfl rfl (by decide) (by decide) (fun h1531 a1532 k1536 g1533 X1534 A1535 => ?_)
    refine go_astore 67 (ls' := #[vi x0, vi x1, vi x2, vi x3, vi x4, vi 5, vi (x1 &&& (3 : Int32)), vr (s_CUSTOM Z), vr r1513, vr a1516, vr a1532, un, un, un]) (D at_65) rfl rfl rfl ?_
    refine go_aload 69 (D at_67) rfl rfl rfl ?_
    refine go_iconst 70 (v := 0) (D at_69) rfl rfl ?_
    refine go_aload 72 (D at_70) rfl rfl rfl ?_
    refine go_aload 74 (D at_72) rfl rfl rfl ?_
    refine go_iconst 75 (v := 0) (D at_74) rfl rfl ?_
    have K1537 : Keep h1511 h1515 [] := ((Keep.refl h1511 []).ext X1518)
    have K1538 : Keep h1511 h1521 [] := (K1537.wr W1522 (Or.inr (Nat.le_of_eq g1517)))
    have K1539 : Keep h1511 h1525 [] := (K1538.wr W1526 (Or.inr (Nat.le_of_eq g1517)))
    have K1540 : Keep h1511 h1528 [] := (K1539.wr W1529 (Or.inr (Nat.le_of_eq g1517)))
    have K1541 : Keep h1511 h1531 [] := (K1540.ext X1534)
    have S1542 := (f1514.keep K1541)
    have K1543 : Keep h1528 h1531 [] := ((Keep.refl h1528 []).ext X1534)
    have A1544 := (A1530.keep K1543 nin0)
    refine go_old (fun O1545 => ?_)
    refine callS0 (cells' := 4) (slots' := 16) (Wd := 2) (argsL := [(.ref r1513), (.ref a1516), (.int 0)]) (rest := [(.int 0), (.ref a1532)]) (pay_of (a0 := a0) (c_at0_0 l G r1513 a1516 k1520 (x2 &&& (255 : Int32)) (x3 &&& (255 : Int32)) (x4 &&& (255 : Int32)) h1531 O1545 S1542 A1544 (c8_m _) (c8_m _) (c8_m _)) (wk G 22) (wk G 3)) (wk G 20) (wk G 21) (wk G 3) (wk G 22) pd7 (sz hml) all0 sf00 (D at_75) (k_v 78 rfl ?_)
    rintro _ h1546 ⟨rfl, rfl⟩ K1547
    have K1551 : Keep h0 h1515 [] := (K1524.ext X1518)
    have K1552 : Keep h0 h1521 [] := (K1551.wr W1522 (Or.inr (Nat.le_trans K1524.1 (Nat.le_of_eq g1517))))
    have K1553 : Keep h0 h1525 [] := (K1552.wr W1526 (Or.inr (Nat.le_trans K1524.1 (Nat.le_of_eq g1517))))
    have K1554 : Keep h0 h1528 [] := (K1553.wr W1529 (Or.inr (Nat.le_trans K1524.1 (Nat.le_of_eq g1517))))
    refine go_stC 79 (i := 0) (x' := (x2 &&& (255 : Int32))) (vs' := [(.int (x2 &&& (255 : Int32))), (.int 0), (.int 0), (.int 0), (.int 0), (.int 0), (.int 0), (.int 0), (.int 0)]) A1535 (Nat.le_trans O0.2.1 (Nat.le_trans K1554.1 (Nat.le_of_eq g1533))) (by decide) (by decide) rfl (nb rfl) (i2c_mask _) rfl (D at_78) rfl (fun h1548 W1549 A1550 => ?_)
    refine go_aload 81 (D at_79) rfl rfl rfl ?_
    refine go_iconst 82 (v := 1) (D at_81) rfl rfl ?_
    refine go_aload 84 (D at_82) rfl rfl rfl ?_
    refine go_aload 86 (D at_84) rfl rfl rfl ?_
    refine go_iconst 87 (v := 1) (D at_86) rfl rfl ?_
    have K1555 : Keep h1511 h1548 [] := (K1541.wr W1549 (Or.inr (Nat.le_trans K1540.1 (Nat.le_of_eq g1533))))
    have S1556 := (f1514.keep K1555)
    have K1557 : Keep h1515 h1521 [a1516] := ((Keep.refl h1515 [a1516]).wr W1522 (Or.inl (by simp)))
    have K1558 : Keep h1515 h1525 [a1516] := (K1557.wr W1526 (Or.inl (by simp)))
    have K1559 : Keep h1515 h1528 [a1516] := (K1558.wr W1529 (Or.inl (by simp)))
    have A1560 := (A1544.other W1549 (Nat.ne_of_lt (Nat.lt_of_lt_of_le (Nat.lt_of_lt_of_le A1519.lt K1559.1) (Nat.le_of_eq g1533))))
    refine go_old (fun O1561 => ?_)
    refine callS0 (cells' := 4) (slots' := 16) (Wd := 2) (argsL := [(.ref r1513), (.ref a1516), (.int 1)]) (rest := [(.int 1), (.ref a1532)]) (pay_of (a0 := a0) (c_at0_1 l G r1513 a1516 k1520 (x2 &&& (255 : Int32)) (x3 &&& (255 : Int32)) (x4 &&& (255 : Int32)) h1548 O1561 S1556 A1560 (c8_m _) (c8_m _) (c8_m _)) (wk G 22) (wk G 3)) (wk G 20) (wk G 21) (wk G 3) (wk G 22) pd7 (sz hml) all0 sf00 (D at_87) (k_v 90 rfl ?_)
    rintro _ h1562 ⟨rfl, rfl⟩ K1563
    refine go_stC 91 (i := 1) (x' := (x3 &&& (255 : Int32))) (vs' := [(.int (x2 &&& (255 : Int32))), (.int (x3 &&& (255 : Int32))), (.int 0), (.int 0), (.int 0), (.int 0), (.int 0), (.int 0), (.int 0)]) A1550 (Nat.le_trans O0.2.1 (Nat.le_trans K1554.1 (Nat.le_of_eq g1533))) (by decide) (by decide) rfl (nb rfl) (i2c_mask _) rfl (D at_90) rfl (fun h1564 W1565 A1566 => ?_)
    refine go_aload 93 (D at_91) rfl rfl rfl ?_
    refine go_iconst 94 (v := 2) (D at_93) rfl rfl ?_
    refine go_aload 96 (D at_94) rfl rfl rfl ?_
    refine go_aload 98 (D at_96) rfl rfl rfl ?_
    refine go_iconst 99 (v := 2) (D at_98) rfl rfl ?_
    have K1567 : Keep h1511 h1564 [] := (K1555.wr W1565 (Or.inr (Nat.le_trans K1540.1 (Nat.le_of_eq g1533))))
    have S1568 := (f1514.keep K1567)
    have A1569 := (A1560.other W1565 (Nat.ne_of_lt (Nat.lt_of_lt_of_le (Nat.lt_of_lt_of_le A1519.lt K1559.1) (Nat.le_of_eq g1533))))
    refine go_old (fun O1570 => ?_)
    refine callS0 (cells' := 4) (slots' := 16) (Wd := 2) (argsL := [(.ref r1513), (.ref a1516), (.int 2)]) (rest := [(.int 2), (.ref a1532)]) (pay_of (a0 := a0) (c_at0_2 l G r1513 a1516 k1520 (x2 &&& (255 : Int32)) (x3 &&& (255 : Int32)) (x4 &&& (255 : Int32)) h1564 O1570 S1568 A1569 (c8_m _) (c8_m _) (c8_m _)) (wk G 22) (wk G 3)) (wk G 20) (wk G 21) (wk G 3) (wk G 22) pd7 (sz hml) all0 sf00 (D at_99) (k_v 102 rfl ?_)
    rintro _ h1571 ⟨rfl, rfl⟩ K1572
    refine go_stC 103 (i := 2) (x' := (x4 &&& (255 : Int32))) (vs' := [(.int (x2 &&& (255 : Int32))), (.int (x3 &&& (255 : Int32))), (.int (x4 &&& (255 : Int32))), (.int 0), (.int 0), (.int 0), (.int 0), (.int 0), (.int 0)]) A1566 (Nat.le_trans O0.2.1 (Nat.le_trans K1554.1 (Nat.le_of_eq g1533))) (by decide) (by decide) rfl (nb rfl) (i2c_mask _) rfl (D at_102) rfl (fun h1573 W1574 A1575 => ?_)
    refine go_aload 105 (D at_103) rfl rfl rfl ?_
    refine go_iconst 106 (v := 3) (D at_105) rfl rfl ?_
    refine go_aload 108 (D at_106) rfl rfl rfl ?_
    refine go_aload 110 (D at_108) rfl rfl rfl ?_
    refine go_iconst 111 (v := 3) (D at_110) rfl rfl ?_
    have K1576 : Keep h1511 h1573 [] := (K1567.wr W1574 (Or.inr (Nat.le_trans K1540.1 (Nat.le_of_eq g1533))))
    have S1577 := (f1514.keep K1576)
    have A1578 := (A1569.other W1574 (Nat.ne_of_lt (Nat.lt_of_lt_of_le (Nat.lt_of_lt_of_le A1519.lt K1559.1) (Nat.le_of_eq g1533))))
    refine go_old (fun O1579 => ?_)
    refine callS0 (cells' := 4) (slots' := 16) (Wd := 2) (argsL := [(.ref r1513), (.ref a1516), (.int 3)]) (rest := [(.int 3), (.ref a1532)]) (pay_of (a0 := a0) (c_at0_3 l G r1513 a1516 k1520 (x2 &&& (255 : Int32)) (x3 &&& (255 : Int32)) (x4 &&& (255 : Int32)) h1573 O1579 S1577 A1578 (c8_m _) (c8_m _) (c8_m _)) (wk G 22) (wk G 3)) (wk G 20) (wk G 21) (wk G 3) (wk G 22) pd7 (sz hml) all0 sf00 (D at_111) (k_v 114 rfl ?_)
    rintro _ h1580 ⟨rfl, rfl⟩ K1581
    refine go_stC 115 (i := 3) (x' := (120 : Int32)) (vs' := [(.int (x2 &&& (255 : Int32))), (.int (x3 &&& (255 : Int32))), (.int (x4 &&& (255 : Int32))), (.int 120), (.int 0), (.int 0), (.int 0), (.int 0), (.int 0)]) A1575 (Nat.le_trans O0.2.1 (Nat.le_trans K1554.1 (Nat.le_of_eq g1533))) (by decide) (by decide) rfl (nb rfl) (by decide) rfl (D at_114) rfl (fun h1582 W1583 A1584 => ?_)
    refine go_aload 117 (D at_115) rfl rfl rfl ?_
    refine go_iconst 118 (v := 4) (D at_117) rfl rfl ?_
    refine go_aload 120 (D at_118) rfl rfl rfl ?_
    refine go_aload 122 (D at_120) rfl rfl rfl ?_
    refine go_iconst 123 (v := 4) (D at_122) rfl rfl ?_
    have K1585 : Keep h1511 h1582 [] := (K1576.wr W1583 (Or.inr (Nat.le_trans K1540.1 (Nat.le_of_eq g1533))))
    have S1586 := (f1514.keep K1585)
    have A1587 := (A1578.other W1583 (Nat.ne_of_lt (Nat.lt_of_lt_of_le (Nat.lt_of_lt_of_le A1519.lt K1559.1) (Nat.le_of_eq g1533))))
    refine go_old (fun O1588 => ?_)
    refine callS0 (cells' := 4) (slots' := 16) (Wd := 2) (argsL := [(.ref r1513), (.ref a1516), (.int 4)]) (rest := [(.int 4), (.ref a1532)]) (pay_of (a0 := a0) (c_at0_4 l G r1513 a1516 k1520 (x2 &&& (255 : Int32)) (x3 &&& (255 : Int32)) (x4 &&& (255 : Int32)) h1582 O1588 S1586 A1587 (c8_m _) (c8_m _) (c8_m _)) (wk G 22) (wk G 3)) (wk G 20) (wk G 21) (wk G 3) (wk G 22) pd7 (sz hml) all0 sf00 (D at_123) (k_v 126 rfl ?_)
    rintro _ h1589 ⟨rfl, rfl⟩ K1590
    refine go_stC 127 (i := 4) (x' := (120 : Int32)) (vs' := [(.int (x2 &&& (255 : Int32))), (.int (x3 &&& (255 : Int32))), (.int (x4 &&& (255 : Int32))), (.int 120), (.int 120), (.int 0), (.int 0), (.int 0), (.int 0)]) A1584 (Nat.le_trans O0.2.1 (Nat.le_trans K1554.1 (Nat.le_of_eq g1533))) (by decide) (by decide) rfl (nb rfl) (by decide) rfl (D at_126) rfl (fun h1591 W1592 A1593 => ?_)
    refine go_aload 129 (D at_127) rfl rfl rfl ?_
    refine go_iconst 130 (v := 5) (D at_129) rfl rfl ?_
    refine go_aload 132 (D at_130) rfl rfl rfl ?_
    refine go_aload 134 (D at_132) rfl rfl rfl ?_
    refine go_iconst 135 (v := 5) (D at_134) rfl rfl ?_
    have K1594 : Keep h1511 h1591 [] := (K1585.wr W1592 (Or.inr (Nat.le_trans K1540.1 (Nat.le_of_eq g1533))))
    have S1595 := (f1514.keep K1594)
    have A1596 := (A1587.other W1592 (Nat.ne_of_lt (Nat.lt_of_lt_of_le (Nat.lt_of_lt_of_le A1519.lt K1559.1) (Nat.le_of_eq g1533))))
    refine go_old (fun O1597 => ?_)
    refine callS0 (cells' := 4) (slots' := 16) (Wd := 2) (argsL := [(.ref r1513), (.ref a1516), (.int 5)]) (rest := [(.int 5), (.ref a1532)]) (pay_of (a0 := a0) (c_at0_5 l G r1513 a1516 k1520 (x2 &&& (255 : Int32)) (x3 &&& (255 : Int32)) (x4 &&& (255 : Int32)) h1591 O1597 S1595 A1596 (c8_m _) (c8_m _) (c8_m _)) (wk G 22) (wk G 3)) (wk G 20) (wk G 21) (wk G 3) (wk G 22) pd7 (sz hml) all0 sf00 (D at_135) (k_v 138 rfl ?_)
    rintro _ h1598 ⟨rfl, rfl⟩ K1599
    refine go_stC 139 (i := 5) (x' := (120 : Int32)) (vs' := [(.int (x2 &&& (255 : Int32))), (.int (x3 &&& (255 : Int32))), (.int (x4 &&& (255 : Int32))), (.int 120), (.int 120), (.int 120), (.int 0), (.int 0), (.int 0)]) A1593 (Nat.le_trans O0.2.1 (Nat.le_trans K1554.1 (Nat.le_of_eq g1533))) (by decide) (by decide) rfl (nb rfl) (by decide) rfl (D at_138) rfl (fun h1600 W1601 A1602 => ?_)
    refine go_aload 141 (D at_139) rfl rfl rfl ?_
    refine go_bipush 143 (v := 6) (D at_141) rfl rfl ?_
    refine go_aload 145 (D at_143) rfl rfl rfl ?_
    refine go_aload 147 (D at_145) rfl rfl rfl ?_
    refine go_bipush 149 (v := 6) (D at_147) rfl rfl ?_
    have K1603 : Keep h1511 h1600 [] := (K1594.wr W1601 (Or.inr (Nat.le_trans K1540.1 (Nat.le_of_eq g1533))))
    have S1604 := (f1514.keep K1603)
    have A1605 := (A1596.other W1601 (Nat.ne_of_lt (Nat.lt_of_lt_of_le (Nat.lt_of_lt_of_le A1519.lt K1559.1) (Nat.le_of_eq g1533))))
    refine go_old (fun O1606 => ?_)
    refine callS0 (cells' := 4) (slots' := 16) (Wd := 2) (argsL := [(.ref r1513), (.ref a1516), (.int 6)]) (rest := [(.int 6), (.ref a1532)]) (pay_of (a0 := a0) (c_at0_6 l G r1513 a1516 k1520 (x2 &&& (255 : Int32)) (x3 &&& (255 : Int32)) (x4 &&& (255 : Int32)) h1600 O1606 S1604 A1605 (c8_m _) (c8_m _) (c8_m _)) (wk G 22) (wk G 3)) (wk G 20) (wk G 21) (wk G 3) (wk G 22) pd7 (sz hml) all0 sf00 (D at_149) (k_v 152 rfl ?_)
    rintro _ h1607 ⟨rfl, rfl⟩ K1608
    refine go_stC 153 (i := 6) (x' := (120 : Int32)) (vs' := [(.int (x2 &&& (255 : Int32))), (.int (x3 &&& (255 : Int32))), (.int (x4 &&& (255 : Int32))), (.int 120), (.int 120), (.int 120), (.int 120), (.int 0), (.int 0)]) A1602 (Nat.le_trans O0.2.1 (Nat.le_trans K1554.1 (Nat.le_of_eq g1533))) (by decide) (by decide) rfl (nb rfl) (by decide) rfl (D at_152) rfl (fun h1609 W1610 A1611 => ?_)
    refine go_aload 155 (D at_153) rfl rfl rfl ?_
    refine go_bipush 157 (v := 7) (D at_155) rfl rfl ?_
    refine go_aload 159 (D at_157) rfl rfl rfl ?_
    refine go_aload 161 (D at_159) rfl rfl rfl ?_
    refine go_bipush 163 (v := 7) (D at_161) rfl rfl ?_
    have K1612 : Keep h1511 h1609 [] := (K1603.wr W1610 (Or.inr (Nat.le_trans K1540.1 (Nat.le_of_eq g1533))))
    have S1613 := (f1514.keep K1612)
    have A1614 := (A1605.other W1610 (Nat.ne_of_lt (Nat.lt_of_lt_of_le (Nat.lt_of_lt_of_le A1519.lt K1559.1) (Nat.le_of_eq g1533))))
    refine go_old (fun O1615 => ?_)
    refine callS0 (cells' := 4) (slots' := 16) (Wd := 2) (argsL := [(.ref r1513), (.ref a1516), (.int 7)]) (rest := [(.int 7), (.ref a1532)]) (pay_of (a0 := a0) (c_at0_7 l G r1513 a1516 k1520 (x2 &&& (255 : Int32)) (x3 &&& (255 : Int32)) (x4 &&& (255 : Int32)) h1609 O1615 S1613 A1614 (c8_m _) (c8_m _) (c8_m _)) (wk G 22) (wk G 3)) (wk G 20) (wk G 21) (wk G 3) (wk G 22) pd7 (sz hml) all0 sf00 (D at_163) (k_v 166 rfl ?_)
    rintro _ h1616 ⟨rfl, rfl⟩ K1617
    refine go_stC 167 (i := 7) (x' := (120 : Int32)) (vs' := [(.int (x2 &&& (255 : Int32))), (.int (x3 &&& (255 : Int32))), (.int (x4 &&& (255 : Int32))), (.int 120), (.int 120), (.int 120), (.int 120), (.int 120), (.int 0)]) A1611 (Nat.le_trans O0.2.1 (Nat.le_trans K1554.1 (Nat.le_of_eq g1533))) (by decide) (by decide) rfl (nb rfl) (by decide) rfl (D at_166) rfl (fun h1618 W1619 A1620 => ?_)
    refine go_aload 169 (D at_167) rfl rfl rfl ?_
    refine go_bipush 171 (v := 8) (D at_169) rfl rfl ?_
    refine go_aload 173 (D at_171) rfl rfl rfl ?_
    refine go_aload 175 (D at_173) rfl rfl rfl ?_
    refine go_bipush 177 (v := 8) (D at_175) rfl rfl ?_
    have K1621 : Keep h1511 h1618 [] := (K1612.wr W1619 (Or.inr (Nat.le_trans K1540.1 (Nat.le_of_eq g1533))))
    have S1622 := (f1514.keep K1621)
    have A1623 := (A1614.other W1619 (Nat.ne_of_lt (Nat.lt_of_lt_of_le (Nat.lt_of_lt_of_le A1519.lt K1559.1) (Nat.le_of_eq g1533))))
    refine go_old (fun O1624 => ?_)
    refine callS0 (cells' := 4) (slots' := 16) (Wd := 2) (argsL := [(.ref r1513), (.ref a1516), (.int 8)]) (rest := [(.int 8), (.ref a1532)]) (pay_of (a0 := a0) (c_at0_8 l G r1513 a1516 k1520 (x2 &&& (255 : Int32)) (x3 &&& (255 : Int32)) (x4 &&& (255 : Int32)) h1618 O1624 S1622 A1623 (c8_m _) (c8_m _) (c8_m _)) (wk G 22) (wk G 3)) (wk G 20) (wk G 21) (wk G 3) (wk G 22) pd7 (sz hml) all0 sf00 (D at_177) (k_v 180 rfl ?_)
    rintro _ h1625 ⟨rfl, rfl⟩ K1626
    refine go_stC 181 (i := 8) (x' := (120 : Int32)) (vs' := [(.int (x2 &&& (255 : Int32))), (.int (x3 &&& (255 : Int32))), (.int (x4 &&& (255 : Int32))), (.int 120), (.int 120), (.int 120), (.int 120), (.int 120), (.int 120)]) A1620 (Nat.le_trans O0.2.1 (Nat.le_trans K1554.1 (Nat.le_of_eq g1533))) (by decide) (by decide) rfl (nb rfl) (by decide) rfl (D at_180) rfl (fun h1627 W1628 A1629 => ?_)
    rcases and4 x1 with q1630 | q1630 | q1630 | q1630
    · rw [q1630]
      refine go_aload 183 (D at_181) rfl rfl rfl ?_
      refine go_aload 185 (D at_183) rfl rfl rfl ?_
      have K1631 : Keep h1511 h1627 [] := (K1621.wr W1628 (Or.inr (Nat.le_trans K1540.1 (Nat.le_of_eq g1533))))
      have S1632 := (f1514.keep K1631)
      refine go_old (fun O1633 => ?_)
      have E1634 := (f1514.exa.keep K1631)
      refine callV0 (cells' := 4) (slots' := 16) (Wd := 1) (argsL := []) (rest := [(.ref a1532)]) (pay_len G O1633 (n := (0 : Int32)) S1632 rfl (by decide) (by decide)) E1634 (wk G 23) (wk G 24) (wk G 26) (wk G 26) (wk G 25) pd5 (sz hml) all0 sf00 (D at_185) (k_v 188 rfl ?_)
      rintro _ _ ⟨rfl, rfl⟩ -
      refine go_iload 190 (D at_188) rfl rfl ?_
      refine go_iadd 191 (z := (0 : Int32)) (D at_190) rfl (by decide) ?_
      refine callSW0 rfl (cells' := 10) (slots' := 28) (Wd := 0) (argsL := [(.ref a1532), (.int 0)]) (rest := []) (payW_of (a0 := a0) (c_take9_0 l G a1532 k1536 (x2 &&& (255 : Int32)) (x3 &&& (255 : Int32)) (x4 &&& (255 : Int32)) (120 : Int32) (120 : Int32) (120 : Int32) (120 : Int32) (120 : Int32) (120 : Int32) h1627 O1633 A1629) (wk G 60) (wk G 3) (ew1 G)) (wk G 58) (wk G 59) (wk G 3) (wk G 60) pd9 (sz hml) all0 (D at_191) (k_v 194 rfl ?_)
      rintro _ h1635 ⟨r1637, rfl, f1638, f1639⟩ K1636
      refine go_astore 196 (ls' := #[vi x0, vi x1, vi x2, vi x3, vi x4, vi 5, vi 0, vr (s_CUSTOM Z), vr r1513, vr a1516, vr a1532, vr r1637, un, un]) (D at_194) rfl rfl rfl ?_
      refine go_aload 198 (D at_196) rfl rfl rfl ?_
      refine go_iload 200 (D at_198) rfl rfl ?_
      have A1640 := ((A1623.other W1628 (Nat.ne_of_lt (Nat.lt_of_lt_of_le (Nat.lt_of_lt_of_le A1519.lt K1559.1) (Nat.le_of_eq g1533)))).keep K1636 nin0)
      refine go_old (fun O1641 => ?_)
      refine callSW0 rfl (cells' := 16) (slots' := 40) (Wd := 0) (argsL := [(.ref a1516), (.int 0)]) (rest := []) (payW_of (a0 := a0) (c_take3_0 l G a1516 k1520 (x2 &&& (255 : Int32)) (x3 &&& (255 : Int32)) (x4 &&& (255 : Int32)) h1635 O1641 A1640) (wk G 60) (wk G 3) (ew1 G)) (wk G 58) (wk G 59) (wk G 3) (wk G 60) pd9 (sz hml) all0 (D at_200) (k_v 203 rfl ?_)
      rintro _ h1642 ⟨r1644, rfl, f1645, f1646⟩ K1643
      refine go_astore 205 (ls' := #[vi x0, vi x1, vi x2, vi x3, vi x4, vi 5, vi 0, vr (s_CUSTOM Z), vr r1513, vr a1516, vr a1532, vr r1637, vr r1644, un]) (D at_203) rfl rfl rfl ?_
      refine go_aload 207 (D at_205) rfl rfl rfl ?_
      refine go_aload 209 (D at_207) rfl rfl rfl ?_
      refine go_old (fun O1648 => ?_)
      have Z1647 := F36.ext O1648.2
      have Z1649 := S37.ext O1648.2
      have K1650 : Keep h1635 h1642 [] := ((Keep.refl h1635 []).trans K1643 all0)
      have S1651 := (f1639.keep K1650)
      have Z1652 := (se_CUSTOM G).2.ext O1648.2
      refine callV0 (cells' := 16) (slots' := 40) (Wd := 0) (argsL := [(.ref r1637)]) (rest := []) (pay_of (a0 := a0) (c_noun0_0 l G (s_CUSTOM Z) r1637 (w_CUSTOM Z) h1642 O1648 Z1647 Z1649 S1651) (wk G 86) (wk G 6)) Z1652 (wk G 82) (wk G 83) (wk G 85) (wk G 85) (wk G 84) pd14 (sz hml) all0 sf00 (D at_209) (k_v 212 rfl ?_)
      rintro _ h1653 ⟨rfl, rfl⟩ K1654
      refine go_astore 214 (ls' := #[vi x0, vi x1, vi x2, vi x3, vi x4, vi 5, vi 0, vr (s_CUSTOM Z), vr r1513, vr a1516, vr a1532, vr r1637, vr r1644, vr r1637]) (D at_212) rfl rfl rfl ?_
      refine go_aload 216 (D at_214) rfl rfl rfl ?_
      refine go_aload 218 (D at_216) rfl rfl rfl ?_
      have E1655 := (f1639.exa.keep K1650)
      refine callV0 (cells' := 16) (slots' := 40) (Wd := 0) (argsL := [(.ref r1644)]) (rest := []) (pay_eq G O1648 S1651 f1646 (by decide) (by decide)) E1655 (wk G 132) (wk G 133) (wk G 135) (wk G 135) (wk G 134) pd15 (sz hml) all0 sf00 (D at_218) (k_v 221 rfl ?_)
      rintro _ _ (⟨rfl, q1656, rfl⟩ | ⟨rfl, q1656, rfl⟩) -
      rotate_left 1
      · exact absurd rfl q1656
      have K1657 : Keep h0 h1531 [] := (K1554.ext X1534)
      have K1658 : Keep h0 h1548 [] := (K1657.wr W1549 (Or.inr (Nat.le_trans K1554.1 (Nat.le_of_eq g1533))))
      have K1659 : Keep h0 h1564 [] := (K1658.wr W1565 (Or.inr (Nat.le_trans K1554.1 (Nat.le_of_eq g1533))))
      have K1660 : Keep h0 h1573 [] := (K1659.wr W1574 (Or.inr (Nat.le_trans K1554.1 (Nat.le_of_eq g1533))))
      have K1661 : Keep h0 h1582 [] := (K1660.wr W1583 (Or.inr (Nat.le_trans K1554.1 (Nat.le_of_eq g1533))))
      have K1662 : Keep h0 h1591 [] := (K1661.wr W1592 (Or.inr (Nat.le_trans K1554.1 (Nat.le_of_eq g1533))))
      have K1663 : Keep h0 h1600 [] := (K1662.wr W1601 (Or.inr (Nat.le_trans K1554.1 (Nat.le_of_eq g1533))))
      have K1664 : Keep h0 h1609 [] := (K1663.wr W1610 (Or.inr (Nat.le_trans K1554.1 (Nat.le_of_eq g1533))))
      have K1665 : Keep h0 h1618 [] := (K1664.wr W1619 (Or.inr (Nat.le_trans K1554.1 (Nat.le_of_eq g1533))))
      have K1666 : Keep h0 h1627 [] := (K1665.wr W1628 (Or.inr (Nat.le_trans K1554.1 (Nat.le_of_eq g1533))))
      have K1667 : Keep h0 h1635 [] := (K1666.trans K1636 all0)
      have K1668 : Keep h0 h1642 [] := (K1667.trans K1643 all0)
      refine go_ireturn hret hlk rfl (by simp) (D at_221) (by decide) (by decide) ⟨_, rfl, rfl⟩ K1668
    · rw [q1630]
      refine go_aload 183 (D at_181) rfl rfl rfl ?_
      refine go_aload 185 (D at_183) rfl rfl rfl ?_
      have K1669 : Keep h1511 h1627 [] := (K1621.wr W1628 (Or.inr (Nat.le_trans K1540.1 (Nat.le_of_eq g1533))))
      have S1670 := (f1514.keep K1669)
      refine go_old (fun O1671 => ?_)
      have E1672 := (f1514.exa.keep K1669)
      refine callV0 (cells' := 4) (slots' := 16) (Wd := 1) (argsL := []) (rest := [(.ref a1532)]) (pay_len G O1671 (n := (0 : Int32)) S1670 rfl (by decide) (by decide)) E1672 (wk G 23) (wk G 24) (wk G 26) (wk G 26) (wk G 25) pd5 (sz hml) all0 sf00 (D at_185) (k_v 188 rfl ?_)
      rintro _ _ ⟨rfl, rfl⟩ -
      refine go_iload 190 (D at_188) rfl rfl ?_
      refine go_iadd 191 (z := (1 : Int32)) (D at_190) rfl (by decide) ?_
      refine callS0 (cells' := 7) (slots' := 22) (Wd := 0) (argsL := [(.ref a1532), (.int 1)]) (rest := []) (pay_of (a0 := a0) (c_take9_1 l G a1532 k1536 (x2 &&& (255 : Int32)) (x3 &&& (255 : Int32)) (x4 &&& (255 : Int32)) (120 : Int32) (120 : Int32) (120 : Int32) (120 : Int32) (120 : Int32) (120 : Int32) h1627 O1671 A1629 (c8_m _)) (wk G 60) (wk G 3)) (wk G 58) (wk G 59) (wk G 3) (wk G 60) pd9 (sz hml) all0 sf00 (D at_191) (k_v 194 rfl ?_)
      rintro _ h1673 ⟨r1675, rfl, f1676, f1677⟩ K1674
      refine go_astore 196 (ls' := #[vi x0, vi x1, vi x2, vi x3, vi x4, vi 5, vi 1, vr (s_CUSTOM Z), vr r1513, vr a1516, vr a1532, vr r1675, un, un]) (D at_194) rfl rfl rfl ?_
      refine go_aload 198 (D at_196) rfl rfl rfl ?_
      refine go_iload 200 (D at_198) rfl rfl ?_
      have A1678 := ((A1623.other W1628 (Nat.ne_of_lt (Nat.lt_of_lt_of_le (Nat.lt_of_lt_of_le A1519.lt K1559.1) (Nat.le_of_eq g1533)))).keep K1674 nin0)
      refine go_old (fun O1679 => ?_)
      refine callS0 (cells' := 10) (slots' := 28) (Wd := 0) (argsL := [(.ref a1516), (.int 1)]) (rest := []) (pay_of (a0 := a0) (c_take3_1 l G a1516 k1520 (x2 &&& (255 : Int32)) (x3 &&& (255 : Int32)) (x4 &&& (255 : Int32)) h1673 O1679 A1678 (c8_m _)) (wk G 60) (wk G 3)) (wk G 58) (wk G 59) (wk G 3) (wk G 60) pd9 (sz hml) all0 sf00 (D at_200) (k_v 203 rfl ?_)
      rintro _ h1680 ⟨r1682, rfl, f1683, f1684⟩ K1681
      refine go_astore 205 (ls' := #[vi x0, vi x1, vi x2, vi x3, vi x4, vi 5, vi 1, vr (s_CUSTOM Z), vr r1513, vr a1516, vr a1532, vr r1675, vr r1682, un]) (D at_203) rfl rfl rfl ?_
      refine go_aload 207 (D at_205) rfl rfl rfl ?_
      refine go_aload 209 (D at_207) rfl rfl rfl ?_
      refine go_old (fun O1686 => ?_)
      have Z1685 := F36.ext O1686.2
      have Z1687 := S37.ext O1686.2
      have K1688 : Keep h1673 h1680 [] := ((Keep.refl h1673 []).trans K1681 all0)
      have S1689 := (f1677.keep K1688)
      have Z1690 := (se_CUSTOM G).2.ext O1686.2
      refine callV0 (cells' := 10) (slots' := 28) (Wd := 0) (argsL := [(.ref r1675)]) (rest := []) (pay_of (a0 := a0) (c_noun0_1 l G (s_CUSTOM Z) r1675 (w_CUSTOM Z) (x2 &&& (255 : Int32)) h1680 O1686 Z1685 Z1687 S1689) (wk G 86) (wk G 6)) Z1690 (wk G 82) (wk G 83) (wk G 85) (wk G 85) (wk G 84) pd14 (sz hml) all0 sf00 (D at_209) (k_v 212 rfl ?_)
      rintro _ h1691 ⟨rfl, rfl⟩ K1692
      refine go_astore 214 (ls' := #[vi x0, vi x1, vi x2, vi x3, vi x4, vi 5, vi 1, vr (s_CUSTOM Z), vr r1513, vr a1516, vr a1532, vr r1675, vr r1682, vr r1675]) (D at_212) rfl rfl rfl ?_
      refine go_aload 216 (D at_214) rfl rfl rfl ?_
      refine go_aload 218 (D at_216) rfl rfl rfl ?_
      have E1693 := (f1677.exa.keep K1688)
      refine callV0 (cells' := 10) (slots' := 28) (Wd := 0) (argsL := [(.ref r1682)]) (rest := []) (pay_eq G O1686 S1689 f1684 (by decide) (by decide)) E1693 (wk G 132) (wk G 133) (wk G 135) (wk G 135) (wk G 134) pd15 (sz hml) all0 sf00 (D at_218) (k_v 221 rfl ?_)
      rintro _ _ (⟨rfl, q1694, rfl⟩ | ⟨rfl, q1694, rfl⟩) -
      rotate_left 1
      · exact absurd rfl q1694
      have K1695 : Keep h0 h1531 [] := (K1554.ext X1534)
      have K1696 : Keep h0 h1548 [] := (K1695.wr W1549 (Or.inr (Nat.le_trans K1554.1 (Nat.le_of_eq g1533))))
      have K1697 : Keep h0 h1564 [] := (K1696.wr W1565 (Or.inr (Nat.le_trans K1554.1 (Nat.le_of_eq g1533))))
      have K1698 : Keep h0 h1573 [] := (K1697.wr W1574 (Or.inr (Nat.le_trans K1554.1 (Nat.le_of_eq g1533))))
      have K1699 : Keep h0 h1582 [] := (K1698.wr W1583 (Or.inr (Nat.le_trans K1554.1 (Nat.le_of_eq g1533))))
      have K1700 : Keep h0 h1591 [] := (K1699.wr W1592 (Or.inr (Nat.le_trans K1554.1 (Nat.le_of_eq g1533))))
      have K1701 : Keep h0 h1600 [] := (K1700.wr W1601 (Or.inr (Nat.le_trans K1554.1 (Nat.le_of_eq g1533))))
      have K1702 : Keep h0 h1609 [] := (K1701.wr W1610 (Or.inr (Nat.le_trans K1554.1 (Nat.le_of_eq g1533))))
      have K1703 : Keep h0 h1618 [] := (K1702.wr W1619 (Or.inr (Nat.le_trans K1554.1 (Nat.le_of_eq g1533))))
      have K1704 : Keep h0 h1627 [] := (K1703.wr W1628 (Or.inr (Nat.le_trans K1554.1 (Nat.le_of_eq g1533))))
      have K1705 : Keep h0 h1673 [] := (K1704.trans K1674 all0)
      have K1706 : Keep h0 h1680 [] := (K1705.trans K1681 all0)
      refine go_ireturn hret hlk rfl (by simp) (D at_221) (by decide) (by decide) ⟨_, rfl, rfl⟩ K1706
    · rw [q1630]
      refine go_aload 183 (D at_181) rfl rfl rfl ?_
      refine go_aload 185 (D at_183) rfl rfl rfl ?_
      have K1707 : Keep h1511 h1627 [] := (K1621.wr W1628 (Or.inr (Nat.le_trans K1540.1 (Nat.le_of_eq g1533))))
      have S1708 := (f1514.keep K1707)
      refine go_old (fun O1709 => ?_)
      have E1710 := (f1514.exa.keep K1707)
      refine callV0 (cells' := 4) (slots' := 16) (Wd := 1) (argsL := []) (rest := [(.ref a1532)]) (pay_len G O1709 (n := (0 : Int32)) S1708 rfl (by decide) (by decide)) E1710 (wk G 23) (wk G 24) (wk G 26) (wk G 26) (wk G 25) pd5 (sz hml) all0 sf00 (D at_185) (k_v 188 rfl ?_)
      rintro _ _ ⟨rfl, rfl⟩ -
      refine go_iload 190 (D at_188) rfl rfl ?_
      refine go_iadd 191 (z := (2 : Int32)) (D at_190) rfl (by decide) ?_
      refine callS0 (cells' := 7) (slots' := 24) (Wd := 0) (argsL := [(.ref a1532), (.int 2)]) (rest := []) (pay_of (a0 := a0) (c_take9_2 l G a1532 k1536 (x2 &&& (255 : Int32)) (x3 &&& (255 : Int32)) (x4 &&& (255 : Int32)) (120 : Int32) (120 : Int32) (120 : Int32) (120 : Int32) (120 : Int32) (120 : Int32) h1627 O1709 A1629 (c8_m _) (c8_m _)) (wk G 60) (wk G 3)) (wk G 58) (wk G 59) (wk G 3) (wk G 60) pd9 (sz hml) all0 sf00 (D at_191) (k_v 194 rfl ?_)
      rintro _ h1711 ⟨r1713, rfl, f1714, f1715⟩ K1712
      refine go_astore 196 (ls' := #[vi x0, vi x1, vi x2, vi x3, vi x4, vi 5, vi 2, vr (s_CUSTOM Z), vr r1513, vr a1516, vr a1532, vr r1713, un, un]) (D at_194) rfl rfl rfl ?_
      refine go_aload 198 (D at_196) rfl rfl rfl ?_
      refine go_iload 200 (D at_198) rfl rfl ?_
      have A1716 := ((A1623.other W1628 (Nat.ne_of_lt (Nat.lt_of_lt_of_le (Nat.lt_of_lt_of_le A1519.lt K1559.1) (Nat.le_of_eq g1533)))).keep K1712 nin0)
      refine go_old (fun O1717 => ?_)
      refine callS0 (cells' := 10) (slots' := 32) (Wd := 0) (argsL := [(.ref a1516), (.int 2)]) (rest := []) (pay_of (a0 := a0) (c_take3_2 l G a1516 k1520 (x2 &&& (255 : Int32)) (x3 &&& (255 : Int32)) (x4 &&& (255 : Int32)) h1711 O1717 A1716 (c8_m _) (c8_m _)) (wk G 60) (wk G 3)) (wk G 58) (wk G 59) (wk G 3) (wk G 60) pd9 (sz hml) all0 sf00 (D at_200) (k_v 203 rfl ?_)
      rintro _ h1718 ⟨r1720, rfl, f1721, f1722⟩ K1719
      refine go_astore 205 (ls' := #[vi x0, vi x1, vi x2, vi x3, vi x4, vi 5, vi 2, vr (s_CUSTOM Z), vr r1513, vr a1516, vr a1532, vr r1713, vr r1720, un]) (D at_203) rfl rfl rfl ?_
      refine go_aload 207 (D at_205) rfl rfl rfl ?_
      refine go_aload 209 (D at_207) rfl rfl rfl ?_
      refine go_old (fun O1724 => ?_)
      have Z1723 := F36.ext O1724.2
      have Z1725 := S37.ext O1724.2
      have K1726 : Keep h1711 h1718 [] := ((Keep.refl h1711 []).trans K1719 all0)
      have S1727 := (f1715.keep K1726)
      have Z1728 := (se_CUSTOM G).2.ext O1724.2
      refine callV0 (cells' := 10) (slots' := 32) (Wd := 0) (argsL := [(.ref r1713)]) (rest := []) (pay_of (a0 := a0) (c_noun0_2 l G (s_CUSTOM Z) r1713 (w_CUSTOM Z) (x2 &&& (255 : Int32)) (x3 &&& (255 : Int32)) h1718 O1724 Z1723 Z1725 S1727) (wk G 86) (wk G 6)) Z1728 (wk G 82) (wk G 83) (wk G 85) (wk G 85) (wk G 84) pd14 (sz hml) all0 sf00 (D at_209) (k_v 212 rfl ?_)
      rintro _ h1729 ⟨rfl, rfl⟩ K1730
      refine go_astore 214 (ls' := #[vi x0, vi x1, vi x2, vi x3, vi x4, vi 5, vi 2, vr (s_CUSTOM Z), vr r1513, vr a1516, vr a1532, vr r1713, vr r1720, vr r1713]) (D at_212) rfl rfl rfl ?_
      refine go_aload 216 (D at_214) rfl rfl rfl ?_
      refine go_aload 218 (D at_216) rfl rfl rfl ?_
      have E1731 := (f1715.exa.keep K1726)
      refine callV0 (cells' := 10) (slots' := 32) (Wd := 0) (argsL := [(.ref r1720)]) (rest := []) (pay_eq G O1724 S1727 f1722 (by decide) (by decide)) E1731 (wk G 132) (wk G 133) (wk G 135) (wk G 135) (wk G 134) pd15 (sz hml) all0 sf00 (D at_218) (k_v 221 rfl ?_)
      rintro _ _ (⟨rfl, q1732, rfl⟩ | ⟨rfl, q1732, rfl⟩) -
      rotate_left 1
      · exact absurd rfl q1732
      have K1733 : Keep h0 h1531 [] := (K1554.ext X1534)
      have K1734 : Keep h0 h1548 [] := (K1733.wr W1549 (Or.inr (Nat.le_trans K1554.1 (Nat.le_of_eq g1533))))
      have K1735 : Keep h0 h1564 [] := (K1734.wr W1565 (Or.inr (Nat.le_trans K1554.1 (Nat.le_of_eq g1533))))
      have K1736 : Keep h0 h1573 [] := (K1735.wr W1574 (Or.inr (Nat.le_trans K1554.1 (Nat.le_of_eq g1533))))
      have K1737 : Keep h0 h1582 [] := (K1736.wr W1583 (Or.inr (Nat.le_trans K1554.1 (Nat.le_of_eq g1533))))
      have K1738 : Keep h0 h1591 [] := (K1737.wr W1592 (Or.inr (Nat.le_trans K1554.1 (Nat.le_of_eq g1533))))
      have K1739 : Keep h0 h1600 [] := (K1738.wr W1601 (Or.inr (Nat.le_trans K1554.1 (Nat.le_of_eq g1533))))
      have K1740 : Keep h0 h1609 [] := (K1739.wr W1610 (Or.inr (Nat.le_trans K1554.1 (Nat.le_of_eq g1533))))
      have K1741 : Keep h0 h1618 [] := (K1740.wr W1619 (Or.inr (Nat.le_trans K1554.1 (Nat.le_of_eq g1533))))
      have K1742 : Keep h0 h1627 [] := (K1741.wr W1628 (Or.inr (Nat.le_trans K1554.1 (Nat.le_of_eq g1533))))
      have K1743 : Keep h0 h1711 [] := (K1742.trans K1712 all0)
      have K1744 : Keep h0 h1718 [] := (K1743.trans K1719 all0)
      refine go_ireturn hret hlk rfl (by simp) (D at_221) (by decide) (by decide) ⟨_, rfl, rfl⟩ K1744
    · rw [q1630]
      refine go_aload 183 (D at_181) rfl rfl rfl ?_
      refine go_aload 185 (D at_183) rfl rfl rfl ?_
      have K1745 : Keep h1511 h1627 [] := (K1621.wr W1628 (Or.inr (Nat.le_trans K1540.1 (Nat.le_of_eq g1533))))
      have S1746 := (f1514.keep K1745)
      refine go_old (fun O1747 => ?_)
      have E1748 := (f1514.exa.keep K1745)
      refine callV0 (cells' := 4) (slots' := 16) (Wd := 1) (argsL := []) (rest := [(.ref a1532)]) (pay_len G O1747 (n := (0 : Int32)) S1746 rfl (by decide) (by decide)) E1748 (wk G 23) (wk G 24) (wk G 26) (wk G 26) (wk G 25) pd5 (sz hml) all0 sf00 (D at_185) (k_v 188 rfl ?_)
      rintro _ _ ⟨rfl, rfl⟩ -
      refine go_iload 190 (D at_188) rfl rfl ?_
      refine go_iadd 191 (z := (3 : Int32)) (D at_190) rfl (by decide) ?_
      refine callS0 (cells' := 7) (slots' := 26) (Wd := 0) (argsL := [(.ref a1532), (.int 3)]) (rest := []) (pay_of (a0 := a0) (c_take9_3 l G a1532 k1536 (x2 &&& (255 : Int32)) (x3 &&& (255 : Int32)) (x4 &&& (255 : Int32)) (120 : Int32) (120 : Int32) (120 : Int32) (120 : Int32) (120 : Int32) (120 : Int32) h1627 O1747 A1629 (c8_m _) (c8_m _) (c8_m _)) (wk G 60) (wk G 3)) (wk G 58) (wk G 59) (wk G 3) (wk G 60) pd9 (sz hml) all0 sf00 (D at_191) (k_v 194 rfl ?_)
      rintro _ h1749 ⟨r1751, rfl, f1752, f1753⟩ K1750
      refine go_astore 196 (ls' := #[vi x0, vi x1, vi x2, vi x3, vi x4, vi 5, vi 3, vr (s_CUSTOM Z), vr r1513, vr a1516, vr a1532, vr r1751, un, un]) (D at_194) rfl rfl rfl ?_
      refine go_aload 198 (D at_196) rfl rfl rfl ?_
      refine go_iload 200 (D at_198) rfl rfl ?_
      have A1754 := ((A1623.other W1628 (Nat.ne_of_lt (Nat.lt_of_lt_of_le (Nat.lt_of_lt_of_le A1519.lt K1559.1) (Nat.le_of_eq g1533)))).keep K1750 nin0)
      refine go_old (fun O1755 => ?_)
      refine callS0 (cells' := 10) (slots' := 36) (Wd := 0) (argsL := [(.ref a1516), (.int 3)]) (rest := []) (pay_of (a0 := a0) (c_take3_3 l G a1516 k1520 (x2 &&& (255 : Int32)) (x3 &&& (255 : Int32)) (x4 &&& (255 : Int32)) h1749 O1755 A1754 (c8_m _) (c8_m _) (c8_m _)) (wk G 60) (wk G 3)) (wk G 58) (wk G 59) (wk G 3) (wk G 60) pd9 (sz hml) all0 sf00 (D at_200) (k_v 203 rfl ?_)
      rintro _ h1756 ⟨r1758, rfl, f1759, f1760⟩ K1757
      refine go_astore 205 (ls' := #[vi x0, vi x1, vi x2, vi x3, vi x4, vi 5, vi 3, vr (s_CUSTOM Z), vr r1513, vr a1516, vr a1532, vr r1751, vr r1758, un]) (D at_203) rfl rfl rfl ?_
      refine go_aload 207 (D at_205) rfl rfl rfl ?_
      refine go_aload 209 (D at_207) rfl rfl rfl ?_
      refine go_old (fun O1762 => ?_)
      have Z1761 := F36.ext O1762.2
      have Z1763 := S37.ext O1762.2
      have K1764 : Keep h1749 h1756 [] := ((Keep.refl h1749 []).trans K1757 all0)
      have S1765 := (f1753.keep K1764)
      have Z1766 := (se_CUSTOM G).2.ext O1762.2
      refine callV0 (cells' := 10) (slots' := 36) (Wd := 0) (argsL := [(.ref r1751)]) (rest := []) (pay_of (a0 := a0) (c_noun0_3 l G (s_CUSTOM Z) r1751 (w_CUSTOM Z) (x2 &&& (255 : Int32)) (x3 &&& (255 : Int32)) (x4 &&& (255 : Int32)) h1756 O1762 Z1761 Z1763 S1765) (wk G 86) (wk G 6)) Z1766 (wk G 82) (wk G 83) (wk G 85) (wk G 85) (wk G 84) pd14 (sz hml) all0 sf00 (D at_209) (k_v 212 rfl ?_)
      rintro _ h1767 ⟨rfl, rfl⟩ K1768
      refine go_astore 214 (ls' := #[vi x0, vi x1, vi x2, vi x3, vi x4, vi 5, vi 3, vr (s_CUSTOM Z), vr r1513, vr a1516, vr a1532, vr r1751, vr r1758, vr r1751]) (D at_212) rfl rfl rfl ?_
      refine go_aload 216 (D at_214) rfl rfl rfl ?_
      refine go_aload 218 (D at_216) rfl rfl rfl ?_
      have E1769 := (f1753.exa.keep K1764)
      refine callV0 (cells' := 10) (slots' := 36) (Wd := 0) (argsL := [(.ref r1758)]) (rest := []) (pay_eq G O1762 S1765 f1760 (by decide) (by decide)) E1769 (wk G 132) (wk G 133) (wk G 135) (wk G 135) (wk G 134) pd15 (sz hml) all0 sf00 (D at_218) (k_v 221 rfl ?_)
      rintro _ _ (⟨rfl, q1770, rfl⟩ | ⟨rfl, q1770, rfl⟩) -
      rotate_left 1
      · exact absurd rfl q1770
      have K1771 : Keep h0 h1531 [] := (K1554.ext X1534)
      have K1772 : Keep h0 h1548 [] := (K1771.wr W1549 (Or.inr (Nat.le_trans K1554.1 (Nat.le_of_eq g1533))))
      have K1773 : Keep h0 h1564 [] := (K1772.wr W1565 (Or.inr (Nat.le_trans K1554.1 (Nat.le_of_eq g1533))))
      have K1774 : Keep h0 h1573 [] := (K1773.wr W1574 (Or.inr (Nat.le_trans K1554.1 (Nat.le_of_eq g1533))))
      have K1775 : Keep h0 h1582 [] := (K1774.wr W1583 (Or.inr (Nat.le_trans K1554.1 (Nat.le_of_eq g1533))))
      have K1776 : Keep h0 h1591 [] := (K1775.wr W1592 (Or.inr (Nat.le_trans K1554.1 (Nat.le_of_eq g1533))))
      have K1777 : Keep h0 h1600 [] := (K1776.wr W1601 (Or.inr (Nat.le_trans K1554.1 (Nat.le_of_eq g1533))))
      have K1778 : Keep h0 h1609 [] := (K1777.wr W1610 (Or.inr (Nat.le_trans K1554.1 (Nat.le_of_eq g1533))))
      have K1779 : Keep h0 h1618 [] := (K1778.wr W1619 (Or.inr (Nat.le_trans K1554.1 (Nat.le_of_eq g1533))))
      have K1780 : Keep h0 h1627 [] := (K1779.wr W1628 (Or.inr (Nat.le_trans K1554.1 (Nat.le_of_eq g1533))))
      have K1781 : Keep h0 h1749 [] := (K1780.trans K1750 all0)
      have K1782 : Keep h0 h1756 [] := (K1781.trans K1757 all0)
      refine go_ireturn hret hlk rfl (by simp) (D at_221) (by decide) (by decide) ⟨_, rfl, rfl⟩ K1782
end CT
set_option maxRecDepth 65536 in
set_option maxHeartbeats 40000000 in
theorem comes_1 {Post : Tables → Env → Array Value → State → Outcome → State → Prop} (hpost : ∀ tb e args s v u, (limb_1_1.after args s (.returned v) u = true ∧ limb_1_2.after args s (.returned v) u = true ∧ True) → ReturnedEndW s (.returned v) u (Jvm.fieldLocs frame_1_writes args s ++ Jvm.arrayLocs frame_1_arrays args s ++ Jvm.staticLocs frame_1_statics s) 48 8448 → Post tb e args s (.returned v) u) :
    ArmFor flags0 classFile x code maxLocals ret World_1 tables_1 room_1 Calls_1 rest_1 Pre_1 Post := by
  intro l hfl _ _ p e ha hc hk s m args below hf hA hF happ hP
  obtain ⟨hcalls, hrest, hpre⟩ := hP
  obtain ⟨-, -, -, hnamed, -, -, -, hat⟩ := (Spec.applies_iff hf).mp happ
  obtain ⟨hg, hn⟩ := and_e (Cond.before_iff.mp (show (Jvm.Cond.and given_1 narrow_1).before args s = true from hpre))
  obtain ⟨h1, h2⟩ := and_e hg
  obtain ⟨w0, w1, w2, w3, w4, rfl⟩ : ∃ w0 w1 w2 w3 w4 : Value, args = #[w0, w1, w2, w3, w4] := by
    have hs : args.size = 5 := by simpa [Cond.value, given_1] using h1
    obtain ⟨L⟩ := args
    match L, hs with
    | [w0, w1, w2, w3, w4], _ => exact ⟨w0, w1, w2, w3, w4, rfl⟩
  have hw := fun d (hd : d ∈ tables_1) => atoms_spec (ws := Jvm.Cond.code x code maxLocals ret :: tables_1) hat d (List.mem_cons_of_mem _ hd)
  obtain ⟨hsets, hown0⟩ := atoms_of _ (rest_1_c_eq ▸ (show rest_1_c.before _ s = true from hrest))
  have hfit : Fit s := fun {y c} hc i hi => by
    obtain ⟨ha, rfl⟩ := Array.getElem?_eq_some_iff.mp hc
    have q := List.all_eq_true.mp ((Array.all_eq_true_iff_forall_mem.mp hF) _ (Array.getElem_mem ha)) i (List.mem_range.mpr hi)
    simpa [Array.getElem?_eq_getElem hi] using q
  obtain ⟨q0, h2⟩ := and_e h2
  obtain ⟨i0, e0⟩ := is_v q0
  obtain rfl : w0 = (.int i0) := Option.some.inj e0
  obtain ⟨q1, h2⟩ := and_e h2
  obtain ⟨i1, e1⟩ := is_v q1
  obtain rfl : w1 = (.int i1) := Option.some.inj e1
  obtain ⟨q2, h2⟩ := and_e h2
  obtain ⟨i2, e2⟩ := is_v q2
  obtain rfl : w2 = (.int i2) := Option.some.inj e2
  obtain ⟨q3, h2⟩ := and_e h2
  obtain ⟨i3, e3⟩ := is_v q3
  obtain rfl : w3 = (.int i3) := Option.some.inj e3
  have q4 := h2
  obtain ⟨i4, e4⟩ := is_v q4
  obtain rfl : w4 = (.int i4) := Option.some.inj e4
  have hew : EW s #[(.int i0), (.int i1), (.int i2), (.int i3), (.int i4)] EL1 := (EW.cons (hw _ (List.mem_of_getElem? (i := 11) rfl)) (by decide) (EW.cons (hw _ (List.mem_of_getElem? (i := 154) rfl)) (by decide) (EW.cons (hw _ (List.mem_of_getElem? (i := 148) rfl)) (by decide) (EW.cons (hw _ (List.mem_of_getElem? (i := 143) rfl)) (by decide) (EW.cons (hw _ (List.mem_of_getElem? (i := 151) rfl)) (by decide) (EW.cons (hw _ (List.mem_of_getElem? (i := 157) rfl)) (by decide) (EW.cons (hw _ (List.mem_of_getElem? (i := 144) rfl)) (by decide) (EW.cons (hw _ (List.mem_of_getElem? (i := 145) rfl)) (by decide) EW.nil))))))))
  have G : GH s #[(.int i0), (.int i1), (.int i2), (.int i3), (.int i4)] := ⟨hw, hsets, hew, hn, hfit⟩
  obtain ⟨n, o, h1, h2, h3, v, L, rfl, ⟨⟨_, rfl, hv⟩, N, -⟩, hC, -⟩ := c_law l G i0 i1 i2 i3 i4 s.heap (Old.start s) p e ha hc hk s m _ below hf ((Spec.applies_iff_loose hf).mp happ).1 ⟨rfl, State.Warmed39.refl s, rfl, (fun _ => CHv.start (a0 := _) hew (fun q hq => held_of (hcalls.1 q hq)) (hsets _ (List.mem_of_getElem? (i := 2) rfl)) (hw _ (List.mem_of_getElem? (i := 14) rfl)) (hw _ (List.mem_of_getElem? (i := 13) rfl)))⟩ trivial
  subst hv
  have hq := (hC rfl).2
  refine ⟨n, _, h1, h2, h3, hpost _ _ _ _ _ _ ⟨Cond.after_iff.mpr rfl, Cond.after_iff.mpr (eq_i res_at (Term.int_eval (1)) rfl), trivial⟩ ⟨hq.1, hq.2.1, hq.2.2.1, (hq.2.2.2.sift fun y hy => Or.inr (N y hy)).mono (by decide) (by decide)⟩⟩
theorem main_1_1 : Claimed_1_1 := comes_1 fun _ _ _ _ _ _ h hF => ⟨h.1, hF⟩
theorem main_1_2 : Claimed_1_2 := comes_1 fun _ _ _ _ _ _ h hF => ⟨h.2.1, hF⟩
end Jvm.Pilot.@@N@@
namespace Jvm.Pilot.@@N@@
open Jvm Jvm.ClassFile Sem Op Lib Jvm.Free Jvm.Stand Jvm.Pilot.@@N@@.Jvm.D
/-! MADE BY PROGRAM (witnessworld.py) out of the Statement's table words and the real class files: 24 classes; the members and pool entries that the words name. The judged class is class 1, her method 1. -/
namespace start1
open Jvm.ClassFile
def u (s : String) : CpInfo := .utf8 (stringToUtf16 s)
/-- a pool by its gaps: so many unusable entries, then the entry; so many at the end -/
def gap : Nat → List CpInfo → List CpInfo
  | 0, r => r
  | n + 1, r => .unusable :: gap n r
def poolList (es : List (Nat × CpInfo)) (last : Nat) : List CpInfo := es.foldr (fun e r => gap e.1 (e.2 :: r)) (gap last [])
def pool (es : List (Nat × CpInfo)) (last : Nat) : Array CpInfo := ⟨poolList es last⟩
def fileOf (pool : Array CpInfo) (this : Nat) (attrs : Array Attribute := #[]) (ms : Array MethodInfo := #[]) (fl : Nat := 33) (sup : Nat := 0) (ifs : Array Nat := #[]) (fds : Array FieldInfo := #[]) : ClassFile where
  minorVersion := 0
  majorVersion := 65
  constantPool := pool
  accessFlags := fl
  thisClass := this
  superClass := sup
  interfaces := ifs
  fields := fds
  methods := ms
  attributes := attrs
def plain (name : String) (sup : Option ClassId) : Class where
  name := name
  kind := .ordinary
  loader := none
  accessFlags := 33
  super := sup
  interfaces := #[]
  cf := none
  fields := #[]
  methods := #[]
  instanceTypes := #[]
  staticTypes := #[]
  resolved := #[]
  callSites := []
  init := .initialized
  statics := none
  mirror := none

def pool0 : Array CpInfo := pool [(5, u "<init>"), (0, u "()V"), (1, .class_ 10), (1, u "java/lang/Object")] 113

def k0c0 : Code := { maxStack := 0, maxLocals := 1, code := object_method_1_code, exceptionTable := #[], attributes := #[] }
def k0m0 : Method := { name := "<init>", desc := "()V", sig := { parameters := [], returnType := none }, accessFlags := 1, code := some k0c0 }
/-- java/lang/Object -/
def k0 : Class := { plain "java/lang/Object" none with
  accessFlags := 33
  interfaces := #[]
  cf := some (fileOf pool0 8 #[] #[{ accessFlags := 1, nameIndex := 5, descriptorIndex := 6, attributes := #[] }] 33 0 #[] #[])
  fields := #[]
  methods := #[k0m0]
  instanceTypes := #[]
  staticTypes := #[]
  resolved := Array.replicate 124 none
  statics := none }

def pool1 : Array CpInfo := pool [(2, .class_ 4), (1, u "java/lang/Object"), (0, u "<init>"), (0, u "()V"), (0, .integer 2147483647), (0, .methodref 9 10), (0, .class_ 11), (0, .nameAndType 12 13), (0, u "com/example/hew/hew/MethodKindNounPinLaw"), (0, u "kindOf"), (0, u "(I)Lcom/example/hew/hew/MethodKind;"), (0, .methodref 9 15), (0, .nameAndType 16 17), (0, u "wordOf"), (0, u "(I)Ljava/lang/String;"), (0, .methodref 9 19), (0, .nameAndType 20 21), (0, u "at"), (0, u "(Ljava/lang/String;[CI)C"), (0, .methodref 23 24), (0, .class_ 25), (0, .nameAndType 26 27), (0, u "java/lang/String"), (0, u "length"), (0, u "()I"), (0, .methodref 9 29), (0, .nameAndType 30 31), (0, u "take"), (0, u "([CI)Ljava/lang/String;"), (0, .methodref 33 34), (0, .class_ 35), (0, .nameAndType 36 37), (0, u "com/example/hew/hew/MethodKind"), (0, u "noun"), (0, u "(Ljava/lang/String;)Ljava/lang/String;"), (0, .methodref 23 39), (0, .nameAndType 40 41), (0, u "equals"), (0, u "(Ljava/lang/Object;)Z"), (0, .fieldref 33 43), (0, .nameAndType 44 45), (0, u "LIST"), (0, u "Lcom/example/hew/hew/MethodKind;"), (0, .fieldref 33 47), (0, .nameAndType 48 45), (0, u "GET"), (0, .fieldref 33 50), (0, .nameAndType 51 45), (0, u "CREATE"), (0, .fieldref 33 53), (0, .nameAndType 54 45), (0, u "UPDATE"), (0, .fieldref 33 56), (0, .nameAndType 57 45), (0, u "DELETE"), (0, .fieldref 33 59), (0, .nameAndType 60 45), (0, u "CUSTOM"), (0, .string 62), (0, u "List"), (0, .string 64), (0, u "Get"), (0, .string 66), (0, u "Create"), (0, .string 68), (0, u "Update"), (0, .string 70), (0, u "Delete"), (0, .string 72), (0, u ""), (0, .methodref 23 74), (0, .nameAndType 75 76), (0, u "charAt"), (0, u "(I)C"), (0, .methodref 23 78), (0, .nameAndType 5 79), (0, u "([C)V"), (2, u "law"), (0, u "(IIIII)Z")] 3

def k1m0 : Method := { name := "<init>", desc := "()V", sig := { parameters := [], returnType := none }, accessFlags := 1, code := none }
def k1c1 : Code := { maxStack := 5, maxLocals := 14, code := code, exceptionTable := #[], attributes := #[] }
def k1m1 : Method := { name := "law", desc := "(IIIII)Z", sig := { parameters := [.int, .int, .int, .int, .int], returnType := some .boolean }, accessFlags := 9, code := some k1c1 }
def k1c2 : Code := { maxStack := 2, maxLocals := 1, code := method_3_code, exceptionTable := #[], attributes := #[] }
def k1m2 : Method := { name := "kindOf", desc := "(I)Lcom/example/hew/hew/MethodKind;", sig := { parameters := [.int], returnType := some (.object "com/example/hew/hew/MethodKind") }, accessFlags := 10, code := some k1c2 }
def k1c3 : Code := { maxStack := 2, maxLocals := 1, code := method_4_code, exceptionTable := #[], attributes := #[] }
def k1m3 : Method := { name := "wordOf", desc := "(I)Ljava/lang/String;", sig := { parameters := [.int], returnType := some (.object "java/lang/String") }, accessFlags := 10, code := some k1c3 }
def k1c4 : Code := { maxStack := 2, maxLocals := 4, code := method_5_code, exceptionTable := #[], attributes := #[] }
def k1m4 : Method := { name := "at", desc := "(Ljava/lang/String;[CI)C", sig := { parameters := [(.object "java/lang/String"), (.array .char), .int], returnType := some .char }, accessFlags := 10, code := some k1c4 }
def k1c5 : Code := { maxStack := 7, maxLocals := 2, code := method_6_code, exceptionTable := #[], attributes := #[] }
def k1m5 : Method := { name := "take", desc := "([CI)Ljava/lang/String;", sig := { parameters := [(.array .char), .int], returnType := some (.object "java/lang/String") }, accessFlags := 10, code := some k1c5 }
/-- com/example/hew/hew/MethodKindNounPinLaw -/
def k1 : Class := { plain "com/example/hew/hew/MethodKindNounPinLaw" (some 0) with
  accessFlags := 49
  interfaces := #[]
  cf := some (fileOf pool1 9 #[] #[{ accessFlags := 1, nameIndex := 5, descriptorIndex := 6, attributes := #[] }, { accessFlags := 9, nameIndex := 82, descriptorIndex := 83, attributes := #[] }, { accessFlags := 10, nameIndex := 12, descriptorIndex := 13, attributes := #[] }, { accessFlags := 10, nameIndex := 16, descriptorIndex := 17, attributes := #[] }, { accessFlags := 10, nameIndex := 20, descriptorIndex := 21, attributes := #[] }, { accessFlags := 10, nameIndex := 30, descriptorIndex := 31, attributes := #[] }] 49 2 #[] #[])
  fields := #[]
  methods := #[k1m0, k1m1, k1m2, k1m3, k1m4, k1m5]
  instanceTypes := #[]
  staticTypes := #[]
  resolved := Array.replicate 87 none
  statics := none }

def pool2 : Array CpInfo := pool [(1, .class_ 2), (0, u "java/lang/constant/Constable"), (0, .class_ 4), (0, u "java/lang/Object")] 6

/-- java/lang/constant/Constable -/
def k2 : Class := { plain "java/lang/constant/Constable" (some 0) with
  accessFlags := 1537
  interfaces := #[]
  cf := some (fileOf pool2 1 #[] #[] 1537 3 #[] #[])
  fields := #[]
  methods := #[]
  instanceTypes := #[]
  staticTypes := #[]
  resolved := Array.replicate 11 none
  statics := none }

def pool3 : Array CpInfo := pool [(1, .class_ 2), (0, u "java/lang/Comparable"), (0, .class_ 4), (0, u "java/lang/Object")] 7

/-- java/lang/Comparable -/
def k3 : Class := { plain "java/lang/Comparable" (some 0) with
  accessFlags := 1537
  interfaces := #[]
  cf := some (fileOf pool3 1 #[] #[] 1537 3 #[] #[])
  fields := #[]
  methods := #[]
  instanceTypes := #[]
  staticTypes := #[]
  resolved := Array.replicate 12 none
  statics := none }

def pool4 : Array CpInfo := pool [(1, .class_ 2), (0, u "java/io/Serializable"), (0, .class_ 4), (0, u "java/lang/Object")] 2

/-- java/io/Serializable -/
def k4 : Class := { plain "java/io/Serializable" (some 0) with
  accessFlags := 1537
  interfaces := #[]
  cf := some (fileOf pool4 1 #[] #[] 1537 3 #[] #[])
  fields := #[]
  methods := #[]
  instanceTypes := #[]
  staticTypes := #[]
  resolved := Array.replicate 7 none
  statics := none }

def pool5 : Array CpInfo := pool [(2, .class_ 4), (1, u "java/lang/Enum"), (0, u "name"), (0, u "Ljava/lang/String;"), (2, u "ordinal"), (0, u "I"), (1, .class_ 14), (1, u "java/lang/Object"), (4, u "hash"), (86, .class_ 108), (1, u "java/lang/Enum$EnumDesc"), (2, .class_ 112), (0, u "java/lang/constant/Constable"), (0, .class_ 114), (0, u "java/lang/Comparable"), (0, .class_ 116), (0, u "java/io/Serializable")] 87

/-- java/lang/Enum -/
def k5 : Class := { plain "java/lang/Enum" (some 0) with
  accessFlags := 1057
  interfaces := #[2, 3, 4]
  cf := some (fileOf pool5 2 #[.nestMembers #[106]] #[] 1057 12 #[111, 113, 115] #[{ accessFlags := 18, nameIndex := 5, descriptorIndex := 6, attributes := #[] }, { accessFlags := 18, nameIndex := 9, descriptorIndex := 10, attributes := #[] }, { accessFlags := 2, nameIndex := 19, descriptorIndex := 10, attributes := #[] }])
  fields := #[{ name := "name", type := (.object "java/lang/String"), accessFlags := 18, slot := 0, constantValue := 0 }, { name := "ordinal", type := .int, accessFlags := 18, slot := 1, constantValue := 0 }, { name := "hash", type := .int, accessFlags := 2, slot := 2, constantValue := 0 }]
  methods := #[]
  instanceTypes := #[(.object "java/lang/String"), .int, .int]
  staticTypes := #[]
  resolved := Array.replicate 204 none
  statics := none }

def pool6 : Array CpInfo := pool [(1, .class_ 2), (0, u "com/example/hew/hew/MethodKind"), (2, u "LIST"), (0, u "Lcom/example/hew/hew/MethodKind;"), (2, u "GET"), (2, u "CREATE"), (2, u "UPDATE"), (2, u "DELETE"), (2, u "CUSTOM"), (2, u "$VALUES"), (0, u "[Lcom/example/hew/hew/MethodKind;"), (6, .class_ 34), (1, u "java/lang/Enum"), (6, .fieldref 1 42), (0, .nameAndType 43 44), (0, u "prefix"), (0, u "Ljava/lang/String;"), (24, u "STANDARD"), (0, u "Ljava/util/List;"), (5, u "()I"), (9, .class_ 88), (1, u "java/lang/String"), (2, .methodref 86 92), (0, .nameAndType 93 76), (0, u "length"), (8, .methodref 86 103), (0, .nameAndType 104 105), (0, u "substring"), (0, u "(I)Ljava/lang/String;"), (3, u "(Ljava/lang/String;)Ljava/lang/String;"), (66, u "noun")] 22

def k6c0 : Code := { maxStack := 2, maxLocals := 2, code := prog_32_method_8_code, exceptionTable := #[], attributes := #[] }
def k6m0 : Method := { name := "noun", desc := "(Ljava/lang/String;)Ljava/lang/String;", sig := { parameters := [(.object "java/lang/String")], returnType := some (.object "java/lang/String") }, accessFlags := 1, code := some k6c0 }
/-- com/example/hew/hew/MethodKind -/
def k6 : Class := { plain "com/example/hew/hew/MethodKind" (some 5) with
  accessFlags := 16433
  interfaces := #[]
  cf := some (fileOf pool6 1 #[] #[{ accessFlags := 1, nameIndex := 176, descriptorIndex := 109, attributes := #[] }] 16433 32 #[] #[{ accessFlags := 16409, nameIndex := 5, descriptorIndex := 6, attributes := #[] }, { accessFlags := 16409, nameIndex := 9, descriptorIndex := 6, attributes := #[] }, { accessFlags := 16409, nameIndex := 12, descriptorIndex := 6, attributes := #[] }, { accessFlags := 16409, nameIndex := 15, descriptorIndex := 6, attributes := #[] }, { accessFlags := 16409, nameIndex := 18, descriptorIndex := 6, attributes := #[] }, { accessFlags := 16409, nameIndex := 21, descriptorIndex := 6, attributes := #[] }, { accessFlags := 26, nameIndex := 69, descriptorIndex := 70, attributes := #[] }, { accessFlags := 18, nameIndex := 43, descriptorIndex := 44, attributes := #[] }, { accessFlags := 4122, nameIndex := 24, descriptorIndex := 25, attributes := #[] }])
  fields := #[{ name := "LIST", type := (.object "com/example/hew/hew/MethodKind"), accessFlags := 16409, slot := 0, constantValue := 0 }, { name := "GET", type := (.object "com/example/hew/hew/MethodKind"), accessFlags := 16409, slot := 1, constantValue := 0 }, { name := "CREATE", type := (.object "com/example/hew/hew/MethodKind"), accessFlags := 16409, slot := 2, constantValue := 0 }, { name := "UPDATE", type := (.object "com/example/hew/hew/MethodKind"), accessFlags := 16409, slot := 3, constantValue := 0 }, { name := "DELETE", type := (.object "com/example/hew/hew/MethodKind"), accessFlags := 16409, slot := 4, constantValue := 0 }, { name := "CUSTOM", type := (.object "com/example/hew/hew/MethodKind"), accessFlags := 16409, slot := 5, constantValue := 0 }, { name := "STANDARD", type := (.object "java/util/List"), accessFlags := 26, slot := 6, constantValue := 0 }, { name := "prefix", type := (.object "java/lang/String"), accessFlags := 18, slot := 3, constantValue := 0 }, { name := "$VALUES", type := (.array (.object "com/example/hew/hew/MethodKind")), accessFlags := 4122, slot := 7, constantValue := 0 }]
  methods := #[k6m0]
  instanceTypes := #[(.object "java/lang/String"), .int, .int, (.object "java/lang/String")]
  staticTypes := #[(.object "com/example/hew/hew/MethodKind"), (.object "com/example/hew/hew/MethodKind"), (.object "com/example/hew/hew/MethodKind"), (.object "com/example/hew/hew/MethodKind"), (.object "com/example/hew/hew/MethodKind"), (.object "com/example/hew/hew/MethodKind"), (.object "java/util/List"), (.array (.object "com/example/hew/hew/MethodKind"))]
  resolved := Array.replicate 199 none
  statics := some 0 }

def pool7 : Array CpInfo := pool [(2, .class_ 4), (1, u "java/lang/CharSequence"), (42, .class_ 48), (0, u "java/lang/CharSequence$1CodePointIterator"), (10, .class_ 60), (0, u "java/lang/CharSequence$1CharIterator"), (5, .class_ 67), (0, u "java/lang/Object")] 63

/-- java/lang/CharSequence -/
def k7 : Class := { plain "java/lang/CharSequence" (some 0) with
  accessFlags := 1537
  interfaces := #[]
  cf := some (fileOf pool7 2 #[.nestMembers #[47, 59]] #[] 1537 66 #[] #[])
  fields := #[]
  methods := #[]
  instanceTypes := #[]
  staticTypes := #[]
  resolved := Array.replicate 131 none
  statics := none }

def pool8 : Array CpInfo := pool [(1, .class_ 2), (0, u "java/lang/constant/ConstantDesc"), (0, .class_ 4), (0, u "java/lang/Object")] 32

/-- java/lang/constant/ConstantDesc -/
def k8 : Class := { plain "java/lang/constant/ConstantDesc" (some 0) with
  accessFlags := 1537
  interfaces := #[]
  cf := some (fileOf pool8 1 #[] #[] 1537 3 #[] #[])
  fields := #[]
  methods := #[]
  instanceTypes := #[]
  staticTypes := #[]
  resolved := Array.replicate 37 none
  statics := none }

def pool9 : Array CpInfo := pool [(1, .methodref 2 3), (0, .class_ 4), (0, .nameAndType 5 6), (0, u "java/lang/Object"), (0, u "<init>"), (0, u "()V"), (0, .string 8), (0, u ""), (0, .fieldref 10 11), (0, .class_ 12), (0, .nameAndType 13 14), (0, u "java/lang/String"), (0, u "value"), (0, u "[B"), (0, .fieldref 10 16), (0, .nameAndType 17 18), (0, u "coder"), (0, u "B"), (2, u "hash"), (0, u "I"), (2, u "hashIsZero"), (0, u "Z"), (0, .methodref 10 28), (0, .nameAndType 5 29), (0, u "([CIILjava/lang/Void;)V"), (8, .fieldref 10 39), (0, .nameAndType 40 26), (0, u "COMPACT_STRINGS"), (1, .class_ 44), (1, u "java/lang/StringUTF16"), (0, u "compress"), (1, .methodref 42 48), (0, .nameAndType 49 50), (0, u "coderFromArrayLen"), (0, u "([BI)B"), (56, .class_ 109), (1, u "java/lang/StringLatin1"), (32, u "()Z"), (34, .methodref 42 178), (0, .nameAndType 45 179), (0, u "([CII)[B"), (31, u "([BB)V"), (122, u "()I"), (0, .methodref 10 336), (0, .nameAndType 17 337), (0, u "()B"), (25, u "([BI)C"), (27, u "(II)V"), (35, u "(I)C"), (64, .methodref 10 493), (0, .nameAndType 494 142), (0, u "isLatin1"), (0, .methodref 107 496), (0, .nameAndType 497 363), (0, u "charAt"), (3, u "checkIndex"), (3, .methodref 10 506), (0, .nameAndType 507 334), (0, u "length"), (5, u "checkFromToIndex"), (7, .methodref 10 522), (0, .nameAndType 523 524), (0, u "checkBoundsBeginEnd"), (0, u "(III)V"), (16, .methodref 107 542), (0, .nameAndType 543 544), (0, u "equals"), (0, u "([B[B)Z"), (28, u "(Ljava/lang/Object;)Z"), (1, .class_ 576), (0, u "java/lang/CharSequence"), (22, u "CASE_INSENSITIVE_ORDER"), (0, u "Ljava/util/Comparator;"), (80, .methodref 10 682), (0, .nameAndType 683 684), (0, u "substring"), (0, u "(II)Ljava/lang/String;"), (0, .methodref 107 686), (0, .nameAndType 687 688), (0, u "newString"), (0, u "([BII)Ljava/lang/String;"), (203, u "(I)Ljava/lang/String;"), (117, u "([C)V"), (42, .fieldref 1054 1055), (0, .class_ 1056), (0, .nameAndType 1057 1058), (0, u "jdk/internal/util/Preconditions"), (0, u "SIOOBE_FORMATTER"), (0, u "Ljava/util/function/BiFunction;"), (0, .methodref 1054 1060), (0, .nameAndType 501 1061), (0, u "(IILjava/util/function/BiFunction;)I"), (0, .methodref 1054 1063), (0, .nameAndType 513 1064), (0, u "(IIILjava/util/function/BiFunction;)I"), (36, u "serialPersistentFields"), (0, u "[Ljava/io/ObjectStreamField;"), (0, .class_ 1104), (0, u "java/lang/String$CaseInsensitiveComparator"), (1, .class_ 1107), (0, u "java/io/Serializable"), (0, .class_ 1109), (0, u "java/lang/Comparable"), (0, .class_ 1111), (0, u "java/lang/constant/Constable"), (0, .class_ 1113), (0, u "java/lang/constant/ConstantDesc"), (2, u "serialVersionUID"), (0, u "J"), (3, u "REPL"), (0, u "C"), (2, u "LATIN1"), (1, u "UTF16")] 323

def k9m0 : Method := { name := "<init>", desc := "()V", sig := { parameters := [], returnType := none }, accessFlags := 1, code := none }
def k9c1 : Code := { maxStack := 5, maxLocals := 2, code := jdk_42_method_3_code, exceptionTable := #[], attributes := #[] }
def k9m1 : Method := { name := "<init>", desc := "([C)V", sig := { parameters := [(.array .char)], returnType := none }, accessFlags := 1, code := some k9c1 }
def k9c2 : Code := { maxStack := 2, maxLocals := 1, code := jdk_42_method_54_code, exceptionTable := #[], attributes := #[] }
def k9m2 : Method := { name := "length", desc := "()I", sig := { parameters := [], returnType := some .int }, accessFlags := 1, code := some k9c2 }
def k9c3 : Code := { maxStack := 2, maxLocals := 2, code := jdk_42_method_56_code, exceptionTable := #[], attributes := #[] }
def k9m3 : Method := { name := "charAt", desc := "(I)C", sig := { parameters := [.int], returnType := some .char }, accessFlags := 1, code := some k9c3 }
def k9c4 : Code := { maxStack := 2, maxLocals := 3, code := jdk_42_method_66_code, exceptionTable := #[], attributes := #[] }
def k9m4 : Method := { name := "equals", desc := "(Ljava/lang/Object;)Z", sig := { parameters := [(.object "java/lang/Object")], returnType := some .boolean }, accessFlags := 1, code := some k9c4 }
def k9c5 : Code := { maxStack := 3, maxLocals := 2, code := jdk_42_method_91_code, exceptionTable := #[], attributes := #[] }
def k9m5 : Method := { name := "substring", desc := "(I)Ljava/lang/String;", sig := { parameters := [.int], returnType := some (.object "java/lang/String") }, accessFlags := 1, code := some k9c5 }
def k9c6 : Code := { maxStack := 3, maxLocals := 5, code := jdk_42_method_92_code, exceptionTable := #[], attributes := #[] }
def k9m6 : Method := { name := "substring", desc := "(II)Ljava/lang/String;", sig := { parameters := [.int, .int], returnType := some (.object "java/lang/String") }, accessFlags := 1, code := some k9c6 }
def k9c7 : Code := { maxStack := 4, maxLocals := 6, code := jdk_42_method_149_code, exceptionTable := #[], attributes := #[] }
def k9m7 : Method := { name := "<init>", desc := "([CIILjava/lang/Void;)V", sig := { parameters := [(.array .char), .int, .int, (.object "java/lang/Void")], returnType := none }, accessFlags := 2, code := some k9c7 }
def k9c8 : Code := { maxStack := 2, maxLocals := 3, code := jdk_42_method_151_code, exceptionTable := #[], attributes := #[] }
def k9m8 : Method := { name := "<init>", desc := "([BB)V", sig := { parameters := [(.array .byte), .byte], returnType := none }, accessFlags := 0, code := some k9c8 }
def k9c9 : Code := { maxStack := 1, maxLocals := 1, code := jdk_42_method_152_code, exceptionTable := #[], attributes := #[] }
def k9m9 : Method := { name := "coder", desc := "()B", sig := { parameters := [], returnType := some .byte }, accessFlags := 0, code := some k9c9 }
def k9c10 : Code := { maxStack := 1, maxLocals := 1, code := jdk_42_method_154_code, exceptionTable := #[], attributes := #[] }
def k9m10 : Method := { name := "isLatin1", desc := "()Z", sig := { parameters := [], returnType := some .boolean }, accessFlags := 0, code := some k9c10 }
def k9c11 : Code := { maxStack := 3, maxLocals := 2, code := jdk_42_method_155_code, exceptionTable := #[], attributes := #[] }
def k9m11 : Method := { name := "checkIndex", desc := "(II)V", sig := { parameters := [.int, .int], returnType := none }, accessFlags := 8, code := some k9c11 }
def k9c12 : Code := { maxStack := 4, maxLocals := 3, code := jdk_42_method_158_code, exceptionTable := #[], attributes := #[] }
def k9m12 : Method := { name := "checkBoundsBeginEnd", desc := "(III)V", sig := { parameters := [.int, .int, .int], returnType := none }, accessFlags := 8, code := some k9c12 }
/-- java/lang/String -/
def k9 : Class := { plain "java/lang/String" (some 0) with
  accessFlags := 49
  interfaces := #[4, 3, 7, 2, 8]
  cf := some (fileOf pool9 10 #[.nestMembers #[1103]] #[{ accessFlags := 1, nameIndex := 5, descriptorIndex := 6, attributes := #[] }, { accessFlags := 1, nameIndex := 5, descriptorIndex := 1010, attributes := #[] }, { accessFlags := 1, nameIndex := 507, descriptorIndex := 334, attributes := #[] }, { accessFlags := 1, nameIndex := 497, descriptorIndex := 427, attributes := #[] }, { accessFlags := 1, nameIndex := 543, descriptorIndex := 573, attributes := #[] }, { accessFlags := 1, nameIndex := 683, descriptorIndex := 892, attributes := #[] }, { accessFlags := 1, nameIndex := 683, descriptorIndex := 684, attributes := #[] }, { accessFlags := 2, nameIndex := 5, descriptorIndex := 29, attributes := #[] }, { accessFlags := 0, nameIndex := 5, descriptorIndex := 211, attributes := #[] }, { accessFlags := 0, nameIndex := 17, descriptorIndex := 337, attributes := #[] }, { accessFlags := 0, nameIndex := 494, descriptorIndex := 142, attributes := #[] }, { accessFlags := 8, nameIndex := 501, descriptorIndex := 391, attributes := #[] }, { accessFlags := 8, nameIndex := 523, descriptorIndex := 524, attributes := #[] }] 49 2 #[1106, 1108, 575, 1110, 1112] #[{ accessFlags := 18, nameIndex := 13, descriptorIndex := 14, attributes := #[] }, { accessFlags := 18, nameIndex := 17, descriptorIndex := 18, attributes := #[] }, { accessFlags := 2, nameIndex := 21, descriptorIndex := 22, attributes := #[] }, { accessFlags := 2, nameIndex := 25, descriptorIndex := 26, attributes := #[] }, { accessFlags := 26, nameIndex := 1116, descriptorIndex := 1117, attributes := #[] }, { accessFlags := 24, nameIndex := 40, descriptorIndex := 26, attributes := #[] }, { accessFlags := 26, nameIndex := 1101, descriptorIndex := 1102, attributes := #[] }, { accessFlags := 26, nameIndex := 1121, descriptorIndex := 1122, attributes := #[] }, { accessFlags := 25, nameIndex := 599, descriptorIndex := 600, attributes := #[] }, { accessFlags := 24, nameIndex := 1125, descriptorIndex := 18, attributes := #[] }, { accessFlags := 24, nameIndex := 1127, descriptorIndex := 18, attributes := #[] }])
  fields := #[{ name := "value", type := (.array .byte), accessFlags := 18, slot := 0, constantValue := 0 }, { name := "coder", type := .byte, accessFlags := 18, slot := 1, constantValue := 0 }, { name := "hash", type := .int, accessFlags := 2, slot := 2, constantValue := 0 }, { name := "hashIsZero", type := .boolean, accessFlags := 2, slot := 3, constantValue := 0 }, { name := "serialVersionUID", type := .long, accessFlags := 26, slot := 0, constantValue := 0 }, { name := "COMPACT_STRINGS", type := .boolean, accessFlags := 24, slot := 1, constantValue := 0 }, { name := "serialPersistentFields", type := (.array (.object "java/io/ObjectStreamField")), accessFlags := 26, slot := 2, constantValue := 0 }, { name := "REPL", type := .char, accessFlags := 26, slot := 3, constantValue := 0 }, { name := "CASE_INSENSITIVE_ORDER", type := (.object "java/util/Comparator"), accessFlags := 25, slot := 4, constantValue := 0 }, { name := "LATIN1", type := .byte, accessFlags := 24, slot := 5, constantValue := 0 }, { name := "UTF16", type := .byte, accessFlags := 24, slot := 6, constantValue := 0 }]
  methods := #[k9m0, k9m1, k9m2, k9m3, k9m4, k9m5, k9m6, k9m7, k9m8, k9m9, k9m10, k9m11, k9m12]
  instanceTypes := #[(.array .byte), .byte, .int, .boolean]
  staticTypes := #[.long, .boolean, (.array (.object "java/io/ObjectStreamField")), .char, (.object "java/util/Comparator"), .byte, .byte]
  resolved := Array.replicate 1451 none
  statics := some 1 }

def pool10 : Array CpInfo := pool [(1, .class_ 2), (0, u "java/lang/String"), (1, .class_ 6), (1, u "java/lang/Object"), (0, u "<init>"), (0, u "()V"), (0, .methodref 1 10), (0, .nameAndType 11 12), (0, u "checkIndex"), (0, u "(II)V"), (1, .class_ 16), (1, u "java/lang/StringLatin1"), (36, u "([BI)C"), (58, .methodref 1 113), (0, .nameAndType 7 114), (0, u "([BB)V"), (6, u "$assertionsDisabled"), (0, u "Z"), (8, .class_ 133), (1, u "java/util/Arrays"), (17, .string 152), (0, u ""), (43, u "newString"), (0, u "([BII)Ljava/lang/String;"), (23, .class_ 223), (1, u "java/lang/StringLatin1$LinesSpliterator"), (8, .methodref 131 233), (0, .nameAndType 234 235), (0, u "copyOfRange"), (0, u "([BII)[B"), (16, u "charAt"), (28, u "equals"), (0, u "([B[B)Z"), (107, .class_ 391), (0, u "java/lang/StringLatin1$CharsSpliterator")] 3

def k10m0 : Method := { name := "<init>", desc := "()V", sig := { parameters := [], returnType := none }, accessFlags := 0, code := none }
def k10c1 : Code := { maxStack := 2, maxLocals := 2, code := jdk_43_method_2_code, exceptionTable := #[], attributes := #[] }
def k10m1 : Method := { name := "charAt", desc := "([BI)C", sig := { parameters := [(.array .byte), .int], returnType := some .char }, accessFlags := 9, code := some k10c1 }
def k10c2 : Code := { maxStack := 3, maxLocals := 3, code := jdk_43_method_13_code, exceptionTable := #[], attributes := #[] }
def k10m2 : Method := { name := "equals", desc := "([B[B)Z", sig := { parameters := [(.array .byte), (.array .byte)], returnType := some .boolean }, accessFlags := 9, code := some k10c2 }
def k10c3 : Code := { maxStack := 6, maxLocals := 3, code := jdk_43_method_47_code, exceptionTable := #[], attributes := #[] }
def k10m3 : Method := { name := "newString", desc := "([BII)Ljava/lang/String;", sig := { parameters := [(.array .byte), .int, .int], returnType := some (.object "java/lang/String") }, accessFlags := 9, code := some k10c3 }
/-- java/lang/StringLatin1 -/
def k10 : Class := { plain "java/lang/StringLatin1" (some 0) with
  accessFlags := 48
  interfaces := #[]
  cf := some (fileOf pool10 14 #[.nestMembers #[390, 221]] #[{ accessFlags := 0, nameIndex := 7, descriptorIndex := 8, attributes := #[] }, { accessFlags := 9, nameIndex := 252, descriptorIndex := 53, attributes := #[] }, { accessFlags := 9, nameIndex := 281, descriptorIndex := 282, attributes := #[] }, { accessFlags := 9, nameIndex := 196, descriptorIndex := 197, attributes := #[] }] 48 4 #[] #[{ accessFlags := 4120, nameIndex := 121, descriptorIndex := 122, attributes := #[] }])
  fields := #[{ name := "$assertionsDisabled", type := .boolean, accessFlags := 4120, slot := 0, constantValue := 0 }]
  methods := #[k10m0, k10m1, k10m2, k10m3]
  instanceTypes := #[]
  staticTypes := #[.boolean]
  resolved := Array.replicate 395 none
  statics := none }

def pool11 : Array CpInfo := pool [(2, .class_ 4), (1, u "java/lang/Object"), (0, u "<init>"), (0, u "()V"), (17, .class_ 26), (1, u "jdk/internal/util/Preconditions"), (6, u "checkIndex"), (13, u "checkFromToIndex"), (7, .class_ 56), (0, u "jdk/internal/util/Preconditions$4"), (57, .class_ 115), (0, u "jdk/internal/util/Preconditions$1"), (7, u "SIOOBE_FORMATTER"), (0, u "Ljava/util/function/BiFunction;"), (0, .class_ 126), (0, u "jdk/internal/util/Preconditions$2"), (3, u "AIOOBE_FORMATTER"), (0, .class_ 132), (0, u "jdk/internal/util/Preconditions$3"), (3, u "IOOBE_FORMATTER"), (41, u "(IILjava/util/function/BiFunction;)I"), (4, u "(IIILjava/util/function/BiFunction;)I")] 10

def k11m0 : Method := { name := "<init>", desc := "()V", sig := { parameters := [], returnType := none }, accessFlags := 1, code := none }
def k11c1 : Code := { maxStack := 3, maxLocals := 3, code := jdk_41_method_11_code, exceptionTable := #[], attributes := #[] }
def k11m1 : Method := { name := "checkIndex", desc := "(IILjava/util/function/BiFunction;)I", sig := { parameters := [.int, .int, (.object "java/util/function/BiFunction")], returnType := some .int }, accessFlags := 9, code := some k11c1 }
def k11c2 : Code := { maxStack := 4, maxLocals := 4, code := jdk_41_method_12_code, exceptionTable := #[], attributes := #[] }
def k11m2 : Method := { name := "checkFromToIndex", desc := "(IIILjava/util/function/BiFunction;)I", sig := { parameters := [.int, .int, .int, (.object "java/util/function/BiFunction")], returnType := some .int }, accessFlags := 9, code := some k11c2 }
/-- jdk/internal/util/Preconditions -/
def k11 : Class := { plain "jdk/internal/util/Preconditions" (some 0) with
  accessFlags := 33
  interfaces := #[]
  cf := some (fileOf pool11 24 #[.nestMembers #[55, 131, 125, 114]] #[{ accessFlags := 1, nameIndex := 5, descriptorIndex := 6, attributes := #[] }, { accessFlags := 9, nameIndex := 33, descriptorIndex := 178, attributes := #[] }, { accessFlags := 9, nameIndex := 47, descriptorIndex := 183, attributes := #[] }] 33 2 #[] #[{ accessFlags := 25, nameIndex := 123, descriptorIndex := 124, attributes := #[] }, { accessFlags := 25, nameIndex := 130, descriptorIndex := 124, attributes := #[] }, { accessFlags := 25, nameIndex := 136, descriptorIndex := 124, attributes := #[] }])
  fields := #[{ name := "SIOOBE_FORMATTER", type := (.object "java/util/function/BiFunction"), accessFlags := 25, slot := 0, constantValue := 0 }, { name := "AIOOBE_FORMATTER", type := (.object "java/util/function/BiFunction"), accessFlags := 25, slot := 1, constantValue := 0 }, { name := "IOOBE_FORMATTER", type := (.object "java/util/function/BiFunction"), accessFlags := 25, slot := 2, constantValue := 0 }]
  methods := #[k11m0, k11m1, k11m2]
  instanceTypes := #[]
  staticTypes := #[(.object "java/util/function/BiFunction"), (.object "java/util/function/BiFunction"), (.object "java/util/function/BiFunction")]
  resolved := Array.replicate 194 none
  statics := some 2 }

def pool12 : Array CpInfo := pool [(6, .class_ 8), (1, u "java/lang/Object"), (0, u "<init>"), (0, u "()V"), (1, .class_ 14), (1, u "java/lang/StringUTF16"), (31, u "$assertionsDisabled"), (0, u "Z"), (13, u "HI_BYTE_SHIFT"), (0, u "I"), (2, u "LO_BYTE_SHIFT"), (49, .methodref 12 116), (0, .nameAndType 117 118), (0, u "compress"), (0, u "([CI[BII)I"), (3, u "([CII)[B"), (138, u "coderFromArrayLen"), (0, u "([BI)B"), (106, .class_ 371), (1, u "java/lang/StringUTF16$LinesSpliterator"), (58, u "MAX_LENGTH"), (196, .class_ 628), (0, u "java/lang/StringUTF16$CodePointsSpliterator"), (0, .class_ 630), (0, u "java/lang/StringUTF16$CharsSpliterator")] 4

def k12m0 : Method := { name := "<init>", desc := "()V", sig := { parameters := [], returnType := none }, accessFlags := 0, code := none }
def k12c1 : Code := { maxStack := 2, maxLocals := 2, code := jdk_52_method_15_code, exceptionTable := #[], attributes := #[] }
def k12m1 : Method := { name := "coderFromArrayLen", desc := "([BI)B", sig := { parameters := [(.array .byte), .int], returnType := some .byte }, accessFlags := 8, code := some k12c1 }
def k12c2 : Code := { maxStack := 5, maxLocals := 6, code := jdk_52_method_16_code, exceptionTable := #[], attributes := #[] }
def k12m2 : Method := { name := "compress", desc := "([CII)[B", sig := { parameters := [(.array .char), .int, .int], returnType := some (.array .byte) }, accessFlags := 9, code := some k12c2 }
def k12c3 : Code := { maxStack := 3, maxLocals := 7, code := jdk_52_method_21_code, exceptionTable := #[], attributes := #[] }
def k12m3 : Method := { name := "compress", desc := "([CI[BII)I", sig := { parameters := [(.array .char), .int, (.array .byte), .int, .int], returnType := some .int }, accessFlags := 9, code := some k12c3 }
/-- java/lang/StringUTF16 -/
def k12 : Class := { plain "java/lang/StringUTF16" (some 0) with
  accessFlags := 48
  interfaces := #[]
  cf := some (fileOf pool12 12 #[.nestMembers #[627, 629, 369]] #[{ accessFlags := 0, nameIndex := 9, descriptorIndex := 10, attributes := #[] }, { accessFlags := 8, nameIndex := 261, descriptorIndex := 262, attributes := #[] }, { accessFlags := 9, nameIndex := 117, descriptorIndex := 122, attributes := #[] }, { accessFlags := 9, nameIndex := 117, descriptorIndex := 118, attributes := #[] }] 48 6 #[] #[{ accessFlags := 26, nameIndex := 61, descriptorIndex := 62, attributes := #[] }, { accessFlags := 26, nameIndex := 65, descriptorIndex := 62, attributes := #[] }, { accessFlags := 24, nameIndex := 430, descriptorIndex := 62, attributes := #[] }, { accessFlags := 4120, nameIndex := 46, descriptorIndex := 47, attributes := #[] }])
  fields := #[{ name := "HI_BYTE_SHIFT", type := .int, accessFlags := 26, slot := 0, constantValue := 0 }, { name := "LO_BYTE_SHIFT", type := .int, accessFlags := 26, slot := 1, constantValue := 0 }, { name := "MAX_LENGTH", type := .int, accessFlags := 24, slot := 2, constantValue := 0 }, { name := "$assertionsDisabled", type := .boolean, accessFlags := 4120, slot := 3, constantValue := 0 }]
  methods := #[k12m0, k12m1, k12m2, k12m3]
  instanceTypes := #[]
  staticTypes := #[.int, .int, .int, .boolean]
  resolved := Array.replicate 635 none
  statics := none }

def pool13 : Array CpInfo := pool [(2, .class_ 4), (1, u "java/lang/Object"), (0, u "<init>"), (0, u "()V"), (7, .class_ 16), (1, u "java/util/Arrays"), (57, .class_ 76), (1, u "java/util/Arrays$NaturalOrder"), (36, .class_ 115), (1, u "java/util/Arrays$LegacyMergeSort"), (1, u "Z"), (21, u "copyOfRange"), (10, .methodref 151 152), (0, .class_ 153), (0, .nameAndType 154 155), (0, u "java/lang/System"), (0, u "arraycopy"), (0, u "(Ljava/lang/Object;ILjava/lang/Object;II)V"), (148, .methodref 305 306), (0, .class_ 307), (0, .nameAndType 308 309), (0, u "java/lang/Math"), (0, u "min"), (0, u "(II)I"), (29, .methodref 14 340), (0, .nameAndType 341 342), (0, u "copyOfRangeByte"), (0, u "([BII)[B"), (0, .methodref 14 344), (0, .nameAndType 345 346), (0, u "checkLength"), (0, u "(II)V"), (28, .class_ 376), (0, u "java/util/Arrays$ArrayList"), (68, u "$assertionsDisabled"), (269, u "MIN_ARRAY_SORT_GRAN"), (0, u "I"), (2, u "INSERTIONSORT_THRESHOLD"), (255, .class_ 976), (0, u "java/util/Arrays$ArrayItr")] 52

def k13m0 : Method := { name := "<init>", desc := "()V", sig := { parameters := [], returnType := none }, accessFlags := 2, code := none }
def k13c1 : Code := { maxStack := 4, maxLocals := 2, code := jdk_65_method_131_code, exceptionTable := #[], attributes := #[] }
def k13m1 : Method := { name := "checkLength", desc := "(II)V", sig := { parameters := [.int, .int], returnType := none }, accessFlags := 10, code := some k13c1 }
def k13c2 : Code := { maxStack := 3, maxLocals := 3, code := jdk_65_method_132_code, exceptionTable := #[], attributes := #[] }
def k13m2 : Method := { name := "copyOfRange", desc := "([BII)[B", sig := { parameters := [(.array .byte), .int, .int], returnType := some (.array .byte) }, accessFlags := 9, code := some k13c2 }
def k13c3 : Code := { maxStack := 6, maxLocals := 5, code := jdk_65_method_133_code, exceptionTable := #[], attributes := #[] }
def k13m3 : Method := { name := "copyOfRangeByte", desc := "([BII)[B", sig := { parameters := [(.array .byte), .int, .int], returnType := some (.array .byte) }, accessFlags := 10, code := some k13c3 }
/-- java/util/Arrays -/
def k13 : Class := { plain "java/util/Arrays" (some 0) with
  accessFlags := 49
  interfaces := #[]
  cf := some (fileOf pool13 14 #[.nestMembers #[975, 375, 113, 74]] #[{ accessFlags := 2, nameIndex := 5, descriptorIndex := 6, attributes := #[] }, { accessFlags := 10, nameIndex := 345, descriptorIndex := 346, attributes := #[] }, { accessFlags := 9, nameIndex := 139, descriptorIndex := 342, attributes := #[] }, { accessFlags := 10, nameIndex := 341, descriptorIndex := 342, attributes := #[] }] 49 2 #[] #[{ accessFlags := 26, nameIndex := 715, descriptorIndex := 716, attributes := #[] }, { accessFlags := 26, nameIndex := 719, descriptorIndex := 716, attributes := #[] }, { accessFlags := 4120, nameIndex := 445, descriptorIndex := 117, attributes := #[] }])
  fields := #[{ name := "MIN_ARRAY_SORT_GRAN", type := .int, accessFlags := 26, slot := 0, constantValue := 0 }, { name := "INSERTIONSORT_THRESHOLD", type := .int, accessFlags := 26, slot := 1, constantValue := 0 }, { name := "$assertionsDisabled", type := .boolean, accessFlags := 4120, slot := 2, constantValue := 0 }]
  methods := #[k13m0, k13m1, k13m2, k13m3]
  instanceTypes := #[]
  staticTypes := #[.int, .int, .boolean]
  resolved := Array.replicate 1029 none
  statics := none }

def pool14 : Array CpInfo := pool [(1, .class_ 2), (0, u "java/lang/Math"), (1, .class_ 6), (1, u "java/lang/Object"), (0, u "<init>"), (0, u "()V"), (89, .class_ 100), (1, u "java/lang/Math$RandomNumberGeneratorHolder"), (71, u "negativeZeroFloatBits"), (0, u "J"), (2, u "negativeZeroDoubleBits"), (24, u "min"), (43, u "$assertionsDisabled"), (0, u "Z"), (88, u "(II)I"), (2, u "twoToTheDoubleScaleDown"), (0, u "D"), (4, u "twoToTheDoubleScaleUp"), (9, u "E"), (3, u "PI"), (2, u "TAU"), (2, u "DEGREES_TO_RADIANS"), (0, u "RADIANS_TO_DEGREES")] 94

def k14m0 : Method := { name := "<init>", desc := "()V", sig := { parameters := [], returnType := none }, accessFlags := 2, code := none }
def k14c1 : Code := { maxStack := 2, maxLocals := 2, code := jdk_29_method_69_code, exceptionTable := #[], attributes := #[] }
def k14m1 : Method := { name := "min", desc := "(II)I", sig := { parameters := [.int, .int], returnType := some .int }, accessFlags := 9, code := some k14c1 }
/-- java/lang/Math -/
def k14 : Class := { plain "java/lang/Math" (some 0) with
  accessFlags := 49
  interfaces := #[]
  cf := some (fileOf pool14 1 #[.nestMembers #[98]] #[{ accessFlags := 2, nameIndex := 7, descriptorIndex := 8, attributes := #[] }, { accessFlags := 9, nameIndex := 201, descriptorIndex := 335, attributes := #[] }] 49 4 #[] #[{ accessFlags := 25, nameIndex := 354, descriptorIndex := 339, attributes := #[] }, { accessFlags := 25, nameIndex := 358, descriptorIndex := 339, attributes := #[] }, { accessFlags := 25, nameIndex := 361, descriptorIndex := 339, attributes := #[] }, { accessFlags := 26, nameIndex := 364, descriptorIndex := 339, attributes := #[] }, { accessFlags := 26, nameIndex := 365, descriptorIndex := 339, attributes := #[] }, { accessFlags := 26, nameIndex := 172, descriptorIndex := 173, attributes := #[] }, { accessFlags := 26, nameIndex := 176, descriptorIndex := 173, attributes := #[] }, { accessFlags := 8, nameIndex := 344, descriptorIndex := 339, attributes := #[] }, { accessFlags := 8, nameIndex := 338, descriptorIndex := 339, attributes := #[] }, { accessFlags := 4120, nameIndex := 245, descriptorIndex := 246, attributes := #[] }])
  fields := #[{ name := "E", type := .double, accessFlags := 25, slot := 0, constantValue := 0 }, { name := "PI", type := .double, accessFlags := 25, slot := 1, constantValue := 0 }, { name := "TAU", type := .double, accessFlags := 25, slot := 2, constantValue := 0 }, { name := "DEGREES_TO_RADIANS", type := .double, accessFlags := 26, slot := 3, constantValue := 0 }, { name := "RADIANS_TO_DEGREES", type := .double, accessFlags := 26, slot := 4, constantValue := 0 }, { name := "negativeZeroFloatBits", type := .long, accessFlags := 26, slot := 5, constantValue := 0 }, { name := "negativeZeroDoubleBits", type := .long, accessFlags := 26, slot := 6, constantValue := 0 }, { name := "twoToTheDoubleScaleUp", type := .double, accessFlags := 8, slot := 7, constantValue := 0 }, { name := "twoToTheDoubleScaleDown", type := .double, accessFlags := 8, slot := 8, constantValue := 0 }, { name := "$assertionsDisabled", type := .boolean, accessFlags := 4120, slot := 9, constantValue := 0 }]
  methods := #[k14m0, k14m1]
  instanceTypes := #[]
  staticTypes := #[.double, .double, .double, .double, .double, .long, .long, .double, .double, .boolean]
  resolved := Array.replicate 460 none
  statics := none }

def pool15 : Array CpInfo := pool [(2, .class_ 4), (1, u "java/lang/Object"), (0, u "<init>"), (0, u "()V"), (1, .class_ 10), (1, u "java/lang/System"), (0, u "allowSecurityManager"), (0, u "I"), (16, u "cons"), (0, u "Ljava/io/Console;"), (77, .class_ 110), (1, u "java/lang/System$CallersHolder"), (43, u "initialErrStream"), (0, u "Ljava/io/PrintStream;"), (19, u "security"), (0, u "Ljava/lang/SecurityManager;"), (31, .class_ 209), (0, u "java/lang/System$1"), (7, u "props"), (0, u "Ljava/util/Properties;"), (2, u "lineSeparator"), (0, u "Ljava/lang/String;"), (96, .class_ 321), (1, u "java/lang/System$LoggerFinder"), (5, .class_ 328), (0, u "java/lang/System$Logger"), (67, u "err"), (2, u "out"), (91, u "notSupportedJnuEncoding"), (15, u "in"), (17, u "initialIn"), (0, u "Ljava/io/InputStream;"), (35, u "bootLayer"), (0, u "Ljava/lang/ModuleLayer;"), (99, .class_ 664), (0, u "java/lang/System$2"), (9, u "NEVER"), (2, u "MAYBE"), (49, u "arraycopy"), (0, u "(Ljava/lang/Object;ILjava/lang/Object;II)V"), (72, .class_ 802), (0, u "java/lang/System$Logger$Level")] 31

def k15m0 : Method := { name := "<init>", desc := "()V", sig := { parameters := [], returnType := none }, accessFlags := 2, code := none }
def k15m1 : Method := { name := "arraycopy", desc := "(Ljava/lang/Object;ILjava/lang/Object;II)V", sig := { parameters := [(.object "java/lang/Object"), .int, (.object "java/lang/Object"), .int, .int], returnType := none }, accessFlags := 265, code := none }
/-- java/lang/System -/
def k15 : Class := { plain "java/lang/System" (some 0) with
  accessFlags := 49
  interfaces := #[]
  cf := some (fileOf pool15 8 #[.nestMembers #[319, 327, 801, 108, 663, 208]] #[{ accessFlags := 2, nameIndex := 5, descriptorIndex := 6, attributes := #[] }, { accessFlags := 265, nameIndex := 727, descriptorIndex := 728, attributes := #[] }] 49 2 #[] #[{ accessFlags := 25, nameIndex := 507, descriptorIndex := 526, attributes := #[] }, { accessFlags := 25, nameIndex := 399, descriptorIndex := 155, attributes := #[] }, { accessFlags := 25, nameIndex := 396, descriptorIndex := 155, attributes := #[] }, { accessFlags := 10, nameIndex := 525, descriptorIndex := 526, attributes := #[] }, { accessFlags := 26, nameIndex := 674, descriptorIndex := 12, attributes := #[] }, { accessFlags := 26, nameIndex := 677, descriptorIndex := 12, attributes := #[] }, { accessFlags := 10, nameIndex := 11, descriptorIndex := 12, attributes := #[] }, { accessFlags := 74, nameIndex := 175, descriptorIndex := 176, attributes := #[] }, { accessFlags := 10, nameIndex := 491, descriptorIndex := 222, attributes := #[] }, { accessFlags := 74, nameIndex := 29, descriptorIndex := 30, attributes := #[] }, { accessFlags := 74, nameIndex := 154, descriptorIndex := 155, attributes := #[] }, { accessFlags := 10, nameIndex := 217, descriptorIndex := 218, attributes := #[] }, { accessFlags := 10, nameIndex := 221, descriptorIndex := 222, attributes := #[] }, { accessFlags := 8, nameIndex := 562, descriptorIndex := 563, attributes := #[] }])
  fields := #[{ name := "in", type := (.object "java/io/InputStream"), accessFlags := 25, slot := 0, constantValue := 0 }, { name := "out", type := (.object "java/io/PrintStream"), accessFlags := 25, slot := 1, constantValue := 0 }, { name := "err", type := (.object "java/io/PrintStream"), accessFlags := 25, slot := 2, constantValue := 0 }, { name := "initialIn", type := (.object "java/io/InputStream"), accessFlags := 10, slot := 3, constantValue := 0 }, { name := "NEVER", type := .int, accessFlags := 26, slot := 4, constantValue := 0 }, { name := "MAYBE", type := .int, accessFlags := 26, slot := 5, constantValue := 0 }, { name := "allowSecurityManager", type := .int, accessFlags := 10, slot := 6, constantValue := 0 }, { name := "security", type := (.object "java/lang/SecurityManager"), accessFlags := 74, slot := 7, constantValue := 0 }, { name := "notSupportedJnuEncoding", type := (.object "java/lang/String"), accessFlags := 10, slot := 8, constantValue := 0 }, { name := "cons", type := (.object "java/io/Console"), accessFlags := 74, slot := 9, constantValue := 0 }, { name := "initialErrStream", type := (.object "java/io/PrintStream"), accessFlags := 74, slot := 10, constantValue := 0 }, { name := "props", type := (.object "java/util/Properties"), accessFlags := 10, slot := 11, constantValue := 0 }, { name := "lineSeparator", type := (.object "java/lang/String"), accessFlags := 10, slot := 12, constantValue := 0 }, { name := "bootLayer", type := (.object "java/lang/ModuleLayer"), accessFlags := 8, slot := 13, constantValue := 0 }]
  methods := #[k15m0, k15m1]
  instanceTypes := #[]
  staticTypes := #[(.object "java/io/InputStream"), (.object "java/io/PrintStream"), (.object "java/io/PrintStream"), (.object "java/io/InputStream"), .int, .int, .int, (.object "java/lang/SecurityManager"), (.object "java/lang/String"), (.object "java/io/Console"), (.object "java/io/PrintStream"), (.object "java/util/Properties"), (.object "java/lang/String"), (.object "java/lang/ModuleLayer")]
  resolved := Array.replicate 834 none
  statics := none }

def pool16 : Array CpInfo := pool [(9, u "<init>"), (6, .class_ 18), (1, u "java/lang/Object"), (0, u "()V"), (1, .class_ 23), (1, u "jdk/internal/util/ArraysSupport"), (0, u "LOG2_ARRAY_LONG_INDEX_SCALE"), (0, u "I"), (2, u "U"), (0, u "Ljdk/internal/misc/Unsafe;"), (8, u "BIG_ENDIAN"), (0, u "Z"), (8, u "LOG2_BYTE_BIT_SIZE"), (4, u "LOG2_ARRAY_INT_INDEX_SCALE"), (54, u "JLA"), (0, u "Ljdk/internal/access/JavaLangAccess;"), (11, u "LOG2_ARRAY_BOOLEAN_INDEX_SCALE"), (9, u "LOG2_ARRAY_BYTE_INDEX_SCALE"), (5, u "LOG2_ARRAY_CHAR_INDEX_SCALE"), (5, u "LOG2_ARRAY_SHORT_INDEX_SCALE"), (18, u "LOG2_ARRAY_FLOAT_INDEX_SCALE"), (24, u "LOG2_ARRAY_DOUBLE_INDEX_SCALE"), (89, u "T_BOOLEAN"), (2, u "T_CHAR"), (1, u "T_FLOAT"), (1, u "T_DOUBLE"), (1, u "T_BYTE"), (1, u "T_SHORT"), (1, u "T_INT"), (1, u "T_LONG"), (1, u "SOFT_MAX_ARRAY_LENGTH")] 83

def k16m0 : Method := { name := "<init>", desc := "()V", sig := { parameters := [], returnType := none }, accessFlags := 2, code := none }
/-- jdk/internal/util/ArraysSupport -/
def k16 : Class := { plain "jdk/internal/util/ArraysSupport" (some 0) with
  accessFlags := 33
  interfaces := #[]
  cf := some (fileOf pool16 21 #[] #[{ accessFlags := 2, nameIndex := 9, descriptorIndex := 19, attributes := #[] }] 33 16 #[] #[{ accessFlags := 24, nameIndex := 28, descriptorIndex := 29, attributes := #[] }, { accessFlags := 26, nameIndex := 38, descriptorIndex := 39, attributes := #[] }, { accessFlags := 25, nameIndex := 121, descriptorIndex := 25, attributes := #[] }, { accessFlags := 25, nameIndex := 131, descriptorIndex := 25, attributes := #[] }, { accessFlags := 25, nameIndex := 137, descriptorIndex := 25, attributes := #[] }, { accessFlags := 25, nameIndex := 143, descriptorIndex := 25, attributes := #[] }, { accessFlags := 25, nameIndex := 53, descriptorIndex := 25, attributes := #[] }, { accessFlags := 25, nameIndex := 24, descriptorIndex := 25, attributes := #[] }, { accessFlags := 25, nameIndex := 162, descriptorIndex := 25, attributes := #[] }, { accessFlags := 25, nameIndex := 187, descriptorIndex := 25, attributes := #[] }, { accessFlags := 26, nameIndex := 48, descriptorIndex := 25, attributes := #[] }, { accessFlags := 25, nameIndex := 277, descriptorIndex := 25, attributes := #[] }, { accessFlags := 25, nameIndex := 280, descriptorIndex := 25, attributes := #[] }, { accessFlags := 25, nameIndex := 282, descriptorIndex := 25, attributes := #[] }, { accessFlags := 25, nameIndex := 284, descriptorIndex := 25, attributes := #[] }, { accessFlags := 25, nameIndex := 286, descriptorIndex := 25, attributes := #[] }, { accessFlags := 25, nameIndex := 288, descriptorIndex := 25, attributes := #[] }, { accessFlags := 25, nameIndex := 290, descriptorIndex := 25, attributes := #[] }, { accessFlags := 25, nameIndex := 292, descriptorIndex := 25, attributes := #[] }, { accessFlags := 26, nameIndex := 108, descriptorIndex := 109, attributes := #[] }, { accessFlags := 25, nameIndex := 294, descriptorIndex := 25, attributes := #[] }])
  fields := #[{ name := "U", type := (.object "jdk/internal/misc/Unsafe"), accessFlags := 24, slot := 0, constantValue := 0 }, { name := "BIG_ENDIAN", type := .boolean, accessFlags := 26, slot := 1, constantValue := 0 }, { name := "LOG2_ARRAY_BOOLEAN_INDEX_SCALE", type := .int, accessFlags := 25, slot := 2, constantValue := 0 }, { name := "LOG2_ARRAY_BYTE_INDEX_SCALE", type := .int, accessFlags := 25, slot := 3, constantValue := 0 }, { name := "LOG2_ARRAY_CHAR_INDEX_SCALE", type := .int, accessFlags := 25, slot := 4, constantValue := 0 }, { name := "LOG2_ARRAY_SHORT_INDEX_SCALE", type := .int, accessFlags := 25, slot := 5, constantValue := 0 }, { name := "LOG2_ARRAY_INT_INDEX_SCALE", type := .int, accessFlags := 25, slot := 6, constantValue := 0 }, { name := "LOG2_ARRAY_LONG_INDEX_SCALE", type := .int, accessFlags := 25, slot := 7, constantValue := 0 }, { name := "LOG2_ARRAY_FLOAT_INDEX_SCALE", type := .int, accessFlags := 25, slot := 8, constantValue := 0 }, { name := "LOG2_ARRAY_DOUBLE_INDEX_SCALE", type := .int, accessFlags := 25, slot := 9, constantValue := 0 }, { name := "LOG2_BYTE_BIT_SIZE", type := .int, accessFlags := 26, slot := 10, constantValue := 0 }, { name := "T_BOOLEAN", type := .int, accessFlags := 25, slot := 11, constantValue := 0 }, { name := "T_CHAR", type := .int, accessFlags := 25, slot := 12, constantValue := 0 }, { name := "T_FLOAT", type := .int, accessFlags := 25, slot := 13, constantValue := 0 }, { name := "T_DOUBLE", type := .int, accessFlags := 25, slot := 14, constantValue := 0 }, { name := "T_BYTE", type := .int, accessFlags := 25, slot := 15, constantValue := 0 }, { name := "T_SHORT", type := .int, accessFlags := 25, slot := 16, constantValue := 0 }, { name := "T_INT", type := .int, accessFlags := 25, slot := 17, constantValue := 0 }, { name := "T_LONG", type := .int, accessFlags := 25, slot := 18, constantValue := 0 }, { name := "JLA", type := (.object "jdk/internal/access/JavaLangAccess"), accessFlags := 26, slot := 19, constantValue := 0 }, { name := "SOFT_MAX_ARRAY_LENGTH", type := .int, accessFlags := 25, slot := 20, constantValue := 0 }]
  methods := #[k16m0]
  instanceTypes := #[]
  staticTypes := #[(.object "jdk/internal/misc/Unsafe"), .boolean, .int, .int, .int, .int, .int, .int, .int, .int, .int, .int, .int, .int, .int, .int, .int, .int, .int, (.object "jdk/internal/access/JavaLangAccess"), .int]
  resolved := Array.replicate 378 none
  statics := none }

def pool17 : Array CpInfo := pool [(1, u "java/lang/Cloneable"), (0, .class_ 1), (0, u "java/lang/Object"), (0, .class_ 3)] 3

/-- java/lang/Cloneable -/
def k17 : Class := { plain "java/lang/Cloneable" (some 0) with
  accessFlags := 1537
  interfaces := #[]
  cf := some (fileOf pool17 2 #[] #[] 1537 4 #[] #[])
  fields := #[]
  methods := #[]
  instanceTypes := #[]
  staticTypes := #[]
  resolved := Array.replicate 8 none
  statics := none }

/-- the primitive byte -/
def k18 : Class := { plain "byte" none with kind := .primitive 'B', accessFlags := 0x411 }
/-- [B -/
def k19 : Class := { plain "[B" (some 0) with kind := .array 18 .byte, interfaces := #[17, 4], accessFlags := 1041 }

/-- the primitive char -/
def k20 : Class := { plain "char" none with kind := .primitive 'C', accessFlags := 0x411 }
/-- [C -/
def k21 : Class := { plain "[C" (some 0) with kind := .array 20 .char, interfaces := #[17, 4], accessFlags := 1041 }

/-- the primitive int -/
def k22 : Class := { plain "int" none with kind := .primitive 'I', accessFlags := 0x411 }
/-- [I -/
def k23 : Class := { plain "[I" (some 0) with kind := .array 22 .int, interfaces := #[17, 4], accessFlags := 1041 }

def heap : Heap := #[{ cls := 6, slots := #[.ref 3, .ref 4, .ref 5, .ref 6, .ref 7, .ref 8, .null, .null], vm := .statics 6 },
  { cls := 9, slots := #[.long 0, .int 1, .null, .int 0, .null, .int 0, .int 0], vm := .statics 9 },
  { cls := 11, slots := #[.null, .null, .null], vm := .statics 11 },
  { cls := 6, slots := #[.null, .int 0, .int 0, .ref 9], vm := .none },
  { cls := 6, slots := #[.null, .int 1, .int 0, .ref 10], vm := .none },
  { cls := 6, slots := #[.null, .int 2, .int 0, .ref 11], vm := .none },
  { cls := 6, slots := #[.null, .int 3, .int 0, .ref 12], vm := .none },
  { cls := 6, slots := #[.null, .int 4, .int 0, .ref 13], vm := .none },
  { cls := 6, slots := #[.null, .int 5, .int 0, .ref 14], vm := .none },
  { cls := 9, slots := #[.ref 15, .int 0, .int 0, .int 0], vm := .none },
  { cls := 9, slots := #[.ref 16, .int 0, .int 0, .int 0], vm := .none },
  { cls := 9, slots := #[.ref 17, .int 0, .int 0, .int 0], vm := .none },
  { cls := 9, slots := #[.ref 18, .int 0, .int 0, .int 0], vm := .none },
  { cls := 9, slots := #[.ref 19, .int 0, .int 0, .int 0], vm := .none },
  { cls := 9, slots := #[.ref 20, .int 0, .int 0, .int 0], vm := .none },
  { cls := 19, slots := #[.int 76, .int 105, .int 115, .int 116], vm := .none },
  { cls := 19, slots := #[.int 71, .int 101, .int 116], vm := .none },
  { cls := 19, slots := #[.int 67, .int 114, .int 101, .int 97, .int 116, .int 101], vm := .none },
  { cls := 19, slots := #[.int 85, .int 112, .int 100, .int 97, .int 116, .int 101], vm := .none },
  { cls := 19, slots := #[.int 68, .int 101, .int 108, .int 101, .int 116, .int 101], vm := .none },
  { cls := 19, slots := #[], vm := .none }]
def classes : Array Class := #[k0, k1, k2, k3, k4, k5, k6, k7, k8, k9, k10, k11, k12, k13, k14, k15, k16, k17, k18, k19, k20, k21, k22, k23]
def interned : List (Array UInt16 × Addr) := []
def slotsUsed : Nat := 91
def theMethod : MethodId := ⟨1, 1⟩
def args0 : Array Value := #[.int 0, .int 0, .int 0, .int 0, .int 0]
def aboutOver (below : List Frame) : State where
  vm := { classes := classes, interned := interned.toArray }
  heap := heap
  slotsUsed := slotsUsed
  threads := #[{ frames := .invoking theMethod args0 :: below }]
def below0 : List Frame := [.native { method := ⟨0, 0⟩, args := #[] }]
def about1 : State := aboutOver below0
def p0 : Program := .bare "" "" ""
def e0 : Env := launch0.env 0 0 0
theorem w_frames : about1.frames = Frame.invoking theMethod args0 :: below0 := rfl
set_option maxRecDepth 65536 in
theorem w_args : argsFit about1.vm theMethod args0 = true := by decide +kernel
set_option maxRecDepth 65536 in
theorem w_heap : heapFits about1 = true := by decide +kernel
set_option maxRecDepth 65536 in
theorem w_runnable : about1.curStatus? = some .runnable := by decide +kernel
set_option maxRecDepth 65536 in
theorem w_alone : about1.alone = true := by decide +kernel
set_option maxRecDepth 65536 in
theorem w_named : about1.methodNamed? x = some theMethod := by decide +kernel
set_option maxRecDepth 65536 in
theorem w_hears : about1.hears theMethod below0 = true := by decide +kernel
set_option maxRecDepth 65536 in
theorem w_ripe : about1.ripe theMethod args0 below0 = true := by decide +kernel
theorem w_running : about1.status = .running := rfl
set_option maxRecDepth 65536 in
theorem w_room : about1.hasRoom e0.platform room_1 = true :=
  launch0.hasRoom_least _ room_1 (by decide +kernel) (by decide +kernel) (by decide +kernel) (by decide +kernel) (by decide +kernel) (by decide +kernel)
theorem allAtoms_all (ts : List Jvm.Cond) (a : Array Jvm.Value) (st : Jvm.State) : (allAtoms ts).before a st = ts.all (fun c => c.before a st) := by
  induction ts with
  | nil => rfl
  | cons c t ih =>
    show (Jvm.Cond.and c (allAtoms t)).before a st = _
    rw [Jvm.Cond.before_and, ih, List.all_cons]
def words1 : List Jvm.Cond := Jvm.Cond.code x code maxLocals ret :: tables_1
/-- a 'code' word, met by the world's own term for the bytes: nothing is compared byte by byte -/
theorem code_word {y : MethodName} {bytes : ByteArray} {mx : Nat} {rt : Option FieldType} {a : Array Value} {s : State} {m : MethodId} {meth : Method} {c : Code} (h1 : s.methodNamed? y = some m) (h2 : s.vm.method? m = some meth) (h3 : meth.code = some c) (h4 : c.code = bytes)
    (h5 : (c.maxLocals == mx && c.exceptionTable.isEmpty && decide (c.maxStack ≤ mostOperands) && decide (meth.sig.returnType = rt) && !meth.locks && decide (parseMethodDescriptor y.desc = some meth.sig)) = true) : (Jvm.Cond.code y bytes mx rt).before a s = true := by
  simp only [Bool.and_eq_true, beq_iff_eq, Bool.not_eq_true', decide_eq_true_eq] at h5
  obtain ⟨⟨⟨⟨⟨g1, g2⟩, g3⟩, g4⟩, g5⟩, g6⟩ := h5
  simp [Cond.before, Cond.holds, Cond.value, h1, h2, h3, h4, g1, g2, g3, g4, g5, g6]
def isCode : Jvm.Cond → Bool
  | .code _ _ _ _ => true
  | _ => false
theorem all_split {L : List Jvm.Cond} {P : Jvm.Cond → Bool} (h1 : L.all (fun c => isCode c || P c) = true) (h2 : ∀ c ∈ L.filter isCode, P c = true) : L.all P = true := by
  refine List.all_eq_true.mpr fun c hc => ?_
  have h := List.all_eq_true.mp h1 c hc
  rcases Bool.eq_false_or_eq_true (isCode c) with hi | hi
  · exact h2 c (List.mem_filter.mpr ⟨hc, hi⟩)
  · simpa [hi] using h
set_option maxRecDepth 65536 in
theorem w_c0 : (Jvm.Cond.code x code maxLocals ret).before args0 about1 = true := code_word (m := ⟨1, 1⟩) (meth := k1m1) (c := k1c1) (by decide +kernel) rfl rfl rfl (by decide +kernel)
set_option maxRecDepth 65536 in
theorem w_c1 : (Jvm.Cond.code ({ cls := "com/example/hew/hew/MethodKindNounPinLaw", name := "kindOf", desc := "(I)Lcom/example/hew/hew/MethodKind;" } : Jvm.MethodName) method_3_code (1 : Nat) (Option.some (Jvm.ClassFile.FieldType.object "com/example/hew/hew/MethodKind"))).before args0 about1 = true := code_word (m := ⟨1, 2⟩) (meth := k1m2) (c := k1c2) (by decide +kernel) rfl rfl rfl (by decide +kernel)
set_option maxRecDepth 65536 in
theorem w_c2 : (Jvm.Cond.code ({ cls := "com/example/hew/hew/MethodKindNounPinLaw", name := "wordOf", desc := "(I)Ljava/lang/String;" } : Jvm.MethodName) method_4_code (1 : Nat) (Option.some (Jvm.ClassFile.FieldType.object "java/lang/String"))).before args0 about1 = true := code_word (m := ⟨1, 3⟩) (meth := k1m3) (c := k1c3) (by decide +kernel) rfl rfl rfl (by decide +kernel)
set_option maxRecDepth 65536 in
theorem w_c3 : (Jvm.Cond.code ({ cls := "com/example/hew/hew/MethodKindNounPinLaw", name := "at", desc := "(Ljava/lang/String;[CI)C" } : Jvm.MethodName) method_5_code (4 : Nat) (Option.some Jvm.ClassFile.FieldType.char)).before args0 about1 = true := code_word (m := ⟨1, 4⟩) (meth := k1m4) (c := k1c4) (by decide +kernel) rfl rfl rfl (by decide +kernel)
set_option maxRecDepth 65536 in
theorem w_c4 : (Jvm.Cond.code ({ cls := "java/lang/String", name := "length", desc := "()I" } : Jvm.MethodName) jdk_42_method_54_code (1 : Nat) (Option.some Jvm.ClassFile.FieldType.int)).before args0 about1 = true := code_word (m := ⟨9, 2⟩) (meth := k9m2) (c := k9c2) (by decide +kernel) rfl rfl rfl (by decide +kernel)
set_option maxRecDepth 65536 in
theorem w_c5 : (Jvm.Cond.code ({ cls := "java/lang/String", name := "coder", desc := "()B" } : Jvm.MethodName) jdk_42_method_152_code (1 : Nat) (Option.some Jvm.ClassFile.FieldType.byte)).before args0 about1 = true := code_word (m := ⟨9, 9⟩) (meth := k9m9) (c := k9c9) (by decide +kernel) rfl rfl rfl (by decide +kernel)
set_option maxRecDepth 65536 in
theorem w_c6 : (Jvm.Cond.code ({ cls := "java/lang/String", name := "charAt", desc := "(I)C" } : Jvm.MethodName) jdk_42_method_56_code (2 : Nat) (Option.some Jvm.ClassFile.FieldType.char)).before args0 about1 = true := code_word (m := ⟨9, 3⟩) (meth := k9m3) (c := k9c3) (by decide +kernel) rfl rfl rfl (by decide +kernel)
set_option maxRecDepth 65536 in
theorem w_c7 : (Jvm.Cond.code ({ cls := "java/lang/String", name := "isLatin1", desc := "()Z" } : Jvm.MethodName) jdk_42_method_154_code (1 : Nat) (Option.some Jvm.ClassFile.FieldType.boolean)).before args0 about1 = true := code_word (m := ⟨9, 10⟩) (meth := k9m10) (c := k9c10) (by decide +kernel) rfl rfl rfl (by decide +kernel)
set_option maxRecDepth 65536 in
theorem w_c8 : (Jvm.Cond.code ({ cls := "java/lang/StringLatin1", name := "charAt", desc := "([BI)C" } : Jvm.MethodName) jdk_43_method_2_code (2 : Nat) (Option.some Jvm.ClassFile.FieldType.char)).before args0 about1 = true := code_word (m := ⟨10, 1⟩) (meth := k10m1) (c := k10c1) (by decide +kernel) rfl rfl rfl (by decide +kernel)
set_option maxRecDepth 65536 in
theorem w_c9 : (Jvm.Cond.code ({ cls := "java/lang/String", name := "checkIndex", desc := "(II)V" } : Jvm.MethodName) jdk_42_method_155_code (2 : Nat) (Option.none : Option Jvm.ClassFile.FieldType)).before args0 about1 = true := code_word (m := ⟨9, 11⟩) (meth := k9m11) (c := k9c11) (by decide +kernel) rfl rfl rfl (by decide +kernel)
set_option maxRecDepth 65536 in
theorem w_c10 : (Jvm.Cond.code ({ cls := "jdk/internal/util/Preconditions", name := "checkIndex", desc := "(IILjava/util/function/BiFunction;)I" } : Jvm.MethodName) jdk_41_method_11_code (3 : Nat) (Option.some Jvm.ClassFile.FieldType.int)).before args0 about1 = true := code_word (m := ⟨11, 1⟩) (meth := k11m1) (c := k11c1) (by decide +kernel) rfl rfl rfl (by decide +kernel)
set_option maxRecDepth 65536 in
theorem w_c11 : (Jvm.Cond.code ({ cls := "com/example/hew/hew/MethodKindNounPinLaw", name := "take", desc := "([CI)Ljava/lang/String;" } : Jvm.MethodName) method_6_code (2 : Nat) (Option.some (Jvm.ClassFile.FieldType.object "java/lang/String"))).before args0 about1 = true := code_word (m := ⟨1, 5⟩) (meth := k1m5) (c := k1c5) (by decide +kernel) rfl rfl rfl (by decide +kernel)
set_option maxRecDepth 65536 in
theorem w_c12 : (Jvm.Cond.code ({ cls := "java/lang/String", name := "<init>", desc := "([C)V" } : Jvm.MethodName) jdk_42_method_3_code (2 : Nat) (Option.none : Option Jvm.ClassFile.FieldType)).before args0 about1 = true := code_word (m := ⟨9, 1⟩) (meth := k9m1) (c := k9c1) (by decide +kernel) rfl rfl rfl (by decide +kernel)
set_option maxRecDepth 65536 in
theorem w_c13 : (Jvm.Cond.code ({ cls := "java/lang/String", name := "<init>", desc := "([CIILjava/lang/Void;)V" } : Jvm.MethodName) jdk_42_method_149_code (6 : Nat) (Option.none : Option Jvm.ClassFile.FieldType)).before args0 about1 = true := code_word (m := ⟨9, 7⟩) (meth := k9m7) (c := k9c7) (by decide +kernel) rfl rfl rfl (by decide +kernel)
set_option maxRecDepth 65536 in
theorem w_c14 : (Jvm.Cond.code ({ cls := "java/lang/Object", name := "<init>", desc := "()V" } : Jvm.MethodName) object_method_1_code (1 : Nat) (Option.none : Option Jvm.ClassFile.FieldType)).before args0 about1 = true := code_word (m := ⟨0, 0⟩) (meth := k0m0) (c := k0c0) (by decide +kernel) rfl rfl rfl (by decide +kernel)
set_option maxRecDepth 65536 in
theorem w_c15 : (Jvm.Cond.code ({ cls := "java/lang/StringUTF16", name := "compress", desc := "([CII)[B" } : Jvm.MethodName) jdk_52_method_16_code (6 : Nat) (Option.some (Jvm.ClassFile.FieldType.array Jvm.ClassFile.FieldType.byte))).before args0 about1 = true := code_word (m := ⟨12, 2⟩) (meth := k12m2) (c := k12c2) (by decide +kernel) rfl rfl rfl (by decide +kernel)
set_option maxRecDepth 65536 in
theorem w_c16 : (Jvm.Cond.code ({ cls := "java/lang/StringUTF16", name := "compress", desc := "([CI[BII)I" } : Jvm.MethodName) jdk_52_method_21_code (7 : Nat) (Option.some Jvm.ClassFile.FieldType.int)).before args0 about1 = true := code_word (m := ⟨12, 3⟩) (meth := k12m3) (c := k12c3) (by decide +kernel) rfl rfl rfl (by decide +kernel)
set_option maxRecDepth 65536 in
theorem w_c17 : (Jvm.Cond.code ({ cls := "java/lang/StringUTF16", name := "coderFromArrayLen", desc := "([BI)B" } : Jvm.MethodName) jdk_52_method_15_code (2 : Nat) (Option.some Jvm.ClassFile.FieldType.byte)).before args0 about1 = true := code_word (m := ⟨12, 1⟩) (meth := k12m1) (c := k12c1) (by decide +kernel) rfl rfl rfl (by decide +kernel)
set_option maxRecDepth 65536 in
theorem w_c18 : (Jvm.Cond.code ({ cls := "com/example/hew/hew/MethodKind", name := "noun", desc := "(Ljava/lang/String;)Ljava/lang/String;" } : Jvm.MethodName) prog_32_method_8_code (2 : Nat) (Option.some (Jvm.ClassFile.FieldType.object "java/lang/String"))).before args0 about1 = true := code_word (m := ⟨6, 0⟩) (meth := k6m0) (c := k6c0) (by decide +kernel) rfl rfl rfl (by decide +kernel)
set_option maxRecDepth 65536 in
theorem w_c19 : (Jvm.Cond.code ({ cls := "java/lang/String", name := "substring", desc := "(I)Ljava/lang/String;" } : Jvm.MethodName) jdk_42_method_91_code (2 : Nat) (Option.some (Jvm.ClassFile.FieldType.object "java/lang/String"))).before args0 about1 = true := code_word (m := ⟨9, 5⟩) (meth := k9m5) (c := k9c5) (by decide +kernel) rfl rfl rfl (by decide +kernel)
set_option maxRecDepth 65536 in
theorem w_c20 : (Jvm.Cond.code ({ cls := "java/lang/String", name := "substring", desc := "(II)Ljava/lang/String;" } : Jvm.MethodName) jdk_42_method_92_code (5 : Nat) (Option.some (Jvm.ClassFile.FieldType.object "java/lang/String"))).before args0 about1 = true := code_word (m := ⟨9, 6⟩) (meth := k9m6) (c := k9c6) (by decide +kernel) rfl rfl rfl (by decide +kernel)
set_option maxRecDepth 65536 in
theorem w_c21 : (Jvm.Cond.code ({ cls := "java/lang/String", name := "checkBoundsBeginEnd", desc := "(III)V" } : Jvm.MethodName) jdk_42_method_158_code (3 : Nat) (Option.none : Option Jvm.ClassFile.FieldType)).before args0 about1 = true := code_word (m := ⟨9, 12⟩) (meth := k9m12) (c := k9c12) (by decide +kernel) rfl rfl rfl (by decide +kernel)
set_option maxRecDepth 65536 in
theorem w_c22 : (Jvm.Cond.code ({ cls := "jdk/internal/util/Preconditions", name := "checkFromToIndex", desc := "(IIILjava/util/function/BiFunction;)I" } : Jvm.MethodName) jdk_41_method_12_code (4 : Nat) (Option.some Jvm.ClassFile.FieldType.int)).before args0 about1 = true := code_word (m := ⟨11, 2⟩) (meth := k11m2) (c := k11c2) (by decide +kernel) rfl rfl rfl (by decide +kernel)
set_option maxRecDepth 65536 in
theorem w_c23 : (Jvm.Cond.code ({ cls := "java/lang/StringLatin1", name := "newString", desc := "([BII)Ljava/lang/String;" } : Jvm.MethodName) jdk_43_method_47_code (3 : Nat) (Option.some (Jvm.ClassFile.FieldType.object "java/lang/String"))).before args0 about1 = true := code_word (m := ⟨10, 3⟩) (meth := k10m3) (c := k10c3) (by decide +kernel) rfl rfl rfl (by decide +kernel)
set_option maxRecDepth 65536 in
theorem w_c24 : (Jvm.Cond.code ({ cls := "java/util/Arrays", name := "copyOfRange", desc := "([BII)[B" } : Jvm.MethodName) jdk_65_method_132_code (3 : Nat) (Option.some (Jvm.ClassFile.FieldType.array Jvm.ClassFile.FieldType.byte))).before args0 about1 = true := code_word (m := ⟨13, 2⟩) (meth := k13m2) (c := k13c2) (by decide +kernel) rfl rfl rfl (by decide +kernel)
set_option maxRecDepth 65536 in
theorem w_c25 : (Jvm.Cond.code ({ cls := "java/util/Arrays", name := "copyOfRangeByte", desc := "([BII)[B" } : Jvm.MethodName) jdk_65_method_133_code (5 : Nat) (Option.some (Jvm.ClassFile.FieldType.array Jvm.ClassFile.FieldType.byte))).before args0 about1 = true := code_word (m := ⟨13, 3⟩) (meth := k13m3) (c := k13c3) (by decide +kernel) rfl rfl rfl (by decide +kernel)
set_option maxRecDepth 65536 in
theorem w_c26 : (Jvm.Cond.code ({ cls := "java/util/Arrays", name := "checkLength", desc := "(II)V" } : Jvm.MethodName) jdk_65_method_131_code (2 : Nat) (Option.none : Option Jvm.ClassFile.FieldType)).before args0 about1 = true := code_word (m := ⟨13, 1⟩) (meth := k13m1) (c := k13c1) (by decide +kernel) rfl rfl rfl (by decide +kernel)
set_option maxRecDepth 65536 in
theorem w_c27 : (Jvm.Cond.code ({ cls := "java/lang/Math", name := "min", desc := "(II)I" } : Jvm.MethodName) jdk_29_method_69_code (2 : Nat) (Option.some Jvm.ClassFile.FieldType.int)).before args0 about1 = true := code_word (m := ⟨14, 1⟩) (meth := k14m1) (c := k14c1) (by decide +kernel) rfl rfl rfl (by decide +kernel)
set_option maxRecDepth 65536 in
theorem w_c28 : (Jvm.Cond.code ({ cls := "java/lang/String", name := "<init>", desc := "([BB)V" } : Jvm.MethodName) jdk_42_method_151_code (3 : Nat) (Option.none : Option Jvm.ClassFile.FieldType)).before args0 about1 = true := code_word (m := ⟨9, 8⟩) (meth := k9m8) (c := k9c8) (by decide +kernel) rfl rfl rfl (by decide +kernel)
set_option maxRecDepth 65536 in
theorem w_c29 : (Jvm.Cond.code ({ cls := "java/lang/String", name := "equals", desc := "(Ljava/lang/Object;)Z" } : Jvm.MethodName) jdk_42_method_66_code (3 : Nat) (Option.some Jvm.ClassFile.FieldType.boolean)).before args0 about1 = true := code_word (m := ⟨9, 4⟩) (meth := k9m4) (c := k9c4) (by decide +kernel) rfl rfl rfl (by decide +kernel)
set_option maxRecDepth 65536 in
theorem w_c30 : (Jvm.Cond.code ({ cls := "java/lang/StringLatin1", name := "equals", desc := "([B[B)Z" } : Jvm.MethodName) jdk_43_method_13_code (3 : Nat) (Option.some Jvm.ClassFile.FieldType.boolean)).before args0 about1 = true := code_word (m := ⟨10, 2⟩) (meth := k10m2) (c := k10c2) (by decide +kernel) rfl rfl rfl (by decide +kernel)
def codes1 : List Jvm.Cond := [Jvm.Cond.code x code maxLocals ret, Jvm.Cond.code ({ cls := "com/example/hew/hew/MethodKindNounPinLaw", name := "kindOf", desc := "(I)Lcom/example/hew/hew/MethodKind;" } : Jvm.MethodName) method_3_code (1 : Nat) (Option.some (Jvm.ClassFile.FieldType.object "com/example/hew/hew/MethodKind")), Jvm.Cond.code ({ cls := "com/example/hew/hew/MethodKindNounPinLaw", name := "wordOf", desc := "(I)Ljava/lang/String;" } : Jvm.MethodName) method_4_code (1 : Nat) (Option.some (Jvm.ClassFile.FieldType.object "java/lang/String")), Jvm.Cond.code ({ cls := "com/example/hew/hew/MethodKindNounPinLaw", name := "at", desc := "(Ljava/lang/String;[CI)C" } : Jvm.MethodName) method_5_code (4 : Nat) (Option.some Jvm.ClassFile.FieldType.char), Jvm.Cond.code ({ cls := "java/lang/String", name := "length", desc := "()I" } : Jvm.MethodName) jdk_42_method_54_code (1 : Nat) (Option.some Jvm.ClassFile.FieldType.int), Jvm.Cond.code ({ cls := "java/lang/String", name := "coder", desc := "()B" } : Jvm.MethodName) jdk_42_method_152_code (1 : Nat) (Option.some Jvm.ClassFile.FieldType.byte), Jvm.Cond.code ({ cls := "java/lang/String", name := "charAt", desc := "(I)C" } : Jvm.MethodName) jdk_42_method_56_code (2 : Nat) (Option.some Jvm.ClassFile.FieldType.char), Jvm.Cond.code ({ cls := "java/lang/String", name := "isLatin1", desc := "()Z" } : Jvm.MethodName) jdk_42_method_154_code (1 : Nat) (Option.some Jvm.ClassFile.FieldType.boolean), Jvm.Cond.code ({ cls := "java/lang/StringLatin1", name := "charAt", desc := "([BI)C" } : Jvm.MethodName) jdk_43_method_2_code (2 : Nat) (Option.some Jvm.ClassFile.FieldType.char), Jvm.Cond.code ({ cls := "java/lang/String", name := "checkIndex", desc := "(II)V" } : Jvm.MethodName) jdk_42_method_155_code (2 : Nat) (Option.none : Option Jvm.ClassFile.FieldType), Jvm.Cond.code ({ cls := "jdk/internal/util/Preconditions", name := "checkIndex", desc := "(IILjava/util/function/BiFunction;)I" } : Jvm.MethodName) jdk_41_method_11_code (3 : Nat) (Option.some Jvm.ClassFile.FieldType.int), Jvm.Cond.code ({ cls := "com/example/hew/hew/MethodKindNounPinLaw", name := "take", desc := "([CI)Ljava/lang/String;" } : Jvm.MethodName) method_6_code (2 : Nat) (Option.some (Jvm.ClassFile.FieldType.object "java/lang/String")), Jvm.Cond.code ({ cls := "java/lang/String", name := "<init>", desc := "([C)V" } : Jvm.MethodName) jdk_42_method_3_code (2 : Nat) (Option.none : Option Jvm.ClassFile.FieldType), Jvm.Cond.code ({ cls := "java/lang/String", name := "<init>", desc := "([CIILjava/lang/Void;)V" } : Jvm.MethodName) jdk_42_method_149_code (6 : Nat) (Option.none : Option Jvm.ClassFile.FieldType), Jvm.Cond.code ({ cls := "java/lang/Object", name := "<init>", desc := "()V" } : Jvm.MethodName) object_method_1_code (1 : Nat) (Option.none : Option Jvm.ClassFile.FieldType), Jvm.Cond.code ({ cls := "java/lang/StringUTF16", name := "compress", desc := "([CII)[B" } : Jvm.MethodName) jdk_52_method_16_code (6 : Nat) (Option.some (Jvm.ClassFile.FieldType.array Jvm.ClassFile.FieldType.byte)), Jvm.Cond.code ({ cls := "java/lang/StringUTF16", name := "compress", desc := "([CI[BII)I" } : Jvm.MethodName) jdk_52_method_21_code (7 : Nat) (Option.some Jvm.ClassFile.FieldType.int), Jvm.Cond.code ({ cls := "java/lang/StringUTF16", name := "coderFromArrayLen", desc := "([BI)B" } : Jvm.MethodName) jdk_52_method_15_code (2 : Nat) (Option.some Jvm.ClassFile.FieldType.byte), Jvm.Cond.code ({ cls := "com/example/hew/hew/MethodKind", name := "noun", desc := "(Ljava/lang/String;)Ljava/lang/String;" } : Jvm.MethodName) prog_32_method_8_code (2 : Nat) (Option.some (Jvm.ClassFile.FieldType.object "java/lang/String")), Jvm.Cond.code ({ cls := "java/lang/String", name := "substring", desc := "(I)Ljava/lang/String;" } : Jvm.MethodName) jdk_42_method_91_code (2 : Nat) (Option.some (Jvm.ClassFile.FieldType.object "java/lang/String")), Jvm.Cond.code ({ cls := "java/lang/String", name := "substring", desc := "(II)Ljava/lang/String;" } : Jvm.MethodName) jdk_42_method_92_code (5 : Nat) (Option.some (Jvm.ClassFile.FieldType.object "java/lang/String")), Jvm.Cond.code ({ cls := "java/lang/String", name := "checkBoundsBeginEnd", desc := "(III)V" } : Jvm.MethodName) jdk_42_method_158_code (3 : Nat) (Option.none : Option Jvm.ClassFile.FieldType), Jvm.Cond.code ({ cls := "jdk/internal/util/Preconditions", name := "checkFromToIndex", desc := "(IIILjava/util/function/BiFunction;)I" } : Jvm.MethodName) jdk_41_method_12_code (4 : Nat) (Option.some Jvm.ClassFile.FieldType.int), Jvm.Cond.code ({ cls := "java/lang/StringLatin1", name := "newString", desc := "([BII)Ljava/lang/String;" } : Jvm.MethodName) jdk_43_method_47_code (3 : Nat) (Option.some (Jvm.ClassFile.FieldType.object "java/lang/String")), Jvm.Cond.code ({ cls := "java/util/Arrays", name := "copyOfRange", desc := "([BII)[B" } : Jvm.MethodName) jdk_65_method_132_code (3 : Nat) (Option.some (Jvm.ClassFile.FieldType.array Jvm.ClassFile.FieldType.byte)), Jvm.Cond.code ({ cls := "java/util/Arrays", name := "copyOfRangeByte", desc := "([BII)[B" } : Jvm.MethodName) jdk_65_method_133_code (5 : Nat) (Option.some (Jvm.ClassFile.FieldType.array Jvm.ClassFile.FieldType.byte)), Jvm.Cond.code ({ cls := "java/util/Arrays", name := "checkLength", desc := "(II)V" } : Jvm.MethodName) jdk_65_method_131_code (2 : Nat) (Option.none : Option Jvm.ClassFile.FieldType), Jvm.Cond.code ({ cls := "java/lang/Math", name := "min", desc := "(II)I" } : Jvm.MethodName) jdk_29_method_69_code (2 : Nat) (Option.some Jvm.ClassFile.FieldType.int), Jvm.Cond.code ({ cls := "java/lang/String", name := "<init>", desc := "([BB)V" } : Jvm.MethodName) jdk_42_method_151_code (3 : Nat) (Option.none : Option Jvm.ClassFile.FieldType), Jvm.Cond.code ({ cls := "java/lang/String", name := "equals", desc := "(Ljava/lang/Object;)Z" } : Jvm.MethodName) jdk_42_method_66_code (3 : Nat) (Option.some Jvm.ClassFile.FieldType.boolean), Jvm.Cond.code ({ cls := "java/lang/StringLatin1", name := "equals", desc := "([B[B)Z" } : Jvm.MethodName) jdk_43_method_13_code (3 : Nat) (Option.some Jvm.ClassFile.FieldType.boolean)]
set_option maxRecDepth 65536 in
theorem codes_eq : words1.filter isCode = codes1 := rfl
theorem w_codes : ∀ c ∈ words1.filter isCode, c.before args0 about1 = true := by
  rw [codes_eq]
  intro c hc
  simp only [codes1, List.mem_cons, List.not_mem_nil, or_false] at hc
  rcases hc with rfl | rfl | rfl | rfl | rfl | rfl | rfl | rfl | rfl | rfl | rfl | rfl | rfl | rfl | rfl | rfl | rfl | rfl | rfl | rfl | rfl | rfl | rfl | rfl | rfl | rfl | rfl | rfl | rfl | rfl | rfl
  · exact w_c0
  · exact w_c1
  · exact w_c2
  · exact w_c3
  · exact w_c4
  · exact w_c5
  · exact w_c6
  · exact w_c7
  · exact w_c8
  · exact w_c9
  · exact w_c10
  · exact w_c11
  · exact w_c12
  · exact w_c13
  · exact w_c14
  · exact w_c15
  · exact w_c16
  · exact w_c17
  · exact w_c18
  · exact w_c19
  · exact w_c20
  · exact w_c21
  · exact w_c22
  · exact w_c23
  · exact w_c24
  · exact w_c25
  · exact w_c26
  · exact w_c27
  · exact w_c28
  · exact w_c29
  · exact w_c30
set_option maxRecDepth 65536 in
theorem w_t1 : (words1.take 24).all (fun c => isCode c || c.before args0 about1) = true := by decide +kernel
set_option maxRecDepth 65536 in
theorem w_t2 : ((words1.drop 24).take 24).all (fun c => isCode c || c.before args0 about1) = true := by decide +kernel
set_option maxRecDepth 65536 in
theorem w_t3 : (((words1.drop 24).drop 24).take 24).all (fun c => isCode c || c.before args0 about1) = true := by decide +kernel
set_option maxRecDepth 65536 in
theorem w_t4 : ((((words1.drop 24).drop 24).drop 24).take 24).all (fun c => isCode c || c.before args0 about1) = true := by decide +kernel
set_option maxRecDepth 65536 in
theorem w_t5 : (((((words1.drop 24).drop 24).drop 24).drop 24).take 24).all (fun c => isCode c || c.before args0 about1) = true := by decide +kernel
set_option maxRecDepth 65536 in
theorem w_t6 : ((((((words1.drop 24).drop 24).drop 24).drop 24).drop 24).take 24).all (fun c => isCode c || c.before args0 about1) = true := by decide +kernel
set_option maxRecDepth 65536 in
theorem w_t7 : ((((((words1.drop 24).drop 24).drop 24).drop 24).drop 24).drop 24).all (fun c => isCode c || c.before args0 about1) = true := by decide +kernel
theorem w_tables : (allAtoms (Jvm.Cond.code x code maxLocals ret :: tables_1)).before args0 about1 = true := by
  rw [allAtoms_all]
  show words1.all (fun c => c.before args0 about1) = true
  refine all_split ?_ w_codes
  rw [← List.take_append_drop 24 words1, List.all_append, w_t1, ← List.take_append_drop 24 (words1.drop 24), List.all_append, w_t2, ← List.take_append_drop 24 ((words1.drop 24).drop 24), List.all_append, w_t3, ← List.take_append_drop 24 (((words1.drop 24).drop 24).drop 24), List.all_append, w_t4, ← List.take_append_drop 24 ((((words1.drop 24).drop 24).drop 24).drop 24), List.all_append, w_t5, ← List.take_append_drop 24 (((((words1.drop 24).drop 24).drop 24).drop 24).drop 24), List.all_append, w_t6, w_t7]
  rfl
set_option maxRecDepth 65536 in
theorem w_rest : rest_1_c.before args0 about1 = true := by decide +kernel
set_option maxRecDepth 65536 in
theorem w_case : (Jvm.Cond.and given_1 narrow_1).before args0 about1 = true := by decide +kernel
set_option maxRecDepth 65536 in
theorem w_consts : constsHeld consts_1 about1 := Jvm.Lit.constsHeldB_iff.mp (by decide +kernel)
theorem w_applies : (headSpec (Jvm.Cond.code x code maxLocals ret :: tables_1) room_1).applies x e0.platform about1 = true :=
  (Spec.applies_iff w_frames).mpr ⟨w_running, w_runnable, w_alone, w_named, w_hears, w_ripe, w_room, w_tables⟩
theorem atStart : AtStart classFile x code maxLocals ret World_1 tables_1 room_1 Calls_1 rest_1 Pre_1 launch0 p0 e0 about1 theMethod args0 below0 :=
  ⟨lists_1, trivial, launch0.admits_env _ _ _, launch0.least_env, fairChoices_fair.cas, fairChoices_fair.clock, w_frames, w_args, w_heap, w_applies, ⟨w_consts, trivial⟩, w_rest, w_case⟩
end start1
theorem witness_1 : WitnessClaimed_1 := ⟨start1.p0, start1.e0, start1.about1, start1.theMethod, start1.args0, start1.below0, start1.atStart⟩
end Jvm.Pilot.@@N@@
