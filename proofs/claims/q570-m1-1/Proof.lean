import JvmDerived
import JvmDerived.Pilot.@@N@@Statement
import JvmDerived.Pilot.@@N@@Code
set_option linter.unusedVariables false
set_option linter.unusedSimpArgs false
/- laws to paste: Road.backV, Road.lenW, Road.chN, Road.eqW, Road.codOf (cut by pick.py; bodies as the Statement names them) -/
namespace Jvm.Pilot.@@N@@
namespace StrChars
open Jvm Sem ClassFile Op Lib Jvm.Stand Jvm.Free.XT Jvm.Free.ALB Jvm.Free.JM Jvm.Free
open Jvm.Lib.Cold (StaticIs)
/-- a char array whose places are chars -/
def Ch (a : Addr) (A : Cell) (U : State) : Prop := Arr .char a A U ∧ Typed .char A
theorem Ch.mv {a : Addr} {A : Cell} {U U' : State} (h : Ch a A U) (hal : U.vm.Alike U'.vm) (hh : U'.heap = U.heap) : Ch a A U' := ⟨h.1.mv hal hh, h.2⟩
theorem Ch.keep {a : Addr} {A : Cell} {U U' : State} (h : Ch a A U) (hal : U.vm.Alike U'.vm) (hk : U'.heap[a]? = some A) : Ch a A U' := ⟨h.1.keep hal hk, h.2⟩
/-- what place i of a char[]'s cell holds -/
def cv (A : Cell) (i : Nat) : Int32 := match A.slots[i]? with | some (.int x) => x | _ => 0
theorem Ch.get {a : Addr} {A : Cell} {U : State} (h : Ch a A U) {i : Nat} (hi : i < A.slots.size) : A.slots[i]? = some (.int (cv A i)) := by
  have e := Array.getElem?_eq_getElem hi
  have f := h.2 i _ e
  unfold cv; rw [e]
  generalize A.slots[i] = v at f
  cases v <;> simp [fits] at f ⊢
/-- the byte that i2b leaves of a char -/
def lo8 (x : Int32) : Int32 := x.toInt8.toInt32
theorem fits_lo8 (y : Int32) : fits .byte (.int (lo8 y)) = true := by
  have h1 := y.toInt8.le_toInt
  have h2 := y.toInt8.toInt_lt
  simp only [lo8, fits, Bool.and_eq_true, decide_eq_true_eq, Int32.le_iff_toInt_le, Int8.toInt_toInt32, show (-128 : Int32).toInt = -128 from by decide, show (127 : Int32).toInt = 127 from by decide]
  omega
/-- A' is A but that each place j of lo .. hi - 1 holds f j -/
def Laid (A A' : Cell) (lo hi : Nat) (f : Nat → Value) : Prop := A'.cls = A.cls ∧ A'.vm = A.vm ∧ A'.slots.size = A.slots.size ∧ ∀ i, A'.slots[i]? = if lo ≤ i ∧ i < hi then some (f i) else A.slots[i]?
theorem Laid.zero (A : Cell) (lo : Nat) (f : Nat → Value) : Laid A A lo (lo + 0) f := ⟨rfl, rfl, rfl, fun i => by rw [if_neg (by omega)]⟩
theorem Laid.step {A Ak : Cell} {lo k : Nat} {f : Nat → Value} {v : Value} (h : Laid A Ak lo k f) (hlo : lo ≤ k) (hk : k < Ak.slots.size) (hv : v = f k) : Laid A (Ak.setSlot k v) lo (k + 1) f := by
  refine ⟨h.1, h.2.1, by simpa [Cell.setSlot] using h.2.2.1, fun i => ?_⟩
  by_cases e : k = i
  · subst e; rw [Cell.slots_setSlot_self v hk, if_pos (by omega), hv]
  · rw [Cell.slots_setSlot_ne v e, h.2.2.2 i]
    by_cases q : lo ≤ i ∧ i < k
    · rw [if_pos q, if_pos (by omega)]
    · rw [if_neg q, if_neg (by omega)]
def U16 : String := "java/lang/StringUTF16"
namespace Cmp5
def yN : MethodName := ⟨"java/lang/StringUTF16", "compress", "([CI[BII)I"⟩
abbrev yB : ByteArray := jdk_52_method_21_code
theorem d0 : decode yB 0 = .ok (.iconst 0, 1) := by decide +kernel
theorem d1 : decode yB 1 = .ok (.istore 5, 2) := by decide +kernel
theorem d3 : decode yB 3 = .ok (.iload 5, 2) := by decide +kernel
theorem d5 : decode yB 5 = .ok (.iload 4, 2) := by decide +kernel
theorem d7 : decode yB 7 = .ok (.if_icmp (.ge) 37, 3) := by decide +kernel
theorem d10 : decode yB 10 = .ok (.aload_n 0, 1) := by decide +kernel
theorem d11 : decode yB 11 = .ok (.iload_n 1, 1) := by decide +kernel
theorem d12 : decode yB 12 = .ok (.caload, 1) := by decide +kernel
theorem d13 : decode yB 13 = .ok (.istore 6, 2) := by decide +kernel
theorem d15 : decode yB 15 = .ok (.iload 6, 2) := by decide +kernel
theorem d17 : decode yB 17 = .ok (.sipush 255, 3) := by decide +kernel
theorem d20 : decode yB 20 = .ok (.if_icmp (.le) 6, 3) := by decide +kernel
theorem d26 : decode yB 26 = .ok (.aload_n 2, 1) := by decide +kernel
theorem d27 : decode yB 27 = .ok (.iload_n 3, 1) := by decide +kernel
theorem d28 : decode yB 28 = .ok (.iload 6, 2) := by decide +kernel
theorem d30 : decode yB 30 = .ok (.i2b, 1) := by decide +kernel
theorem d31 : decode yB 31 = .ok (.bastore, 1) := by decide +kernel
theorem d32 : decode yB 32 = .ok (.iinc 1 1, 3) := by decide +kernel
theorem d35 : decode yB 35 = .ok (.iinc 3 1, 3) := by decide +kernel
theorem d38 : decode yB 38 = .ok (.iinc 5 1, 3) := by decide +kernel
theorem d41 : decode yB 41 = .ok (.goto (-38), 3) := by decide +kernel
theorem d44 : decode yB 44 = .ok (.iload 4, 2) := by decide +kernel
theorem d46 : decode yB 46 = .ok (.ireturn, 1) := by decide +kernel
def site : List Cond := []
def tab : Cond := tabOf yN yB 7 (some .int) site
def P (b : Addr) (A : Cell) (d : Addr) (B : Cell) (o q len : Nat) (args : Array Value) (s : State) : Prop := args = #[.ref b, .int (Int32.ofNat o), .ref d, .int (Int32.ofNat q), .int (Int32.ofNat len)] ∧ Ch b A s ∧ Arr .byte d B s ∧ b ≠ d ∧ o + len ≤ A.slots.size ∧ q + len ≤ B.slots.size ∧ ∀ i, i < len → ¬ 255 < cv A (o + i)
def E (b : Addr) (A : Cell) (d : Addr) (B : Cell) (o q len : Nat) (r : Option Value) (s u : State) : Prop := r = some (.int (Int32.ofNat len)) ∧ ∃ B', Put d B' s u ∧ Laid B B' q (q + len) (fun j => Value.int (lo8 (cv A (o + (j - q)))))
/-- no char of the range above 255: len; the places written hold each char's low byte -/
theorem law (l : Launch) (b : Addr) (A : Cell) (d : Addr) (B : Cell) (o q len : Nat) : Law l yN 5 5 0 0 yB 7 (some .int) site (P b A d B o q len) (E b A d B o q len) (copyLocs d q len) 0 0 := by
  refine Law.of_walk (plainFor_of_name (by decide +kernel)) (by decide +kernel) (by decide +kernel) (by decide) (fun _ _ h => by rw [h.1]; rfl) (fun _ U U' hal hh h => ⟨h.1, h.2.1.mv hal hh, h.2.2.1.mv hal hh, h.2.2.2⟩) (fun r U U' V V' h1 hal h2 h => ⟨h.1, h.2.elim fun B' q => ⟨B', q.1.mv h1 h2, q.2⟩⟩) ?_
  intro p e s m args below meth c s₁ X0 hexec hbytes hml hret hlk hnm hown hh0 W hP
  obtain ⟨rfl, hA, hB, hne, l1, l2, hp⟩ := hP
  have c1 : Steps p.tables e below (s₁.setTop (entryFrame m #[.ref b, .int (Int32.ofNat o), .ref d, .int (Int32.ofNat q), .int (Int32.ofNat len)] 7)) (s₁.setTop (mkF m 0 #[.val (.ref b), .val (.int (Int32.ofNat o)), .val (.ref d), .val (.int (Int32.ofNat q)), .val (.int (Int32.ofNat len)), .unset, .unset] [])) := entry rfl
  have hA0 := hA.1.mv X0.warmed.alike hh0
  have hB0 := hB.mv X0.warmed.alike hh0
  have a31 := hA.1.2.2.2
  have c2 : Steps p.tables e below (s₁.setTop (entryFrame m #[.ref b, .int (Int32.ofNat o), .ref d, .int (Int32.ofNat q), .int (Int32.ofNat len)] 7)) (s₁.setTop (mkF m 3 #[.val (.ref b), .val (.int (Int32.ofNat o)), .val (.ref d), .val (.int (Int32.ofNat q)), .val (.int (Int32.ofNat len)), .val (.int 0), .unset] [])) := c1.trans (by
    refine iconstV X0.here hexec rfl 0 (hb hbytes d0) (by decide) ?_
    refine XS.istore X0.here hexec rfl (hb hbytes d1) rfl rfl ?_
    exact Steps.refl _)
  have loop : ∀ (r i : Nat), i + r = len → ∀ (z : Slot), (z = .unset ∨ ∃ w, z = .val w ∧ w.category = 1) → ∀ (Tl : State) (Bk : Cell), Stand p l e { frames := 0, locals := 0, cells := 0, slots := 0 } s m #[.ref b, .int (Int32.ofNat o), .ref d, .int (Int32.ofNat q), .int (Int32.ofNat len)] below meth c Tl ([] ++ copyLocs d q i) 0 0 → Put d Bk s₁ Tl → Laid B Bk q (q + i) (fun j => Value.int (lo8 (cv A (o + (j - q))))) →
      Steps p.tables e below (s₁.setTop (entryFrame m #[.ref b, .int (Int32.ofNat o), .ref d, .int (Int32.ofNat q), .int (Int32.ofNat len)] 7)) (Tl.setTop (mkF m 3 #[.val (.ref b), .val (.int (Int32.ofNat (o + i))), .val (.ref d), .val (.int (Int32.ofNat (q + i))), .val (.int (Int32.ofNat len)), .val (.int (Int32.ofNat i)), z] [])) → ∃ (T' : State) (B' : Cell) (z' : Slot), Stand p l e { frames := 0, locals := 0, cells := 0, slots := 0 } s m #[.ref b, .int (Int32.ofNat o), .ref d, .int (Int32.ofNat q), .int (Int32.ofNat len)] below meth c T' ([] ++ copyLocs d q len) 0 0 ∧ Put d B' s₁ T' ∧ Laid B B' q (q + len) (fun j => Value.int (lo8 (cv A (o + (j - q))))) ∧
      Steps p.tables e below (s₁.setTop (entryFrame m #[.ref b, .int (Int32.ofNat o), .ref d, .int (Int32.ofNat q), .int (Int32.ofNat len)] 7)) (T'.setTop (mkF m 3 #[.val (.ref b), .val (.int (Int32.ofNat (o + len))), .val (.ref d), .val (.int (Int32.ofNat (q + len))), .val (.int (Int32.ofNat len)), .val (.int (Int32.ofNat len)), z'] [])) := by
    intro r
    induction r with
    | zero =>
      intro i hi z hz Tl Bk Xl pl fl cl
      have hil : i = len := by omega
      rw [hil] at Xl fl cl
      exact ⟨Tl, Bk, z, Xl, pl, fl, cl⟩
    | succ r ih =>
      intro i hi z hz Tl Bk Xl pl fl cl
      have all := X0.warmed.alike.symm.trans Xl.warmed.alike
      have hAl := hA0.keep all (pl.other hne hA0.1)
      have hBk := hB0.like all pl.1 fl.1 fl.2.1 fl.2.2.1
      have hlt : q + i < Bk.slots.size := by rw [fl.2.2.1]; omega
      have c3 : Steps p.tables e below (s₁.setTop (entryFrame m #[.ref b, .int (Int32.ofNat o), .ref d, .int (Int32.ofNat q), .int (Int32.ofNat len)] 7)) (Tl.setTop (mkF m 12 #[.val (.ref b), .val (.int (Int32.ofNat (o + i))), .val (.ref d), .val (.int (Int32.ofNat (q + i))), .val (.int (Int32.ofNat len)), .val (.int (Int32.ofNat i)), z] [.int (Int32.ofNat (o + i)), .ref b])) := cl.trans (by
        refine XS.iload Xl.here hexec rfl (hb hbytes d3) rfl ?_
        refine XS.iload Xl.here hexec rfl (hb hbytes d5) rfl ?_
        refine XS.icmpNo Xl.here hexec rfl (hb hbytes d7) rfl (ii_ge_f (lt32 (by omega) (by omega))) ?_
        refine XS.aloadN Xl.here hexec rfl (hb hbytes d10) rfl rfl ?_
        refine XS.iloadN Xl.here hexec rfl (hb hbytes d11) rfl ?_
        exact Steps.refl _)
      have c4 : Steps p.tables e below (s₁.setTop (entryFrame m #[.ref b, .int (Int32.ofNat o), .ref d, .int (Int32.ofNat q), .int (Int32.ofNat len)] 7)) (Tl.setTop (mkF m 13 #[.val (.ref b), .val (.int (Int32.ofNat (o + i))), .val (.ref d), .val (.int (Int32.ofNat (q + i))), .val (.int (Int32.ofNat len)), .val (.int (Int32.ofNat i)), z] [.int (cv A (o + i))])) := c3.trans (by
        refine Xl.aget hexec hAl rfl (hA.get (i := o + i) (by omega)) rfl rfl (hb hbytes d12) ?_
        exact Steps.refl _)
      have c5 : Steps p.tables e below (s₁.setTop (entryFrame m #[.ref b, .int (Int32.ofNat o), .ref d, .int (Int32.ofNat q), .int (Int32.ofNat len)] 7)) (Tl.setTop (mkF m 15 #[.val (.ref b), .val (.int (Int32.ofNat (o + i))), .val (.ref d), .val (.int (Int32.ofNat (q + i))), .val (.int (Int32.ofNat len)), .val (.int (Int32.ofNat i)), .val (.int (cv A (o + i)))] [])) := c4.trans (by
        refine XS.istoreS Xl.here hexec rfl (hb hbytes d13) rfl rfl hz ?_
        exact Steps.refl _)
      have c6 : Steps p.tables e below (s₁.setTop (entryFrame m #[.ref b, .int (Int32.ofNat o), .ref d, .int (Int32.ofNat q), .int (Int32.ofNat len)] 7)) (Tl.setTop (mkF m 31 #[.val (.ref b), .val (.int (Int32.ofNat (o + i))), .val (.ref d), .val (.int (Int32.ofNat (q + i))), .val (.int (Int32.ofNat len)), .val (.int (Int32.ofNat i)), .val (.int (cv A (o + i)))] [.int (lo8 (cv A (o + i))), .int (Int32.ofNat (q + i)), .ref d])) := c5.trans (by
        refine XS.iload Xl.here hexec rfl (hb hbytes d15) rfl ?_
        refine sipushV Xl.here hexec rfl 255 (hb hbytes d17) (by decide) ?_
        refine XS.icmpYes Xl.here hexec rfl (pc0 := 20) rfl (hb hbytes d20) rfl (ii_le_t (hp i (by omega))) (by decide) rfl ?_
        refine XS.aloadN Xl.here hexec rfl (hb hbytes d26) rfl rfl ?_
        refine XS.iloadN Xl.here hexec rfl (hb hbytes d27) rfl ?_
        refine XS.iload Xl.here hexec rfl (hb hbytes d28) rfl ?_
        refine i2b Xl.here hexec rfl (hb hbytes d30) rfl ?_
        exact Steps.refl _)
      obtain ⟨T7, X7, p7, st7⟩ := Xl.aput hexec hBk rfl hlt rfl (fits_lo8 (cv A (o + i))) (g := (mkF m 31 #[.val (.ref b), .val (.int (Int32.ofNat (o + i))), .val (.ref d), .val (.int (Int32.ofNat (q + i))), .val (.int (Int32.ofNat len)), .val (.int (Int32.ofNat i)), .val (.int (cv A (o + i)))] [.int (lo8 (cv A (o + i))), .int (Int32.ofNat (q + i)), .ref d])) rfl (rest := []) rfl (hb hbytes d31)
      have c8 : Steps p.tables e below (s₁.setTop (entryFrame m #[.ref b, .int (Int32.ofNat o), .ref d, .int (Int32.ofNat q), .int (Int32.ofNat len)] 7)) (T7.setTop (mkF m 32 #[.val (.ref b), .val (.int (Int32.ofNat (o + i))), .val (.ref d), .val (.int (Int32.ofNat (q + i))), .val (.int (Int32.ofNat len)), .val (.int (Int32.ofNat i)), .val (.int (cv A (o + i)))] [])) := c6.trans (st7 _ (Steps.refl _))
      have c9 : Steps p.tables e below (s₁.setTop (entryFrame m #[.ref b, .int (Int32.ofNat o), .ref d, .int (Int32.ofNat q), .int (Int32.ofNat len)] 7)) (T7.setTop (mkF m 3 #[.val (.ref b), .val (.int (Int32.ofNat (o + i) + 1)), .val (.ref d), .val (.int (Int32.ofNat (q + i) + 1)), .val (.int (Int32.ofNat len)), .val (.int (Int32.ofNat i + 1)), .val (.int (cv A (o + i)))] [])) := c8.trans (by
        refine iincV X7.here hexec rfl 1 (hb hbytes d32) (by decide) rfl rfl ?_
        refine iincV X7.here hexec rfl 1 (hb hbytes d35) (by decide) rfl rfl ?_
        refine iincV X7.here hexec rfl 1 (hb hbytes d38) (by decide) rfl rfl ?_
        refine XS.goto X7.here hexec rfl (pc0 := 41) rfl (hb hbytes d41) (by decide) rfl ?_
        exact Steps.refl _)
      have c10 : Steps p.tables e below (s₁.setTop (entryFrame m #[.ref b, .int (Int32.ofNat o), .ref d, .int (Int32.ofNat q), .int (Int32.ofNat len)] 7)) (T7.setTop (mkF m 3 #[.val (.ref b), .val (.int (Int32.ofNat (o + (i + 1)))), .val (.ref d), .val (.int (Int32.ofNat (q + (i + 1)))), .val (.int (Int32.ofNat len)), .val (.int (Int32.ofNat (i + 1))), .val (.int (cv A (o + i)))] [])) := by
        have := c9
        rw [succ32, succ32, succ32] at this
        exact this
      exact ih (i + 1) (by omega) _ (Or.inr ⟨_, rfl, rfl⟩) T7 _ (by rw [copyLocs_step, ← List.append_assoc]; exact X7) (pl.trans p7) (fl.step (by omega) hlt (by simp)) c10
  obtain ⟨T9, B9, z9, X9, p9, f9, g9⟩ := loop len 0 (by omega) .unset (Or.inl rfl) s₁ B (by simpa [copyLocs] using X0) ⟨hB0.1, fun _ _ => rfl, rfl⟩ (Laid.zero _ _ _) c2
  have c11 : Steps p.tables e below (s₁.setTop (entryFrame m #[.ref b, .int (Int32.ofNat o), .ref d, .int (Int32.ofNat q), .int (Int32.ofNat len)] 7)) (T9.setTop (mkF m 46 #[.val (.ref b), .val (.int (Int32.ofNat (o + len))), .val (.ref d), .val (.int (Int32.ofNat (q + len))), .val (.int (Int32.ofNat len)), .val (.int (Int32.ofNat len)), z9] [.int (Int32.ofNat len)])) := g9.trans (by
    refine XS.iload X9.here hexec rfl (hb hbytes d3) rfl ?_
    refine XS.iload X9.here hexec rfl (hb hbytes d5) rfl ?_
    refine XS.icmpYes X9.here hexec rfl (pc0 := 7) rfl (hb hbytes d7) rfl (ii_ge_t (nlt32 (by omega) (Nat.le_refl _))) (by decide) rfl ?_
    refine XS.iload X9.here hexec rfl (hb hbytes d44) rfl ?_
    exact Steps.refl _)
  exact ⟨T9, some (.int (Int32.ofNat len)), _, _, _, X9, by simp, rfl, rfl, (fun h => by cases h), ⟨rfl, B9, p9.from hh0, f9⟩, fun fs hl => c11.trans (X9.ireturnOut hexec hret rfl (Or.inl rfl) (hb hbytes d46) hl)⟩
end Cmp5
namespace Cmp3
def yN : MethodName := ⟨"java/lang/StringUTF16", "compress", "([CII)[B"⟩
abbrev yB : ByteArray := jdk_52_method_16_code
theorem d0 : decode yB 0 = .ok (.iload_n 2, 1) := by decide +kernel
theorem d1 : decode yB 1 = .ok (.newarray .byte, 2) := by decide +kernel
theorem d3 : decode yB 3 = .ok (.astore_n 3, 1) := by decide +kernel
theorem d4 : decode yB 4 = .ok (.aload_n 0, 1) := by decide +kernel
theorem d5 : decode yB 5 = .ok (.iload_n 1, 1) := by decide +kernel
theorem d6 : decode yB 6 = .ok (.aload_n 3, 1) := by decide +kernel
theorem d7 : decode yB 7 = .ok (.iconst 0, 1) := by decide +kernel
theorem d8 : decode yB 8 = .ok (.iload_n 2, 1) := by decide +kernel
theorem d9 : decode yB 9 = .ok (.invokestatic 115, 3) := by decide +kernel
theorem d12 : decode yB 12 = .ok (.istore 4, 2) := by decide +kernel
theorem d14 : decode yB 14 = .ok (.iload 4, 2) := by decide +kernel
theorem d16 : decode yB 16 = .ok (.iload_n 2, 1) := by decide +kernel
theorem d17 : decode yB 17 = .ok (.if_icmp (.eq) 40, 3) := by decide +kernel
theorem d57 : decode yB 57 = .ok (.aload_n 3, 1) := by decide +kernel
theorem d58 : decode yB 58 = .ok (.areturn, 1) := by decide +kernel
def site : List Cond := [.arrayClass .byte, Cmp5.tab] ++ staticW U16 115 Cmp5.yN
def tab : Cond := tabOf yN yB 6 (some (.array .byte)) site
def P (b : Addr) (A : Cell) (o len : Nat) (args : Array Value) (s : State) : Prop := args = #[.ref b, .int (Int32.ofNat o), .int (Int32.ofNat len)] ∧ Ch b A s ∧ o + len ≤ A.slots.size ∧ len ≤ 536870912 ∧ ∀ i, i < len → ¬ 255 < cv A (o + i)
def E (b : Addr) (A : Cell) (o len : Nat) (r : Option Value) (s u : State) : Prop := NewArr .byte "[B" len (fun j => .int (lo8 (cv A (o + j)))) r s u ∧ u.heap.size = s.heap.size + 1
/-- no char of the range above 255: a new byte[] of their low bytes -/
theorem law (l : Launch) (b : Addr) (A : Cell) (o len : Nat) : Law l yN 3 3 1 18 yB 6 (some (.array .byte)) site (P b A o len) (E b A o len) [] 1 len := by
  refine Law.of_walk (plainFor_of_name (by decide +kernel)) (by decide +kernel) (by decide +kernel) (by decide) (fun _ _ h => by rw [h.1]; rfl) (fun _ U U' hal hh h => ⟨h.1, h.2.1.mv hal hh, h.2.2⟩) (fun r U U' V V' h1 hal h2 h => ⟨NewArr.mv r U U' V V' h1 hal h2 h.1, by rw [h1, h2]; exact h.2⟩) ?_
  intro p e s m args below meth c s₁ X0 hexec hbytes hml hret hlk hnm hown hh0 W hP
  obtain ⟨rfl, hA, l1, l2, hp⟩ := hP
  have a31 := hA.1.2.2.2
  have c1 : Steps p.tables e below (s₁.setTop (entryFrame m #[.ref b, .int (Int32.ofNat o), .int (Int32.ofNat len)] 6)) (s₁.setTop (mkF m 0 #[.val (.ref b), .val (.int (Int32.ofNat o)), .val (.int (Int32.ofNat len)), .unset, .unset, .unset] [])) := entry rfl
  have c2 : Steps p.tables e below (s₁.setTop (entryFrame m #[.ref b, .int (Int32.ofNat o), .int (Int32.ofNat len)] 6)) (s₁.setTop (mkF m 1 #[.val (.ref b), .val (.int (Int32.ofNat o)), .val (.int (Int32.ofNat len)), .unset, .unset, .unset] [.int (Int32.ofNat len)])) := c1.trans (by
    refine XS.iloadN X0.here hexec rfl (hb hbytes d0) rfl ?_
    exact Steps.refl _)
  obtain ⟨T3, B3, X3, ba3, bs3, bv3, bh3, bf3, st3⟩ := X0.anew hexec (atype := .byte) (wk W (.arrayClass .byte)) rfl (by show len * 1 ≤ _; omega) (by omega) (g := (mkF m 1 #[.val (.ref b), .val (.int (Int32.ofNat o)), .val (.int (Int32.ofNat len)), .unset, .unset, .unset] [.int (Int32.ofNat len)])) rfl (hb hbytes d1) (rest := []) rfl (Nat.le_refl _) (by show 0 + len ≤ len; omega)
  rw [hh0] at ba3 st3
  have kp3 : XT.Kept s T3 := (XT.Kept.of_eq hh0).push bh3
  have hA3 := hA.keep X3.warmed.alike (kp3 _ _ hA.1.1)
  have hne : b ≠ s.heap.size := hA.1.ne
  have c4 : Steps p.tables e below (s₁.setTop (entryFrame m #[.ref b, .int (Int32.ofNat o), .int (Int32.ofNat len)] 6)) (T3.setTop (mkF m 3 #[.val (.ref b), .val (.int (Int32.ofNat o)), .val (.int (Int32.ofNat len)), .unset, .unset, .unset] [.ref s.heap.size])) := c2.trans (st3 _ (Steps.refl _))
  have c5 : Steps p.tables e below (s₁.setTop (entryFrame m #[.ref b, .int (Int32.ofNat o), .int (Int32.ofNat len)] 6)) (T3.setTop (mkF m 9 #[.val (.ref b), .val (.int (Int32.ofNat o)), .val (.int (Int32.ofNat len)), .val (.ref s.heap.size), .unset, .unset] [.int (Int32.ofNat len), .int 0, .ref s.heap.size, .int (Int32.ofNat o), .ref b])) := c4.trans (by
    refine XS.astoreN X3.here hexec rfl (hb hbytes d3) rfl rfl rfl ?_
    refine XS.aloadN X3.here hexec rfl (hb hbytes d4) rfl rfl ?_
    refine XS.iloadN X3.here hexec rfl (hb hbytes d5) rfl ?_
    refine XS.aloadN X3.here hexec rfl (hb hbytes d6) rfl rfl ?_
    refine iconstV X3.here hexec rfl 0 (hb hbytes d7) (by decide) ?_
    refine XS.iloadN X3.here hexec rfl (hb hbytes d8) rfl ?_
    exact Steps.refl _)
  obtain ⟨v6, T6, X6, E6, g6⟩ := X3.callS hexec (Cmp5.law l b A s.heap.size B3 o 0 len) hown (wks W (staticW U16 115 Cmp5.yN)) (wk W Cmp5.tab) (W := 0) (Nat.le_of_ble_eq_true rfl) (Nat.le_of_ble_eq_true rfl) (Nat.le_refl _) (by show 0 + len + 0 ≤ len; omega) (g := (mkF m 9 #[.val (.ref b), .val (.int (Int32.ofNat o)), .val (.int (Int32.ofNat len)), .val (.ref s.heap.size), .unset, .unset] [.int (Int32.ofNat len), .int (Int32.ofNat 0), .ref s.heap.size, .int (Int32.ofNat o), .ref b])) rfl (by rw [hml]; rfl) c5 (argsL := [.ref b, .int (Int32.ofNat o), .ref s.heap.size, .int (Int32.ofNat 0), .int (Int32.ofNat len)]) (rest := []) rfl rfl (by show 2 * 0 + 0 ≤ _; decide) (hb hbytes d9) (⟨rfl, hA3, ba3, hne, l1, by rw [bs3]; simp, hp⟩)
  obtain ⟨rfl, B6, p6, f6⟩ := E6
  have c7 : Steps p.tables e below (s₁.setTop (entryFrame m #[.ref b, .int (Int32.ofNat o), .int (Int32.ofNat len)] 6)) (T6.setTop (mkF m 12 #[.val (.ref b), .val (.int (Int32.ofNat o)), .val (.int (Int32.ofNat len)), .val (.ref s.heap.size), .unset, .unset] [.int (Int32.ofNat len)])) := g6
  have c8 : Steps p.tables e below (s₁.setTop (entryFrame m #[.ref b, .int (Int32.ofNat o), .int (Int32.ofNat len)] 6)) (T6.setTop (mkF m 58 #[.val (.ref b), .val (.int (Int32.ofNat o)), .val (.int (Int32.ofNat len)), .val (.ref s.heap.size), .val (.int (Int32.ofNat len)), .unset] [.ref s.heap.size])) := c7.trans (by
    refine XS.istore X6.here hexec rfl (hb hbytes d12) rfl rfl ?_
    refine XS.iload X6.here hexec rfl (hb hbytes d14) rfl ?_
    refine XS.iloadN X6.here hexec rfl (hb hbytes d16) rfl ?_
    refine XS.icmpYes X6.here hexec rfl (pc0 := 17) rfl (hb hbytes d17) rfl (ii_eq_t rfl) (by decide) rfl ?_
    refine XS.aloadN X6.here hexec rfl (hb hbytes d57) rfl rfl ?_
    exact Steps.refl _)
  have X8 := X6.wide (L' := []) (cells' := 1) (slots' := len) (fun x hx hlt => by
    simp only [List.nil_append, copyLocs, List.mem_map, List.mem_range] at hx
    obtain ⟨i, -, rfl⟩ := hx
    exact absurd hlt (Nat.lt_irrefl _)) (Nat.le_refl _) (by omega)
  exact ⟨T6, some (.ref s.heap.size), _, _, _, X8, rfl, rfl, rfl, (fun h => by cases h), ⟨⟨rfl, B6, ba3.like (X3.warmed.alike.symm.trans X6.warmed.alike) p6.1 f6.1 f6.2.1 f6.2.2.1, f6.2.1.trans bv3, by rw [X6.warmed.alike.findClass, f6.1]; exact bf3, by rw [f6.2.2.1, bs3]; simp, fun j hj => by rw [f6.2.2.2 j, if_pos (by omega)]; rfl, kp3.put p6 (Nat.le_refl _)⟩, by rw [p6.2.2, bh3, hh0]; simp⟩, fun fs hl => c8.trans (X8.areturnOut hexec rfl hret rfl (hb hbytes d58) hl)⟩
end Cmp3
namespace CodL
def yN : MethodName := ⟨"java/lang/StringUTF16", "coderFromArrayLen", "([BI)B"⟩
abbrev yB : ByteArray := jdk_52_method_15_code
theorem d0 : decode yB 0 = .ok (.iload_n 1, 1) := by decide +kernel
theorem d1 : decode yB 1 = .ok (.aload_n 0, 1) := by decide +kernel
theorem d2 : decode yB 2 = .ok (.arraylength, 1) := by decide +kernel
theorem d3 : decode yB 3 = .ok (.isub, 1) := by decide +kernel
theorem d4 : decode yB 4 = .ok (.bipush 31, 2) := by decide +kernel
theorem d6 : decode yB 6 = .ok (.iushr, 1) := by decide +kernel
theorem d7 : decode yB 7 = .ok (.i2b, 1) := by decide +kernel
theorem d8 : decode yB 8 = .ok (.ireturn, 1) := by decide +kernel
def site : List Cond := []
def tab : Cond := tabOf yN yB 2 (some .byte) site
def P (d : Addr) (B : Cell) (args : Array Value) (s : State) : Prop := args = #[.ref d, .int (Int32.ofNat B.slots.size)] ∧ Arr .byte d B s
def E (r : Option Value) (s u : State) : Prop := XT.PureE (some (.int 0)) r s u
/-- an array as long as the number of chars: LATIN1 -/
theorem law (l : Launch) (d : Addr) (B : Cell) : Law l yN 2 2 0 0 yB 2 (some .byte) site (P d B) E [] 0 0 := by
  refine Law.of_walk (plainFor_of_name (by decide +kernel)) (by decide +kernel) (by decide +kernel) (by decide) (fun _ _ h => by rw [h.1]; rfl) (fun _ U U' hal hh h => ⟨h.1, h.2.mv hal hh⟩) (fun r U U' V V' h1 hal h2 h => XT.PureE.mv r U U' V V' h1 hal h2 h) ?_
  intro p e s m args below meth c s₁ X0 hexec hbytes hml hret hlk hnm hown hh0 W hP
  obtain ⟨rfl, hB⟩ := hP
  have hB0 := hB.mv X0.warmed.alike hh0
  have c1 : Steps p.tables e below (s₁.setTop (entryFrame m #[.ref d, .int (Int32.ofNat B.slots.size)] 2)) (s₁.setTop (mkF m 0 #[.val (.ref d), .val (.int (Int32.ofNat B.slots.size))] [])) := entry rfl
  have c2 : Steps p.tables e below (s₁.setTop (entryFrame m #[.ref d, .int (Int32.ofNat B.slots.size)] 2)) (s₁.setTop (mkF m 2 #[.val (.ref d), .val (.int (Int32.ofNat B.slots.size))] [.ref d, .int (Int32.ofNat B.slots.size)])) := c1.trans (by
    refine XS.iloadN X0.here hexec rfl (hb hbytes d0) rfl ?_
    refine XS.aloadN X0.here hexec rfl (hb hbytes d1) rfl rfl ?_
    exact Steps.refl _)
  have c3 : Steps p.tables e below (s₁.setTop (entryFrame m #[.ref d, .int (Int32.ofNat B.slots.size)] 2)) (s₁.setTop (mkF m 8 #[.val (.ref d), .val (.int (Int32.ofNat B.slots.size))] [.int (lo8 (ushr (Int32.ofNat B.slots.size - Int32.ofNat B.slots.size) 31))])) := c2.trans (by
    refine X0.alen hexec hB0 rfl rfl (hb hbytes d2) ?_
    refine XS.isub X0.here hexec rfl (hb hbytes d3) rfl ?_
    refine bipushV X0.here hexec rfl 31 (hb hbytes d4) (by decide) ?_
    refine iushr X0.here hexec rfl (hb hbytes d6) rfl ?_
    refine i2b X0.here hexec rfl (hb hbytes d7) rfl ?_
    exact Steps.refl _)
  have e0 : lo8 (ushr (Int32.ofNat B.slots.size - Int32.ofNat B.slots.size) 31) = 0 := by rw [Int32.sub_self]; decide
  rw [e0] at c3
  exact ⟨s₁, some (.int 0), _, _, _, X0, rfl, rfl, rfl, (fun h => by cases h), ⟨rfl, hh0⟩, fun fs hl => c3.trans (X0.ireturnOut hexec hret rfl (Or.inr (Or.inr (Or.inl rfl))) (hb hbytes d8) hl)⟩
end CodL
/-- the String at a is Latin-1 over a new byte[] (the heap's one new cell): the low bytes of the len chars of A from o on; every cell but a is kept -/
def Got (a : Addr) (D : Cell) (fV fC : Field) (A : Cell) (o len : Nat) (r : Option Value) (s u : State) : Prop := r = none ∧ ∃ D' V : Cell, Blank "java/lang/String" a D' u ∧ Same D D' [fV.slot, fC.slot] ∧ D'.slots[fV.slot]? = some (.ref s.heap.size) ∧ D'.slots[fC.slot]? = some (.int 0) ∧ Arr .byte s.heap.size V u ∧ V.vm = .none ∧ u.vm.findClass "[B" = some V.cls ∧ V.slots.size = len ∧ (∀ j, j < len → V.slots[j]? = some (.int (lo8 (cv A (o + j))))) ∧ (∀ (y : Addr) (c : Cell), y ≠ a → s.heap[y]? = some c → u.heap[y]? = some c) ∧ u.heap.size = s.heap.size + 1
theorem Got.mv {a : Addr} {D A : Cell} {fV fC : Field} {o len : Nat} : ∀ r (U U' V V' : State), U'.heap = U.heap → V.vm.Alike V'.vm → V'.heap = V.heap → Got a D fV fC A o len r U V → Got a D fV fC A o len r U' V' :=
  fun r U U' V V' h1 hal h2 ⟨e0, D', X, a1, a2, a3, a4, a5, a6, a7, a8, a9, a10, a11⟩ => ⟨e0, D', X, a1.mv hal h2, a2, by rw [h1]; exact a3, a4, by rw [h1]; exact a5.mv hal h2, a6, by rw [hal.findClass]; exact a7, a8, a9, by rw [h1, h2]; exact a10, by rw [h1, h2]; exact a11⟩
namespace New4
def yN : MethodName := ⟨"java/lang/String", "<init>", "([CIILjava/lang/Void;)V"⟩
abbrev yB : ByteArray := jdk_42_method_149_code
theorem d0 : decode yB 0 = .ok (.aload_n 0, 1) := by decide +kernel
theorem d1 : decode yB 1 = .ok (.invokespecial 1, 3) := by decide +kernel
theorem d4 : decode yB 4 = .ok (.iload_n 3, 1) := by decide +kernel
theorem d5 : decode yB 5 = .ok (.ifCond (.ne) 22, 3) := by decide +kernel
theorem d27 : decode yB 27 = .ok (.getstatic 38, 3) := by decide +kernel
theorem d30 : decode yB 30 = .ok (.ifCond (.eq) 28, 3) := by decide +kernel
theorem d33 : decode yB 33 = .ok (.aload_n 1, 1) := by decide +kernel
theorem d34 : decode yB 34 = .ok (.iload_n 2, 1) := by decide +kernel
theorem d35 : decode yB 35 = .ok (.iload_n 3, 1) := by decide +kernel
theorem d36 : decode yB 36 = .ok (.invokestatic 177, 3) := by decide +kernel
theorem d39 : decode yB 39 = .ok (.astore 5, 2) := by decide +kernel
theorem d41 : decode yB 41 = .ok (.aload_n 0, 1) := by decide +kernel
theorem d42 : decode yB 42 = .ok (.aload 5, 2) := by decide +kernel
theorem d44 : decode yB 44 = .ok (.iload_n 3, 1) := by decide +kernel
theorem d45 : decode yB 45 = .ok (.invokestatic 47, 3) := by decide +kernel
theorem d48 : decode yB 48 = .ok (.putfield 15, 3) := by decide +kernel
theorem d51 : decode yB 51 = .ok (.aload_n 0, 1) := by decide +kernel
theorem d52 : decode yB 52 = .ok (.aload 5, 2) := by decide +kernel
theorem d54 : decode yB 54 = .ok (.putfield 9, 3) := by decide +kernel
theorem d57 : decode yB 57 = .ok (.return_, 1) := by decide +kernel
def site : List Cond := [.fieldLink "java/lang/String" 38 "java/lang/String" "COMPACT_STRINGS" "Z", Cmp3.tab, CodL.tab, .laysFinal "java/lang/String" "java/lang/String" "value" "[B", .fieldLink "java/lang/String" 9 "java/lang/String" "value" "[B", .laysFinal "java/lang/String" "java/lang/String" "coder" "B", .fieldLink "java/lang/String" 15 "java/lang/String" "coder" "B"] ++ objW "java/lang/String" 1 ++ staticW "java/lang/String" 177 Cmp3.yN ++ staticW "java/lang/String" 47 CodL.yN
def tab : Cond := tabOf yN yB 6 none site
def P (a : Addr) (D : Cell) (fV fC : Field) (b : Addr) (A : Cell) (z : Int32) (o len : Nat) (args : Array Value) (s : State) : Prop := args = #[.ref a, .ref b, .int (Int32.ofNat o), .int (Int32.ofNat len), .null] ∧ Blank "java/lang/String" a D s ∧ Found "java/lang/String" "value" "[B" fV s ∧ Found "java/lang/String" "coder" "B" fC s ∧ Ch b A s ∧ StaticIs s "java/lang/String" "COMPACT_STRINGS" "Z" (.int z) ∧ ¬ z = 0 ∧ 0 < len ∧ o + len ≤ A.slots.size ∧ len ≤ 536870912 ∧ ∀ i, i < len → ¬ 255 < cv A (o + i)
def E (a : Addr) (D : Cell) (fV fC : Field) (A : Cell) (o len : Nat) (r : Option Value) (s u : State) : Prop := Got a D fV fC A o len r s u
/-- len > 0, no char of the range above 255: a Latin-1 String of their low bytes -/
theorem law (l : Launch) (a : Addr) (D : Cell) (fV fC : Field) (b : Addr) (A : Cell) (z : Int32) (o len : Nat) : Law l yN 5 4 2 35 yB 6 none site (P a D fV fC b A z o len) (E a D fV fC A o len) [⟨a, fC.slot⟩, ⟨a, fV.slot⟩] 1 len := by
  refine Law.of_walk (plainFor_of_name (by decide +kernel)) (by decide +kernel) (by decide +kernel) (by decide) (fun _ _ h => by rw [h.1]; rfl) (fun _ U U' hal hh h => ⟨h.1, h.2.1.mv hal hh, h.2.2.1.al hal, h.2.2.2.1.al hal, h.2.2.2.2.1.mv hal hh, h.2.2.2.2.2.1.there hal hh, h.2.2.2.2.2.2⟩) (fun r U U' V V' h1 hal h2 h => Got.mv r U U' V V' h1 hal h2 h) ?_
  intro p e s m args below meth c s₁ X0 hexec hbytes hml hret hlk hnm hown hh0 W hP
  obtain ⟨rfl, hB, f1, f2, hA, s1, hz, l0, l1, l2, hp⟩ := hP
  have a31 := hA.1.2.2.2
  have c1 : Steps p.tables e below (s₁.setTop (entryFrame m #[.ref a, .ref b, .int (Int32.ofNat o), .int (Int32.ofNat len), .null] 6)) (s₁.setTop (mkF m 0 #[.val (.ref a), .val (.ref b), .val (.int (Int32.ofNat o)), .val (.int (Int32.ofNat len)), .val .null, .unset] [])) := entry rfl
  have c2 : Steps p.tables e below (s₁.setTop (entryFrame m #[.ref a, .ref b, .int (Int32.ofNat o), .int (Int32.ofNat len), .null] 6)) (s₁.setTop (mkF m 1 #[.val (.ref a), .val (.ref b), .val (.int (Int32.ofNat o)), .val (.int (Int32.ofNat len)), .val .null, .unset] [.ref a])) := c1.trans (by
    refine XS.aloadN X0.here hexec rfl (hb hbytes d0) rfl rfl ?_
    exact Steps.refl _)
  obtain ⟨T3, X3, q3, st3⟩ := X0.oinit hexec hown (wks W (objW "java/lang/String" 1)) (g := (mkF m 1 #[.val (.ref a), .val (.ref b), .val (.int (Int32.ofNat o)), .val (.int (Int32.ofNat len)), .val .null, .unset] [.ref a])) rfl (by rw [hml]; rfl) (rest := []) rfl (hb hbytes d1) (W := 0) (by show 2 * 0 + 0 ≤ _; decide) (Nat.le_of_ble_eq_true rfl) (Nat.le_of_ble_eq_true rfl)
  have hh3 := q3.trans hh0
  have c4 : Steps p.tables e below (s₁.setTop (entryFrame m #[.ref a, .ref b, .int (Int32.ofNat o), .int (Int32.ofNat len), .null] 6)) (T3.setTop (mkF m 27 #[.val (.ref a), .val (.ref b), .val (.int (Int32.ofNat o)), .val (.int (Int32.ofNat len)), .val .null, .unset] [])) := (c2.trans (st3 _ (Steps.refl _))).trans (by
    refine XS.iloadN X3.here hexec rfl (hb hbytes d4) rfl ?_
    refine XS.ifYes X3.here hexec rfl (pc0 := 5) rfl (hb hbytes d5) rfl (i0_ne_t (nz32 (by omega) l0)) (by decide) rfl ?_
    exact Steps.refl _)
  obtain ⟨T5, X5, q5, st5⟩ := X3.sget hexec hown (wk W (.fieldLink "java/lang/String" 38 "java/lang/String" "COMPACT_STRINGS" "Z")) s1 (fun _ _ h => by rw [hh3]; exact h) (g := (mkF m 27 #[.val (.ref a), .val (.ref b), .val (.int (Int32.ofNat o)), .val (.int (Int32.ofNat len)), .val .null, .unset] [])) rfl (hb hbytes d27)
  have hh5 := q5.trans hh3
  have c6 : Steps p.tables e below (s₁.setTop (entryFrame m #[.ref a, .ref b, .int (Int32.ofNat o), .int (Int32.ofNat len), .null] 6)) (T5.setTop (mkF m 30 #[.val (.ref a), .val (.ref b), .val (.int (Int32.ofNat o)), .val (.int (Int32.ofNat len)), .val .null, .unset] [.int z])) := c4.trans (st5 _ (Steps.refl _))
  have c7 : Steps p.tables e below (s₁.setTop (entryFrame m #[.ref a, .ref b, .int (Int32.ofNat o), .int (Int32.ofNat len), .null] 6)) (T5.setTop (mkF m 36 #[.val (.ref a), .val (.ref b), .val (.int (Int32.ofNat o)), .val (.int (Int32.ofNat len)), .val .null, .unset] [.int (Int32.ofNat len), .int (Int32.ofNat o), .ref b])) := c6.trans (by
    refine XS.ifNo X5.here hexec rfl (hb hbytes d30) rfl (i0_eq_f hz) ?_
    refine XS.aloadN X5.here hexec rfl (hb hbytes d33) rfl rfl ?_
    refine XS.iloadN X5.here hexec rfl (hb hbytes d34) rfl ?_
    refine XS.iloadN X5.here hexec rfl (hb hbytes d35) rfl ?_
    exact Steps.refl _)
  obtain ⟨v8, T8, X8, E8, g8⟩ := X5.callS hexec (Cmp3.law l b A o len) hown (wks W (staticW "java/lang/String" 177 Cmp3.yN)) (wk W Cmp3.tab) (W := 0) (Nat.le_of_ble_eq_true rfl) (Nat.le_of_ble_eq_true rfl) (Nat.le_refl _) (by show 0 + len ≤ len; omega) (g := (mkF m 36 #[.val (.ref a), .val (.ref b), .val (.int (Int32.ofNat o)), .val (.int (Int32.ofNat len)), .val .null, .unset] [.int (Int32.ofNat len), .int (Int32.ofNat o), .ref b])) rfl (by rw [hml]; rfl) c7 (argsL := [.ref b, .int (Int32.ofNat o), .int (Int32.ofNat len)]) (rest := []) rfl rfl (by show 2 * 0 + 0 ≤ _; decide) (hb hbytes d36) (⟨rfl, hA.mv X5.warmed.alike hh5, l1, l2, hp⟩)
  obtain ⟨e8, z8⟩ := E8
  obtain ⟨rfl, N, n1, n2, n3, n4, n5, n6⟩ := NewArr.mv _ T5 s _ _ hh5.symm (Vm.Alike.refl _) rfl e8
  rw [hh5] at z8
  have hB1 := hB.keep X8.warmed.alike (n6 _ _ hB.1)
  have hne : s.heap.size ≠ a := (Nat.ne_of_lt (Array.getElem?_eq_some_iff.mp hB.1).1).symm
  have c9 : Steps p.tables e below (s₁.setTop (entryFrame m #[.ref a, .ref b, .int (Int32.ofNat o), .int (Int32.ofNat len), .null] 6)) (T8.setTop (mkF m 39 #[.val (.ref a), .val (.ref b), .val (.int (Int32.ofNat o)), .val (.int (Int32.ofNat len)), .val .null, .unset] [.ref s.heap.size])) := g8
  have c10 : Steps p.tables e below (s₁.setTop (entryFrame m #[.ref a, .ref b, .int (Int32.ofNat o), .int (Int32.ofNat len), .null] 6)) (T8.setTop (mkF m 45 #[.val (.ref a), .val (.ref b), .val (.int (Int32.ofNat o)), .val (.int (Int32.ofNat len)), .val .null, .val (.ref s.heap.size)] [.int (Int32.ofNat N.slots.size), .ref s.heap.size, .ref a])) := by
    have hc : Steps p.tables e below (s₁.setTop (entryFrame m #[.ref a, .ref b, .int (Int32.ofNat o), .int (Int32.ofNat len), .null] 6)) (T8.setTop (mkF m 45 #[.val (.ref a), .val (.ref b), .val (.int (Int32.ofNat o)), .val (.int (Int32.ofNat len)), .val .null, .val (.ref s.heap.size)] [.int (Int32.ofNat len), .ref s.heap.size, .ref a])) := c9.trans (by
      refine XS.astore X8.here hexec rfl (hb hbytes d39) rfl rfl rfl ?_
      refine XS.aloadN X8.here hexec rfl (hb hbytes d41) rfl rfl ?_
      refine XS.aload X8.here hexec rfl (hb hbytes d42) rfl rfl ?_
      refine XS.iloadN X8.here hexec rfl (hb hbytes d44) rfl ?_
      exact Steps.refl _)
    rw [n4]; exact hc
  obtain ⟨v11, T11, X11, E11, g11⟩ := X8.callS hexec (CodL.law l s.heap.size N) hown (wks W (staticW "java/lang/String" 47 CodL.yN)) (wk W CodL.tab) (W := 1) (Nat.le_of_ble_eq_true rfl) (Nat.le_of_ble_eq_true rfl) (Nat.le_refl _) (by show 0 + len + 0 ≤ len; omega) (g := (mkF m 45 #[.val (.ref a), .val (.ref b), .val (.int (Int32.ofNat o)), .val (.int (Int32.ofNat len)), .val .null, .val (.ref s.heap.size)] [.int (Int32.ofNat N.slots.size), .ref s.heap.size, .ref a])) rfl (by rw [hml]; rfl) c10 (argsL := [.ref s.heap.size, .int (Int32.ofNat N.slots.size)]) (rest := [.ref a]) rfl rfl (by show 2 * 0 + (1 + 0) ≤ _; decide) (hb hbytes d45) (⟨rfl, n1⟩)
  obtain ⟨rfl, q11⟩ := E11
  have hB11 := hB1.mv (X8.warmed.alike.symm.trans X11.warmed.alike) q11
  have c12 : Steps p.tables e below (s₁.setTop (entryFrame m #[.ref a, .ref b, .int (Int32.ofNat o), .int (Int32.ofNat len), .null] 6)) (T11.setTop (mkF m 48 #[.val (.ref a), .val (.ref b), .val (.int (Int32.ofNat o)), .val (.int (Int32.ofNat len)), .val .null, .val (.ref s.heap.size)] [.int 0, .ref a])) := g11
  obtain ⟨T13, X13, p13, bl13, sl13, st13⟩ := X11.finit hexec hown (wk W (.fieldLink "java/lang/String" 15 "java/lang/String" "coder" "B")) (Or.inr ⟨_, (wk W (.laysFinal "java/lang/String" "java/lang/String" "coder" "B"))⟩) (Or.inl ⟨rfl, hnm⟩) f2 (Or.inl rfl) hB11 (t := .byte) (by decide +kernel) rfl (g := (mkF m 48 #[.val (.ref a), .val (.ref b), .val (.int (Int32.ofNat o)), .val (.int (Int32.ofNat len)), .val .null, .val (.ref s.heap.size)] [.int 0, .ref a])) rfl (rest := []) rfl (hb hbytes d48)
  have c14 : Steps p.tables e below (s₁.setTop (entryFrame m #[.ref a, .ref b, .int (Int32.ofNat o), .int (Int32.ofNat len), .null] 6)) (T13.setTop (mkF m 54 #[.val (.ref a), .val (.ref b), .val (.int (Int32.ofNat o)), .val (.int (Int32.ofNat len)), .val .null, .val (.ref s.heap.size)] [.ref s.heap.size, .ref a])) := (c12.trans (st13 _ (Steps.refl _))).trans (by
    refine XS.aloadN X13.here hexec rfl (hb hbytes d51) rfl rfl ?_
    refine XS.aload X13.here hexec rfl (hb hbytes d52) rfl rfl ?_
    exact Steps.refl _)
  obtain ⟨T15, X15, p15, bl15, sl15, st15⟩ := X13.finit hexec hown (wk W (.fieldLink "java/lang/String" 9 "java/lang/String" "value" "[B")) (Or.inr ⟨_, (wk W (.laysFinal "java/lang/String" "java/lang/String" "value" "[B"))⟩) (Or.inl ⟨rfl, hnm⟩) f1 (Or.inl rfl) bl13 (t := (.array .byte)) (by decide +kernel) rfl (g := (mkF m 54 #[.val (.ref a), .val (.ref b), .val (.int (Int32.ofNat o)), .val (.int (Int32.ofNat len)), .val .null, .val (.ref s.heap.size)] [.ref s.heap.size, .ref a])) rfl (rest := []) rfl (hb hbytes d54)
  have c16 : Steps p.tables e below (s₁.setTop (entryFrame m #[.ref a, .ref b, .int (Int32.ofNat o), .int (Int32.ofNat len), .null] 6)) (T15.setTop (mkF m 57 #[.val (.ref a), .val (.ref b), .val (.int (Int32.ofNat o)), .val (.int (Int32.ofNat len)), .val .null, .val (.ref s.heap.size)] [])) := c14.trans (st15 _ (Steps.refl _))
  have ap := apart (Or.inr ⟨_, (wk W (.laysFinal "java/lang/String" "java/lang/String" "value" "[B"))⟩) (Or.inr ⟨_, (wk W (.laysFinal "java/lang/String" "java/lang/String" "coder" "B"))⟩) f1 f2 (t₁ := .array .byte) (t₂ := .byte) (by decide +kernel) (by decide +kernel) (by decide)
  have al := X8.warmed.alike.symm.trans X15.warmed.alike
  have n7 : T11.heap[s.heap.size]? = some N := by rw [q11]; exact n1.1
  exact ⟨T15, none, _, _, _, X15, by simp, rfl, by omega, (fun _ => rfl), ⟨rfl, _, N, bl15, ((Same.refl D _).set _ (by simp)).set _ (by simp), sl15, (Cell.slots_setSlot_ne _ ap).trans sl13, n1.keep al (p15.other hne (p13.other hne n7)), n2, by rw [al.findClass]; exact n3, n4, n5, fun y c h1 h2 => p15.other h1 (p13.other h1 (by rw [q11]; exact n6 y c h2)), by rw [p15.2.2, p13.2.2, q11]; exact z8⟩, fun fs hl => c16.trans (X15.returnOut hexec hret (hb hbytes d57) hl)⟩
end New4
namespace New1
def yN : MethodName := ⟨"java/lang/String", "<init>", "([C)V"⟩
abbrev yB : ByteArray := jdk_42_method_3_code
theorem d0 : decode yB 0 = .ok (.aload_n 0, 1) := by decide +kernel
theorem d1 : decode yB 1 = .ok (.aload_n 1, 1) := by decide +kernel
theorem d2 : decode yB 2 = .ok (.iconst 0, 1) := by decide +kernel
theorem d3 : decode yB 3 = .ok (.aload_n 1, 1) := by decide +kernel
theorem d4 : decode yB 4 = .ok (.arraylength, 1) := by decide +kernel
theorem d5 : decode yB 5 = .ok (.aconst_null, 1) := by decide +kernel
theorem d6 : decode yB 6 = .ok (.invokespecial 27, 3) := by decide +kernel
theorem d9 : decode yB 9 = .ok (.return_, 1) := by decide +kernel
def site : List Cond := [New4.tab] ++ initW "java/lang/String" 27 New4.yN
def tab : Cond := tabOf yN yB 2 none site
def P (a : Addr) (D : Cell) (fV fC : Field) (b : Addr) (A : Cell) (z : Int32) (args : Array Value) (s : State) : Prop := args = #[.ref a, .ref b] ∧ Blank "java/lang/String" a D s ∧ Found "java/lang/String" "value" "[B" fV s ∧ Found "java/lang/String" "coder" "B" fC s ∧ Ch b A s ∧ StaticIs s "java/lang/String" "COMPACT_STRINGS" "Z" (.int z) ∧ ¬ z = 0 ∧ 0 < A.slots.size ∧ A.slots.size ≤ 536870912 ∧ ∀ i, i < A.slots.size → ¬ 255 < cv A i
def E (a : Addr) (D : Cell) (fV fC : Field) (A : Cell) (r : Option Value) (s u : State) : Prop := Got a D fV fC A 0 A.slots.size r s u
/-- new String(chars), not empty, no char above 255: a Latin-1 String of their low bytes -/
theorem law (l : Launch) (a : Addr) (D : Cell) (fV fC : Field) (b : Addr) (A : Cell) (z : Int32) : Law l yN 2 1 3 52 yB 2 none site (P a D fV fC b A z) (E a D fV fC A) [⟨a, fC.slot⟩, ⟨a, fV.slot⟩] 1 A.slots.size := by
  refine Law.of_walk (plainFor_of_name (by decide +kernel)) (by decide +kernel) (by decide +kernel) (by decide) (fun _ _ h => by rw [h.1]; rfl) (fun _ U U' hal hh h => ⟨h.1, h.2.1.mv hal hh, h.2.2.1.al hal, h.2.2.2.1.al hal, h.2.2.2.2.1.mv hal hh, h.2.2.2.2.2.1.there hal hh, h.2.2.2.2.2.2⟩) (fun r U U' V V' h1 hal h2 h => Got.mv r U U' V V' h1 hal h2 h) ?_
  intro p e s m args below meth c s₁ X0 hexec hbytes hml hret hlk hnm hown hh0 W hP
  obtain ⟨rfl, hB, f1, f2, hA, s1, hz, l0, l2, hp⟩ := hP
  have c1 : Steps p.tables e below (s₁.setTop (entryFrame m #[.ref a, .ref b] 2)) (s₁.setTop (mkF m 0 #[.val (.ref a), .val (.ref b)] [])) := entry rfl
  have c2 : Steps p.tables e below (s₁.setTop (entryFrame m #[.ref a, .ref b] 2)) (s₁.setTop (mkF m 6 #[.val (.ref a), .val (.ref b)] [.null, .int (Int32.ofNat A.slots.size), .int 0, .ref b, .ref a])) := c1.trans (by
    refine XS.aloadN X0.here hexec rfl (hb hbytes d0) rfl rfl ?_
    refine XS.aloadN X0.here hexec rfl (hb hbytes d1) rfl rfl ?_
    refine iconstV X0.here hexec rfl 0 (hb hbytes d2) (by decide) ?_
    refine XS.aloadN X0.here hexec rfl (hb hbytes d3) rfl rfl ?_
    refine X0.alen hexec (hA.1.mv X0.warmed.alike hh0) rfl rfl (hb hbytes d4) ?_
    refine XS.aconstNull X0.here hexec rfl (hb hbytes d5) ?_
    exact Steps.refl _)
  obtain ⟨v3, T3, X3, E3, g3⟩ := X0.callN hexec (New4.law l a D fV fC b A z 0 A.slots.size) rfl hown (wks W (initW "java/lang/String" 27 New4.yN)) (W New4.tab (by simp only [site, List.mem_cons, List.mem_append, true_or, or_true])) (W := 0) (Nat.le_of_ble_eq_true rfl) (Nat.le_of_ble_eq_true rfl) (Nat.le_refl _) (by show 0 + A.slots.size ≤ A.slots.size; omega) (g := (mkF m 6 #[.val (.ref a), .val (.ref b)] [.null, .int (Int32.ofNat A.slots.size), .int (Int32.ofNat 0), .ref b, .ref a])) rfl (by rw [hml]; rfl) c2 (argsL := [.ref b, .int (Int32.ofNat 0), .int (Int32.ofNat A.slots.size), .null]) (rest := []) rfl rfl (by show 2 * 0 + 0 ≤ _; decide) (hb hbytes d6) (⟨rfl, hB.mv X0.warmed.alike hh0, f1.al X0.warmed.alike, f2.al X0.warmed.alike, hA.mv X0.warmed.alike hh0, s1.there X0.warmed.alike hh0, hz, l0, by omega, l2, fun i hi => by rw [Nat.zero_add]; exact hp i hi⟩)
  have e0 := Got.mv _ s₁ s _ _ hh0.symm (Vm.Alike.refl _) rfl E3
  obtain rfl := e0.1
  have c4 : Steps p.tables e below (s₁.setTop (entryFrame m #[.ref a, .ref b] 2)) (T3.setTop (mkF m 9 #[.val (.ref a), .val (.ref b)] [])) := g3
  exact ⟨T3, none, _, _, _, X3, by simp, rfl, by omega, (fun _ => rfl), e0, fun fs hl => c4.trans (X3.returnOut hexec hret (hb hbytes d9) hl)⟩
theorem pays {l : Launch} {R : Room} {p : Program} {e : Env} {below : List Frame} {s : State} {sargs : Array Value} {len W : Nat} (a : Addr) (D : Cell) (fV fC : Field) (b : Addr) (A : Cell) (z : Int32) (htab : tab.before sargs s = true) (hfr : 4 ≤ R.frames) (hlo : W + 65 ≤ R.locals) :
    Back l R p e below s sargs yN len W (fun A₁ a₁ => A₁.cells + 1 ≤ R.cells ∧ A₁.slots + A.slots.size ≤ R.slots ∧ P a D fV fC b A z a₁ A₁.U) (fun A₁ _ v₁ B₁ => E a D fV fC A v₁ A₁.U B₁.U ∧ B₁.locs = A₁.locs ++ [⟨a, fC.slot⟩, ⟨a, fV.slot⟩] ∧ B₁.cells = A₁.cells + 1 ∧ B₁.slots = A₁.slots + A.slots.size) :=
  (law l a D fV fC b A z).pays htab hfr (by omega)
end New1
/-- the byte, read back as charAt reads it, is the char -/
theorem lo8_mask {x : Int32} (h0 : ¬ x < 0) (h1 : ¬ 255 < x) : lo8 x &&& 255 = x := by
  have t : ∀ k : Fin 256, lo8 (Int32.ofNat k.val) &&& 255 = Int32.ofNat k.val := by decide +kernel
  rw [Int32.lt_iff_toInt_lt] at h0 h1
  have e0 : (0 : Int32).toInt = 0 := rfl
  have e1 : (255 : Int32).toInt = 255 := rfl
  obtain ⟨k, hk⟩ : ∃ k : Nat, x.toInt = k := ⟨x.toInt.toNat, by omega⟩
  have hx : x = Int32.ofNat k := Int32.toInt_inj.mp (by rw [hk, Int32.toInt_ofNat_small (by omega)])
  rw [hx]
  exact t ⟨k, by omega⟩
end StrChars
namespace StrChars.Road
open Jvm Sem ClassFile Op Lib Jvm.Stand Jvm.Free Jvm.Free.XT
open Jvm.Lib.Cold (StaticIs)
abbrev ST : String := "java/lang/String"
/-- every table word that New1's law asks, flat -/
abbrev words : List Jvm.Cond := [.code New1.yN New1.yB 2 none, .initialized ST, .methodLink ST 27 New4.yN, .instanceMethod New4.yN,
  .code New4.yN New4.yB 6 none, .fieldLink ST 38 ST "COMPACT_STRINGS" "Z", .laysFinal ST ST "value" "[B", .fieldLink ST 9 ST "value" "[B", .laysFinal ST ST "coder" "B", .fieldLink ST 15 ST "coder" "B",
  .methodLink ST 1 Lib.objectInit, .instanceMethod Lib.objectInit, .code Lib.objectInit ⟨#[0xb1]⟩ 1 none, .methodLink ST 177 Cmp3.yN, .static Cmp3.yN, .methodLink ST 47 CodL.yN, .static CodL.yN,
  .code Cmp3.yN Cmp3.yB 6 (some (.array .byte)), .initialized U16, .arrayClass .byte, .methodLink U16 115 Cmp5.yN, .static Cmp5.yN, .code Cmp5.yN Cmp5.yB 7 (some .int), .code CodL.yN CodL.yB 2 (some .byte)]
theorem tab_of {a : Array Value} {s : State} (h : ∀ w ∈ words, w.before a s = true) : New1.tab.before a s = true := by
  have h5 : Cmp5.tab.before a s = true := unparts (wk h (.code Cmp5.yN Cmp5.yB 7 (some .int))) (wks h (.initialized Cmp5.yN.cls :: Cmp5.site))
  have hc : CodL.tab.before a s = true := unparts (wk h (.code CodL.yN CodL.yB 2 (some .byte))) (wks h (.initialized CodL.yN.cls :: CodL.site))
  have q5 : ∀ w ∈ Cmp5.tab :: words, w.before a s = true := fun w hw => (List.mem_cons.mp hw).elim (fun e => e ▸ h5) (h w)
  have h3 : Cmp3.tab.before a s = true := unparts (wk q5 (.code Cmp3.yN Cmp3.yB 6 (some (.array .byte)))) (wks q5 (.initialized Cmp3.yN.cls :: Cmp3.site))
  have q3 : ∀ w ∈ Cmp3.tab :: CodL.tab :: words, w.before a s = true := fun w hw => (List.mem_cons.mp hw).elim (fun e => e ▸ h3) fun hw => (List.mem_cons.mp hw).elim (fun e => e ▸ hc) (h w)
  have h4 : New4.tab.before a s = true := unparts (wk q3 (.code New4.yN New4.yB 6 none)) (wks q3 (.initialized New4.yN.cls :: New4.site))
  have q4 : ∀ w ∈ New4.tab :: words, w.before a s = true := fun w hw => (List.mem_cons.mp hw).elim (fun e => e ▸ h4) (h w)
  exact unparts (wk q4 (.code New1.yN New1.yB 2 none)) (wks q4 (.initialized New1.yN.cls :: New1.site))
/-- the words ride from the start Z to the walk's own state -/
theorem moved {Z s : State} {a0 args : Array Value} (hZ : Z.Warmed39 s.vm) (hw : ∀ d ∈ words, d.before a0 Z = true) : ∀ d ∈ words, d.before args s = true := fun d hd => by
  have q := hw d hd
  have t : ∀ d ∈ words, d = .arrayClass .byte ∨ (d.onTables && d.keepsFace) = true := by decide +kernel
  rcases t d hd with rfl | t
  · exact RoadKit.mvA hZ q
  · exact RoadKit.mv hZ q t
/-- WHAT COMES BACK, over the tables of the start Z: h the heap at the call, h' behind it -/
def Q (Z : State) (x : Addr) (A : Cell) (h : Heap) (v : Option Value) (h' : Heap) (L : List Loc) : Prop := v = none ∧ (∀ y ∈ L, y.base = x) ∧ RoadKit.Keep h h' [x] ∧ h'.size = h.size + 1 ∧ RoadKit.Exa Z h' x ST ∧ RoadKit.Fld Z h' x ST "value" "[B" (.ref h.size) ∧ RoadKit.Fld Z h' x ST "coder" "B" (.int 0) ∧
  (∃ V : Cell, RoadKit.Arr Z h' h.size V .byte ∧ V.vm = .none ∧ Z.vm.findClass "[B" = some V.cls ∧ V.slots.size = A.slots.size ∧ ∀ j, j < A.slots.size → V.slots[j]? = some (.int (lo8 (cv A j)))) ∧
  ∀ (O n d : String) (w : Value), RoadKit.Fld Z h x O n d w → RoadKit.slotOf Z O n d ≠ RoadKit.slotOf Z ST "value" "[B" → RoadKit.slotOf Z O n d ≠ RoadKit.slotOf Z ST "coder" "B" → RoadKit.Fld Z h' x O n d w
/-- **new String(chars) AT A CALL, IN THE ROAD'S FORM**: for specialBack behind newO: x the fresh String, b the char[] with the cell A -/
theorem back {p : Program} {l : Launch} {e : Env} {R : Room} {s : State} {args : Array Value} {below : List Frame} {len W : Nat} {Z : State} {a0 : Array Value} {h : Heap} (hZ : Z.Warmed39 s.vm) (hw : ∀ d ∈ words, d.before a0 Z = true) {kI : Nat} (wi : (Jvm.Cond.instantiable ST kI).before a0 Z = true)
    {x b : Addr} {A : Cell} {z : Int32} {v0 c0 : Value} (E : RoadKit.Exa Z h x ST) (V : RoadKit.Fld Z h x ST "value" "[B" v0) (C : RoadKit.Fld Z h x ST "coder" "B" c0) (K : RoadKit.Arr Z h b A .char) (hty : Typed .char A) (S : RoadKit.Sta Z h ST "COMPACT_STRINGS" "Z" (.int z)) (hz : ¬ z = 0)
    (l0 : 0 < A.slots.size) (l2 : A.slots.size ≤ 536870912) (hp : ∀ i, i < A.slots.size → ¬ 255 < cv A i) (hfr : 4 ≤ R.frames) (hlo : W + 65 ≤ R.locals) :
    Back l R p e below s args New1.yN len W (fun P a => a = #[.ref x, .ref b] ∧ P.U.heap = h ∧ P.cells + 1 ≤ R.cells ∧ P.slots + A.slots.size ≤ R.slots)
      (fun P _ v B => ∃ L, Q Z x A h v B.U.heap L ∧ B.locs = P.locs ++ L ∧ B.cells = P.cells + 1 ∧ B.slots = P.slots + A.slots.size) := by
  intro m meth c P g ig mk a X hg hsize hdg hW hn hp'
  obtain ⟨rfl, rfl, r1, r2⟩ := hp'
  have al : Z.vm.Alike P.U.vm := hZ.alike.trans X.warmed.alike
  obtain ⟨D, cfV, kV, iV, fV, hD, gV, stV, knV, obV, asV, slV⟩ := id V
  obtain ⟨D', cfC, kC, iC, fC, hD', gC, stC, -, -, asC, slC⟩ := id C
  cases hD.symm.trans hD'
  obtain ⟨D2, kD, e1, e2, e3, e4, e5⟩ := id E
  cases hD.symm.trans e1
  obtain ⟨c2, k2, i1, i2, i3, -⟩ := Cond.instantiable_spec wi
  cases e2.symm.trans i1
  cases e3.symm.trans i2
  obtain ⟨kU, u1, u2⟩ := al.2.2 _ _ e3
  have hB : Blank ST x D P.U := ⟨hD, ⟨knV, fun q hq => by rw [hq] at obV; cases obV⟩, by rw [al.findClass]; exact e2, kU, u1, by rw [u2]; exact i3, by rw [u2]; exact e5 i3⟩
  have F1 : Found ST "value" "[B" fV P.U := ⟨SBG.found_only al ⟨cfV, kV, iV, gV⟩, stV⟩
  have F2 : Found ST "coder" "B" fC P.U := ⟨SBG.found_only al ⟨cfC, kC, iC, gC⟩, stC⟩
  have hA : Ch b A P.U := ⟨⟨K.1, State.isArrayOf_alike al K.2.1, K.2.2, by omega⟩, hty⟩
  have hS : StaticIs P.U ST "COMPACT_STRINGS" "Z" (.int z) := by
    obtain ⟨cfS, iS, kS, fS, st, cS, t1, t2, t3, t4, t5, t6, t7⟩ := S
    exact StaticIs.there (s := { Z with heap := P.U.heap }) ⟨cfS, iS, kS, fS, st, cS, t1, t2, t3, t4, t5, (fun q => by rw [q] at t6; cases t6), t7⟩ al rfl
  obtain ⟨v, B, X', ⟨⟨hv, E', V', q1, q2, q3, q4, q5, q6, q7, q8, q9, q10, q11⟩, hl, hc, hs⟩, st⟩ := New1.pays x D fV fC b A z (tab_of (moved hZ hw)) hfr hlo m meth c P g ig mk _ X hg hsize hdg hW hn ⟨r1, r2, rfl, hB, F1, F2, hA, hS, hz, l0, l2, hp⟩
  have al' : Z.vm.Alike B.U.vm := hZ.alike.trans X'.warmed.alike
  have hsz : E'.slots.size = D.slots.size := by
    obtain ⟨-, -, -, kB, w1, w2, w3⟩ := q1
    obtain ⟨kB', y1, y2⟩ := al'.2.2 _ _ e3
    rw [q2.2.1] at w1
    cases w1.symm.trans y1
    rw [w3, e5 i3, y2]
  refine ⟨v, B, X', ⟨_, ⟨hv, ?_, ⟨by omega, fun y cy hy hn' => q10 y cy (by simpa using hn') hy, fun y cy hy => ?_⟩, q11, ⟨E', _, q1.1, by rw [q2.2.1]; exact e2, by rw [q2.2.1]; exact e3, by rw [q2.1]; exact obV, fun _ => by rw [hsz]; exact e5 i3⟩,
    ⟨E', cfV, kV, iV, fV, q1.1, gV, stV, by rw [q2.1]; exact knV, by rw [q2.1]; exact obV, by rw [q2.2.1]; exact asV, q3⟩, ⟨E', cfC, kC, iC, fC, q1.1, gC, stC, by rw [q2.1]; exact knV, by rw [q2.1]; exact obV, by rw [q2.2.1]; exact asC, q4⟩,
    ⟨V', ⟨q5.1, State.isArrayOf_alike al'.symm q5.2.1, q5.2.2.1⟩, q6, by rw [← al'.findClass]; exact q7, q8, fun j hj => by have := q9 j hj; rwa [Nat.zero_add] at this⟩, fun O n d w F n1 n2 => ?_⟩, hl, hc, hs⟩, st⟩
  · intro y hy
    simp only [List.mem_cons, List.not_mem_nil, or_false] at hy
    rcases hy with rfl | rfl <;> rfl
  · by_cases q : y = x
    · subst q
      cases hD.symm.trans hy
      exact ⟨E', q1.1, q2.2.1, q2.1, hsz⟩
    · exact ⟨cy, q10 y cy q hy, rfl, rfl, rfl⟩
  · obtain ⟨D3, cf, k, i, f, g1, g2, g3, g4, g5, g6, g7⟩ := F
    cases hD.symm.trans g1
    simp only [RoadKit.slotOf, g2, gV, gC, Option.map_some, Option.getD_some] at n1 n2
    exact ⟨E', cf, k, i, f, q1.1, g2, g3, by rw [q2.1]; exact g4, by rw [q2.1]; exact g5, by rw [q2.2.1]; exact g6, by rw [q2.2.2 f.slot (by simp [n1, n2])]; exact g7⟩
end StrChars.Road
namespace StrChars.Road
open Jvm Sem ClassFile Op Lib Jvm.Stand Jvm.Free Jvm.Free.XT
/-- WHAT COMES BACK, the byte[] as a list of values -/
def QA (Z : State) (x : Addr) (zn : Int32) (cs : List Int32) (h : Heap) (v : Option Value) (h' : Heap) (L : List Loc) : Prop := v = none ∧ (∀ y ∈ L, y.base = x) ∧ RoadKit.Keep h h' [x] ∧ h'.size = h.size + 1 ∧ RoadKit.Exa Z h' x ST ∧ RoadKit.Fld Z h' x ST "value" "[B" (.ref h.size) ∧ RoadKit.Fld Z h' x ST "coder" "B" (.int 0) ∧
  (∃ kb, Z.vm.findClass "[B" = some kb ∧ RoadKit.Arv Z h' h.size kb .byte zn (cs.map fun c => .int (lo8 c)) (.int 0)) ∧
  ∀ (O n d : String) (w : Value), RoadKit.Fld Z h x O n d w → RoadKit.slotOf Z O n d ≠ RoadKit.slotOf Z ST "value" "[B" → RoadKit.slotOf Z O n d ≠ RoadKit.slotOf Z ST "coder" "B" → RoadKit.Fld Z h' x O n d w
/-- **new String(chars) AT A CALL, THE ARRAYS AS LISTS**: the char[] at b holds cs, not empty, no char above 255 -/
theorem backArv {p : Program} {l : Launch} {e : Env} {R : Room} {s : State} {args : Array Value} {below : List Frame} {len W : Nat} {Z : State} {a0 : Array Value} {h : Heap} (hZ : Z.Warmed39 s.vm) (hw : ∀ d ∈ words, d.before a0 Z = true) {kI : Nat} (wi : (Jvm.Cond.instantiable ST kI).before a0 Z = true)
    {x b : Addr} {k : ClassId} {zn z : Int32} {cs : List Int32} {dv v0 c0 : Value} (E : RoadKit.Exa Z h x ST) (V : RoadKit.Fld Z h x ST "value" "[B" v0) (C : RoadKit.Fld Z h x ST "coder" "B" c0) (K : RoadKit.Arv Z h b k .char zn (cs.map Value.int) dv) (S : RoadKit.Sta Z h ST "COMPACT_STRINGS" "Z" (.int z)) (hz : ¬ z = 0)
    (hlen : zn.toNatClampNeg = cs.length) (h0 : 0 < cs.length) (hbig : cs.length ≤ 536870912) (hall : ∀ c ∈ cs, ¬ 255 < c) (hfr : 4 ≤ R.frames) (hlo : W + 65 ≤ R.locals) :
    Back l R p e below s args New1.yN len W (fun P a => a = #[.ref x, .ref b] ∧ P.U.heap = h ∧ P.cells + 1 ≤ R.cells ∧ P.slots + cs.length ≤ R.slots)
      (fun P _ v B => ∃ L, QA Z x zn cs h v B.U.heap L ∧ B.locs = P.locs ++ L ∧ B.cells = P.cells + 1 ∧ B.slots = P.slots + cs.length) := by
  obtain ⟨A, K1, K2, K3, K4, K5, K6⟩ := K
  have e : A.slots.size = cs.length := K3.trans hlen
  have hat : ∀ (i : Nat) (hi : i < cs.length), A.slots[i]? = some (.int cs[i]) := fun i hi => by rw [K5 i (by omega)]; simp [List.getD_eq_getElem?_getD, hi]
  have hcv : ∀ (i : Nat) (hi : i < cs.length), cv A i = cs[i] := fun i hi => by unfold cv; rw [hat i hi]
  have hty : Typed .char A := fun i v hv => by
    have hi : i < A.slots.size := (Array.getElem?_eq_some_iff.mp hv).1
    have q := K5 i hi
    rw [hv] at q
    rw [Option.some.inj q]
    exact K6 i hi
  refine Back.mono (back hZ hw wi E V C K1 hty S hz (by omega) (by omega) (fun i hi => by rw [hcv i (by omega)]; exact hall _ (List.getElem_mem _)) hfr hlo) (fun P a hp => ⟨hp.1, hp.2.1, hp.2.2.1, by rw [e]; exact hp.2.2.2⟩) (fun P a v B hp hq => ?_)
  obtain ⟨L, ⟨q1, q2, q3, q4, q5, q6, q7, ⟨V', v1, v2, v3, v4, v5⟩, q9⟩, hl, hc, hs⟩ := hq
  refine ⟨L, ⟨q1, q2, q3, q4, q5, q6, q7, ⟨V'.cls, v3, V', v1, rfl, by rw [v4, e, hlen], K4, fun i hi => ?_, fun i hi => ?_⟩, q9⟩, hl, hc, by rw [hs, e]⟩
  · have hi' : i < cs.length := by omega
    rw [v5 i (by omega), hcv i hi']; simp [List.getD_eq_getElem?_getD, hi']
  · have hi' : i < cs.length := by omega
    simp only [List.getD_eq_getElem?_getD, List.getElem?_map, List.getElem?_eq_getElem hi', Option.map_some, Option.getD_some]
    exact fits_lo8 _
end StrChars.Road
namespace StrChars.Road
open Jvm Sem ClassFile Op Lib Jvm.Stand Jvm.Free Jvm.Free.XT
/-- WHAT COMES BACK, in the writer's own shape -/
def QV (Z : State) (x : Addr) (N : Int32) (bs : List Int32) (h : Heap) (n0 : Nat) (v : Option Value) (h' : Heap) (L : List Loc) : Prop := v = none ∧ RoadKit.Fr n0 L ∧ RoadKit.Keep h h' [x] ∧ RoadKit.Exa Z h' x ST ∧ RoadKit.Fld Z h' x ST "coder" "B" (.int 0) ∧
  ∃ (t : Addr) (kb : ClassId), n0 ≤ t ∧ h.size ≤ t ∧ ¬ t = x ∧ RoadKit.Fld Z h' x ST "value" "[B" (.ref t) ∧ RoadKit.Arv Z h' t kb .byte N (bs.map Value.int) (.int 0)
/-- **new String(chars) AT A CALL, FOR THE WRITER**: a char[] of n known ints, each 0 to 255 -/
theorem backV {p : Program} {l : Launch} {e : Env} {R : Room} {s : State} {args : Array Value} {below : List Frame} {len W : Nat} {Z : State} {a0 : Array Value} {h : Heap} (hZ : Z.Warmed39 s.vm) (hw : ∀ d ∈ words, d.before a0 Z = true) {kI : Nat} (wi : (Jvm.Cond.instantiable ST kI).before a0 Z = true)
    {x b : Addr} {kC : ClassId} {cs bs : List Int32} {d v0 c0 : Value} {z N : Int32} {n n0 : Nat} (hx0 : n0 ≤ x) (hh0 : n0 ≤ h.size) (E : RoadKit.Exa Z h x ST) (V : RoadKit.Fld Z h x ST "value" "[B" v0) (C : RoadKit.Fld Z h x ST "coder" "B" c0) (K : RoadKit.Arv Z h b kC .char N (cs.map Value.int) d) (S : RoadKit.Sta Z h ST "COMPACT_STRINGS" "Z" (.int z)) (hz : ¬ z = 0)
    (hn : cs.length = n) (hN : N = Int32.ofNat n) (l0 : 0 < n) (l2 : n ≤ 4000) (hp : ∀ c ∈ cs, ¬ c < 0 ∧ ¬ (255 : Int32) < c) (hb : bs = cs.map (fun c => c.toInt8.toInt32)) (hfr : 4 ≤ R.frames) (hlo : W + 65 ≤ R.locals) :
    Back l R p e below s args (⟨"java/lang/String", "<init>", "([C)V"⟩ : MethodName) len W (fun P a => a = #[.ref x, .ref b] ∧ P.U.heap = h ∧ P.cells + 1 ≤ R.cells ∧ P.slots + n ≤ R.slots)
      (fun P _ v B => ∃ L, QV Z x N bs h n0 v B.U.heap L ∧ B.locs = P.locs ++ L ∧ B.cells = P.cells + 1 ∧ B.slots = P.slots + n) := by
  subst hn hN hb
  refine Back.mono (backArv hZ hw wi E V C K S hz (n32 (by omega)) l0 (by omega) (fun c hc => (hp c hc).2) hfr hlo) (fun P a hp => hp) (fun P a v B hp hq => ?_)
  obtain ⟨L, ⟨q1, q2, q3, q4, q5, q6, q7, ⟨kb, v1, v2⟩, q9⟩, hl, hc, hs⟩ := hq
  exact ⟨L, ⟨q1, fun y hy => by rw [q2 y hy]; exact hx0, q3, q5, q7, h.size, kb, hh0, Nat.le_refl _, Nat.ne_of_gt E.lt, q6, by rw [List.map_map]; exact v2⟩, hl, hc, hs⟩
end StrChars.Road
namespace StrChars
open Jvm Sem ClassFile Op Lib Jvm.Stand Jvm.Free.XT Jvm.Free.ALB Jvm.Free.JM Jvm.Free
open Jvm.Lib.Cold (StaticIs)
def hi8 (x : Int32) : Int32 := lo8 (x >>> ((8 : Int32) &&& 31))
/-- what StringUTF16.getChar makes of two bytes -/
def pairCh (u v : Int32) : Int32 := (((u &&& 255) <<< ((0 : Int32) &&& 31)) ||| ((v &&& 255) <<< ((8 : Int32) &&& 31))).toUInt32.toUInt16.toUInt32.toInt32
theorem shr0 (c : Int32) : c >>> ((0 : Int32) &&& 31) = c := by
  have e : ((0 : Int32) &&& 31) = 0 := by decide
  rw [e]
  apply Int32.toBitVec_inj.mp
  rw [Int32.toBitVec_shiftRight]
  have e1 : ((0 : Int32).toBitVec.smod 32) = 0#32 := by decide
  rw [e1, BitVec.sshiftRight_eq']
  exact BitVec.sshiftRight_zero
theorem lo8_and (x : Int32) : (lo8 x &&& 255).toBitVec.toNat = x.toBitVec.toNat % 256 := by
  have h : (lo8 x).toBitVec = (x.toBitVec.signExtend 8).signExtend 32 := by rw [lo8, Int8.toBitVec_toInt32, Int32.toBitVec_toInt8]
  rw [Int32.toBitVec_and, BitVec.toNat_and, h]
  have e : ((x.toBitVec.signExtend 8).signExtend 32).toNat % 256 = x.toBitVec.toNat % 256 := by
    rw [BitVec.toNat_signExtend]
    have hlt := x.toBitVec.isLt
    simp only [BitVec.toNat_setWidth, BitVec.toNat_signExtend]
    split <;> split <;> omega
  rw [← e]
  exact Nat.and_two_pow_sub_one_eq_mod _ 8
theorem pair_says {c : Int32} (h0 : ¬ c < 0) (h1 : ¬ 65535 < c) : pairCh (lo8 c) (hi8 c) = c := by
  rw [Int32.lt_iff_toInt_lt] at h0 h1
  have e0 : (0 : Int32).toInt = 0 := rfl
  have e1 : (65535 : Int32).toInt = 65535 := rfl
  have hc : c.toInt = c.toBitVec.toNat := by
    have := c.toBitVec.isLt
    have e : c.toInt = c.toBitVec.toInt := rfl
    rw [e] at h0 h1
    rw [e]
    rw [BitVec.toInt_eq_toNat_cond] at h0 h1 ⊢
    split at h0 <;> split <;> omega
  have hn : c.toBitVec.toNat < 65536 := by omega
  have a1 := lo8_and c
  have a2 : (hi8 c &&& 255).toBitVec.toNat = c.toBitVec.toNat / 256 := by
    rw [hi8, lo8_and]
    have e : ((8 : Int32) &&& 31) = 8 := by decide
    rw [e, Int32.toBitVec_shiftRight]
    have e2 : ((8 : Int32).toBitVec.smod 32) = 8#32 := by decide
    rw [e2, BitVec.sshiftRight_eq', BitVec.toNat_sshiftRight_of_msb_false (by rw [BitVec.msb_eq_false_iff_two_mul_lt]; omega)]
    show c.toBitVec.toNat >>> 8 % 256 = _
    rw [Nat.shiftRight_eq_div_pow]
    omega
  unfold pairCh
  apply Int32.toBitVec_inj.mp
  apply BitVec.eq_of_toNat_eq
  have f0 : ((0 : Int32) &&& 31) = 0 := by decide
  have f8 : ((8 : Int32) &&& 31) = 8 := by decide
  rw [f0, f8]
  have g : (((lo8 c &&& 255) <<< (0 : Int32)) ||| ((hi8 c &&& 255) <<< (8 : Int32))).toBitVec.toNat = c.toBitVec.toNat := by
    rw [Int32.toBitVec_or, Int32.toBitVec_shiftLeft, Int32.toBitVec_shiftLeft]
    have s0 : ((0 : Int32).toBitVec.smod 32) = 0#32 := by decide
    have s8 : ((8 : Int32).toBitVec.smod 32) = 8#32 := by decide
    rw [s0, s8, BitVec.toNat_or]
    simp only [BitVec.shiftLeft_eq', BitVec.toNat_shiftLeft, a1, a2]
    show (c.toBitVec.toNat % 256) <<< 0 % 2 ^ 32 ||| (c.toBitVec.toNat / 256) <<< 8 % 2 ^ 32 = _
    rw [Nat.shiftLeft_zero, Nat.mod_eq_of_lt (show c.toBitVec.toNat % 256 < 2 ^ 32 by omega), Nat.mod_eq_of_lt (show (c.toBitVec.toNat / 256) <<< 8 < 2 ^ 32 by rw [Nat.shiftLeft_eq]; omega), Nat.or_comm, ← Nat.shiftLeft_add_eq_or_of_lt (by omega), Nat.shiftLeft_eq]
    omega
  show BitVec.toNat (((((lo8 c &&& 255) <<< (0 : Int32)) ||| ((hi8 c &&& 255) <<< (8 : Int32))).toBitVec.setWidth 16).setWidth 32) = _
  rw [BitVec.toNat_setWidth, BitVec.toNat_setWidth, g]
  omega
end StrChars
namespace StrChars
open Jvm Sem ClassFile Op Lib Jvm.Stand Jvm.Free.XT Jvm.Free.ALB Jvm.Free.JM Jvm.Free
open Jvm.Lib.Cold (StaticIs)
theorem shr1 {n : Nat} (h : 2 * n < 2 ^ 31) : Int32.ofNat (2 * n) >>> ((1 : Int32) &&& 31) = Int32.ofNat n := by
  have e : ((1 : Int32) &&& 31) = 1 := by decide
  rw [e]
  apply Int32.toBitVec_inj.mp
  rw [Int32.toBitVec_shiftRight]
  have e1 : ((1 : Int32).toBitVec.smod 32) = 1#32 := by decide
  have hm : (BitVec.ofNat 32 (2 * n)).toNat = 2 * n := by rw [BitVec.toNat_ofNat, Nat.mod_eq_of_lt (by omega)]
  rw [e1, BitVec.sshiftRight_eq']
  apply BitVec.eq_of_toNat_eq
  show ((BitVec.ofNat 32 (2 * n)).sshiftRight 1).toNat = (BitVec.ofNat 32 n).toNat
  rw [BitVec.toNat_sshiftRight_of_msb_false (by rw [BitVec.msb_eq_false_iff_two_mul_lt, hm]; omega), hm, BitVec.toNat_ofNat, Nat.shiftRight_eq_div_pow]
  omega
/-- charAt's cast of a byte read back -/
def chr8 (u : Int32) : Int32 := (u &&& 255).toUInt32.toUInt16.toUInt32.toInt32
theorem chr8_lo8 {c : Int32} (h0 : ¬ c < 0) (h1 : ¬ 255 < c) : chr8 (lo8 c) = c := by
  have t : ∀ k : Fin 256, (Int32.ofNat k.val).toUInt32.toUInt16.toUInt32.toInt32 = Int32.ofNat k.val := by decide +kernel
  unfold chr8
  rw [lo8_mask h0 h1]
  rw [Int32.lt_iff_toInt_lt] at h0 h1
  have e0 : (0 : Int32).toInt = 0 := rfl
  have e1 : (255 : Int32).toInt = 255 := rfl
  obtain ⟨k, hk⟩ : ∃ k : Nat, c.toInt = k := ⟨c.toInt.toNat, by omega⟩
  have hx : c = Int32.ofNat k := Int32.toInt_inj.mp (by rw [hk, Int32.toInt_ofNat_small (by omega)])
  rw [hx]
  exact t ⟨k, by omega⟩
theorem narrow_ch {c : Int32} (h0 : ¬ c < 0) (h1 : ¬ 65535 < c) : narrow .char (.int c) = .int c := by
  have q : narrow .char (.int (pairCh (lo8 c) (hi8 c))) = .int (pairCh (lo8 c) (hi8 c)) := narrow_c _
  rwa [pair_says h0 h1] at q
/-- the array's cell V codes the n chars f 0 .. f (n - 1) by the coder cd, as the JDK does: coder 1 just where some char is above 255 -/
def Cod (cd : Int32) (n : Nat) (f : Nat → Int32) (V : Cell) : Prop := (cd = 0 ∧ V.slots.size = n ∧ ∀ j, j < n → V.slots[j]? = some (.int (lo8 (f j))) ∧ ¬ 255 < f j) ∨ (cd = 1 ∧ V.slots.size = 2 * n ∧ (∀ j, j < n → V.slots[2 * j]? = some (.int (lo8 (f j))) ∧ V.slots[2 * j + 1]? = some (.int (hi8 (f j)))) ∧ ∃ j, j < n ∧ 255 < f j)
theorem Cod.cd {cd : Int32} {n : Nat} {f : Nat → Int32} {V : Cell} (h : Cod cd n f V) : cd = 0 ∨ cd = 1 := h.imp (fun q => q.1) fun q => q.1
theorem Cod.len {cd : Int32} {n : Nat} {f : Nat → Int32} {V : Cell} (h : Cod cd n f V) (hs : V.slots.size < 2 ^ 31) : Int32.ofNat V.slots.size >>> (cd &&& 31) = Int32.ofNat n := by
  rcases h with ⟨rfl, h, -⟩ | ⟨rfl, h, -⟩
  · rw [shr0, h]
  · rw [h, shr1 (by omega)]
/-- **x is a String of the n chars f 0 .. f (n - 1)**, Latin-1 or UTF-16; its array at t has the cell V -/
def Txt (x t : Addr) (V : Cell) (cd : Int32) (n : Nat) (f : Nat → Int32) (U : State) : Prop := Exact "java/lang/String" x U ∧ Has x "java/lang/String" "value" "[B" (.ref t) U ∧ Has x "java/lang/String" "coder" "B" (.int cd) U ∧ XT.Arr .byte t V U ∧ Cod cd n f V ∧ ∀ j, j < n → ¬ f j < 0 ∧ ¬ 65535 < f j
theorem Txt.mv {x t : Addr} {V : Cell} {cd : Int32} {n : Nat} {f : Nat → Int32} {U U' : State} (h : Txt x t V cd n f U) (hal : U.vm.Alike U'.vm) (hh : U'.heap = U.heap) : Txt x t V cd n f U' := ⟨h.1.mv hal hh, h.2.1.mv hal hh, h.2.2.1.mv hal hh, h.2.2.2.1.mv hal hh, h.2.2.2.2⟩
namespace Cdr
def yN : MethodName := ⟨"java/lang/String", "coder", "()B"⟩
abbrev yB : ByteArray := jdk_42_method_152_code
theorem d0 : decode yB 0 = .ok (.getstatic 38, 3) := by decide +kernel
theorem d3 : decode yB 3 = .ok (.ifCond (.eq) 10, 3) := by decide +kernel
theorem d6 : decode yB 6 = .ok (.aload_n 0, 1) := by decide +kernel
theorem d7 : decode yB 7 = .ok (.getfield 15, 3) := by decide +kernel
theorem d10 : decode yB 10 = .ok (.goto 4, 3) := by decide +kernel
theorem d14 : decode yB 14 = .ok (.ireturn, 1) := by decide +kernel
def site : List Cond := [.fieldLink "java/lang/String" 38 "java/lang/String" "COMPACT_STRINGS" "Z", .fieldLink "java/lang/String" 15 "java/lang/String" "coder" "B"]
def tab : Cond := tabOf yN yB 1 (some .byte) site
def P (x : Addr) (cd z : Int32) (args : Array Value) (s : State) : Prop := args = #[.ref x] ∧ Has x "java/lang/String" "coder" "B" (.int cd) s ∧ (cd = 0 ∨ cd = 1) ∧ StaticIs s "java/lang/String" "COMPACT_STRINGS" "Z" (.int z) ∧ ¬ z = 0
def E (cd : Int32) (r : Option Value) (s u : State) : Prop := XT.PureE (some (.int cd)) r s u
theorem law (l : Launch) (x : Addr) (cd z : Int32) : Law l yN 1 0 0 0 yB 1 (some .byte) site (P x cd z) (E cd) [] 0 0 := by
  refine Law.of_walk (plainFor_of_name (by decide +kernel)) (by decide +kernel) (by decide +kernel) (by decide) (fun _ _ h => by rw [h.1]; rfl) (fun _ U U' hal hh h => ⟨h.1, h.2.1.mv hal hh, h.2.2.1, h.2.2.2.1.there hal hh, h.2.2.2.2⟩) (fun r U U' V V' h1 hal h2 h => XT.PureE.mv r U U' V V' h1 hal h2 h) ?_
  intro p e s m args below meth c s₁ X0 hexec hbytes hml hret hlk hnm hown hh0 W hP
  obtain ⟨rfl, hx, hc, s1, hz⟩ := hP
  have c1 : Steps p.tables e below (s₁.setTop (entryFrame m #[.ref x] 1)) (s₁.setTop (mkF m 0 #[.val (.ref x)] [])) := entry rfl
  obtain ⟨T2, X2, q2, st2⟩ := X0.sget hexec hown (wk W (.fieldLink "java/lang/String" 38 "java/lang/String" "COMPACT_STRINGS" "Z")) s1 (fun _ _ h => by rw [hh0]; exact h) (g := (mkF m 0 #[.val (.ref x)] [])) rfl (hb hbytes d0)
  have hh2 := q2.trans hh0
  have c3 : Steps p.tables e below (s₁.setTop (entryFrame m #[.ref x] 1)) (T2.setTop (mkF m 7 #[.val (.ref x)] [.ref x])) := (c1.trans (st2 _ (Steps.refl _))).trans (by
    refine XS.ifNo X2.here hexec rfl (hb hbytes d3) rfl (i0_eq_f hz) ?_
    refine XS.aloadN X2.here hexec rfl (hb hbytes d6) rfl rfl ?_
    exact Steps.refl _)
  obtain ⟨T4, X4, q4, st4⟩ := X2.hget hexec hown (wk W (.fieldLink "java/lang/String" 15 "java/lang/String" "coder" "B")) (hx.mv X2.warmed.alike hh2) (g := (mkF m 7 #[.val (.ref x)] [.ref x])) rfl (rest := []) rfl (hb hbytes d7)
  have c5 : Steps p.tables e below (s₁.setTop (entryFrame m #[.ref x] 1)) (T4.setTop (mkF m 14 #[.val (.ref x)] [.int cd])) := (c3.trans (st4 _ (Steps.refl _))).trans (by
    refine XS.goto X4.here hexec rfl (pc0 := 10) rfl (hb hbytes d10) (by decide) rfl ?_
    exact Steps.refl _)
  exact ⟨T4, some (.int cd), _, _, _, X4, rfl, rfl, rfl, (fun h => by cases h), ⟨rfl, q4.trans hh2⟩, fun fs hl => c5.trans (X4.ireturnOut hexec hret (by rcases hc with rfl | rfl <;> rfl) (Or.inr (Or.inr (Or.inl rfl))) (hb hbytes d14) hl)⟩
end Cdr
namespace Len
def yN : MethodName := ⟨"java/lang/String", "length", "()I"⟩
abbrev yB : ByteArray := jdk_42_method_54_code
theorem d0 : decode yB 0 = .ok (.aload_n 0, 1) := by decide +kernel
theorem d1 : decode yB 1 = .ok (.getfield 9, 3) := by decide +kernel
theorem d4 : decode yB 4 = .ok (.arraylength, 1) := by decide +kernel
theorem d5 : decode yB 5 = .ok (.aload_n 0, 1) := by decide +kernel
theorem d6 : decode yB 6 = .ok (.invokevirtual 335, 3) := by decide +kernel
theorem d9 : decode yB 9 = .ok (.ishr, 1) := by decide +kernel
theorem d10 : decode yB 10 = .ok (.ireturn, 1) := by decide +kernel
def site : List Cond := [.fieldLink "java/lang/String" 9 "java/lang/String" "value" "[B", Cdr.tab] ++ virtW "java/lang/String" 335 "java/lang/String" Cdr.yN Cdr.yN
def tab : Cond := tabOf yN yB 1 (some .int) site
def P (x t : Addr) (V : Cell) (cd : Int32) (n : Nat) (f : Nat → Int32) (z : Int32) (args : Array Value) (s : State) : Prop := args = #[.ref x] ∧ Txt x t V cd n f s ∧ StaticIs s "java/lang/String" "COMPACT_STRINGS" "Z" (.int z) ∧ ¬ z = 0
def E (n : Nat) (r : Option Value) (s u : State) : Prop := XT.PureE (some (.int (Int32.ofNat n))) r s u
/-- length() of a String of n chars, in either coding -/
theorem law (l : Launch) (x t : Addr) (V : Cell) (cd : Int32) (n : Nat) (f : Nat → Int32) (z : Int32) : Law l yN 1 0 1 13 yB 1 (some .int) site (P x t V cd n f z) (E n) [] 0 0 := by
  refine Law.of_walk (plainFor_of_name (by decide +kernel)) (by decide +kernel) (by decide +kernel) (by decide) (fun _ _ h => by rw [h.1]; rfl) (fun _ U U' hal hh h => ⟨h.1, h.2.1.mv hal hh, h.2.2.1.there hal hh, h.2.2.2⟩) (fun r U U' V V' h1 hal h2 h => XT.PureE.mv r U U' V V' h1 hal h2 h) ?_
  intro p e s m args below meth c s₁ X0 hexec hbytes hml hret hlk hnm hown hh0 W hP
  obtain ⟨rfl, hx, s1, hz⟩ := hP
  have v31 := hx.2.2.2.1.2.2.2
  have c1 : Steps p.tables e below (s₁.setTop (entryFrame m #[.ref x] 1)) (s₁.setTop (mkF m 1 #[.val (.ref x)] [.ref x])) := Steps.trans (entry rfl) (by
    show Steps p.tables e below (s₁.setTop (mkF m 0 #[.val (.ref x)] [])) _
    refine XS.aloadN X0.here hexec rfl (hb hbytes d0) rfl rfl ?_
    exact Steps.refl _)
  obtain ⟨T2, X2, q2, st2⟩ := X0.hget hexec hown (wk W (.fieldLink "java/lang/String" 9 "java/lang/String" "value" "[B")) (hx.mv X0.warmed.alike hh0).2.1 (g := (mkF m 1 #[.val (.ref x)] [.ref x])) rfl (rest := []) rfl (hb hbytes d1)
  have hh2 := q2.trans hh0
  have hx2 := hx.mv X2.warmed.alike hh2
  have c3 : Steps p.tables e below (s₁.setTop (entryFrame m #[.ref x] 1)) (T2.setTop (mkF m 6 #[.val (.ref x)] [.ref x, .int (Int32.ofNat V.slots.size)])) := (c1.trans (st2 _ (Steps.refl _))).trans (by
    refine X2.alen hexec hx2.2.2.2.1 rfl rfl (hb hbytes d4) ?_
    refine XS.aloadN X2.here hexec rfl (hb hbytes d5) rfl rfl ?_
    exact Steps.refl _)
  obtain ⟨v4, T4, X4, E4, g4⟩ := X2.callV hexec (Cdr.law l x cd z) hown (wks W (virtW "java/lang/String" 335 "java/lang/String" Cdr.yN Cdr.yN)) rfl (by decide) (wk W Cdr.tab) (W := 1) (Nat.le_of_ble_eq_true rfl) (Nat.le_of_ble_eq_true rfl) (Nat.le_refl _) (Nat.le_refl _) (hx2.1.fc X2.warmed.alike) hx2.1.is (g := (mkF m 6 #[.val (.ref x)] [.ref x, .int (Int32.ofNat V.slots.size)])) rfl (by rw [hml]; rfl) c3 (argsL := []) (rest := [.int (Int32.ofNat V.slots.size)]) rfl rfl (by show 2 * 0 + (1 + 0) ≤ _; decide) (hb hbytes d6) (⟨rfl, hx2.2.2.1, hx.2.2.2.2.1.cd, s1.there X2.warmed.alike hh2, hz⟩)
  obtain ⟨rfl, q4⟩ := E4
  have c5 : Steps p.tables e below (s₁.setTop (entryFrame m #[.ref x] 1)) (T4.setTop (mkF m 10 #[.val (.ref x)] [.int (Int32.ofNat V.slots.size >>> (cd &&& 31))])) := Steps.trans g4 (by
    refine ishr X4.here hexec rfl (hb hbytes d9) rfl ?_
    exact Steps.refl _)
  rw [hx.2.2.2.2.1.len v31] at c5
  exact ⟨T4, some (.int (Int32.ofNat n)), _, _, _, X4, rfl, rfl, rfl, (fun h => by cases h), ⟨rfl, q4.trans hh2⟩, fun fs hl => c5.trans (X4.ireturnOut hexec hret rfl (Or.inl rfl) (hb hbytes d10) hl)⟩
theorem pays {l : Launch} {R : Room} {p : Program} {e : Env} {below : List Frame} {s : State} {sargs : Array Value} {len W : Nat} (x t : Addr) (V : Cell) (cd : Int32) (n : Nat) (f : Nat → Int32) (z : Int32) (htab : tab.before sargs s = true) (hfr : 2 ≤ R.frames) (hlo : W + 25 ≤ R.locals) :
    Back l R p e below s sargs yN len W (fun A₁ a₁ => A₁.cells + 0 ≤ R.cells ∧ A₁.slots + 0 ≤ R.slots ∧ P x t V cd n f z a₁ A₁.U) (fun A₁ _ v₁ B₁ => E n v₁ A₁.U B₁.U ∧ B₁.locs = A₁.locs ++ [] ∧ B₁.cells = A₁.cells + 0 ∧ B₁.slots = A₁.slots + 0) :=
  (law l x t V cd n f z).pays htab hfr (by omega)
end Len
namespace IsL
def yN : MethodName := ⟨"java/lang/String", "isLatin1", "()Z"⟩
abbrev yB : ByteArray := jdk_42_method_154_code
theorem d0 : decode yB 0 = .ok (.getstatic 38, 3) := by decide +kernel
theorem d3 : decode yB 3 = .ok (.ifCond (.eq) 14, 3) := by decide +kernel
theorem d6 : decode yB 6 = .ok (.aload_n 0, 1) := by decide +kernel
theorem d7 : decode yB 7 = .ok (.getfield 15, 3) := by decide +kernel
theorem d10 : decode yB 10 = .ok (.ifCond (.ne) 7, 3) := by decide +kernel
theorem d13 : decode yB 13 = .ok (.iconst 1, 1) := by decide +kernel
theorem d14 : decode yB 14 = .ok (.goto 4, 3) := by decide +kernel
theorem d17 : decode yB 17 = .ok (.iconst 0, 1) := by decide +kernel
theorem d18 : decode yB 18 = .ok (.ireturn, 1) := by decide +kernel
def site : List Cond := [.fieldLink "java/lang/String" 38 "java/lang/String" "COMPACT_STRINGS" "Z", .fieldLink "java/lang/String" 15 "java/lang/String" "coder" "B"]
def tab : Cond := tabOf yN yB 1 (some .boolean) site
def P (x : Addr) (cd z : Int32) (args : Array Value) (s : State) : Prop := args = #[.ref x] ∧ Has x "java/lang/String" "coder" "B" (.int cd) s ∧ (cd = 0 ∨ cd = 1) ∧ StaticIs s "java/lang/String" "COMPACT_STRINGS" "Z" (.int z) ∧ ¬ z = 0
def E (cd : Int32) (r : Option Value) (s u : State) : Prop := XT.PureE (some (.int (1 - cd))) r s u
theorem law (l : Launch) (x : Addr) (cd z : Int32) : Law l yN 1 0 0 0 yB 1 (some .boolean) site (P x cd z) (E cd) [] 0 0 := by
  refine Law.of_walk (plainFor_of_name (by decide +kernel)) (by decide +kernel) (by decide +kernel) (by decide) (fun _ _ h => by rw [h.1]; rfl) (fun _ U U' hal hh h => ⟨h.1, h.2.1.mv hal hh, h.2.2.1, h.2.2.2.1.there hal hh, h.2.2.2.2⟩) (fun r U U' V V' h1 hal h2 h => XT.PureE.mv r U U' V V' h1 hal h2 h) ?_
  intro p e s m args below meth c s₁ X0 hexec hbytes hml hret hlk hnm hown hh0 W hP
  obtain ⟨rfl, hx, hc, s1, hz⟩ := hP
  have c1 : Steps p.tables e below (s₁.setTop (entryFrame m #[.ref x] 1)) (s₁.setTop (mkF m 0 #[.val (.ref x)] [])) := entry rfl
  obtain ⟨T2, X2, q2, st2⟩ := X0.sget hexec hown (wk W (.fieldLink "java/lang/String" 38 "java/lang/String" "COMPACT_STRINGS" "Z")) s1 (fun _ _ h => by rw [hh0]; exact h) (g := (mkF m 0 #[.val (.ref x)] [])) rfl (hb hbytes d0)
  have hh2 := q2.trans hh0
  have c3 : Steps p.tables e below (s₁.setTop (entryFrame m #[.ref x] 1)) (T2.setTop (mkF m 7 #[.val (.ref x)] [.ref x])) := (c1.trans (st2 _ (Steps.refl _))).trans (by
    refine XS.ifNo X2.here hexec rfl (hb hbytes d3) rfl (i0_eq_f hz) ?_
    refine XS.aloadN X2.here hexec rfl (hb hbytes d6) rfl rfl ?_
    exact Steps.refl _)
  obtain ⟨T4, X4, q4, st4⟩ := X2.hget hexec hown (wk W (.fieldLink "java/lang/String" 15 "java/lang/String" "coder" "B")) (hx.mv X2.warmed.alike hh2) (g := (mkF m 7 #[.val (.ref x)] [.ref x])) rfl (rest := []) rfl (hb hbytes d7)
  have c5 : Steps p.tables e below (s₁.setTop (entryFrame m #[.ref x] 1)) (T4.setTop (mkF m 10 #[.val (.ref x)] [.int cd])) := c3.trans (st4 _ (Steps.refl _))
  have c6 : Steps p.tables e below (s₁.setTop (entryFrame m #[.ref x] 1)) (T4.setTop (mkF m 18 #[.val (.ref x)] [.int (1 - cd)])) := by
    rcases hc with rfl | rfl
    · exact c5.trans (by
        refine XS.ifNo X4.here hexec rfl (hb hbytes d10) rfl (i0_ne_f rfl) ?_
        refine iconstV X4.here hexec rfl 1 (hb hbytes d13) (by decide) ?_
        refine XS.goto X4.here hexec rfl (pc0 := 14) rfl (hb hbytes d14) (by decide) rfl ?_
        exact Steps.refl _)
    · exact c5.trans (by
        refine XS.ifYes X4.here hexec rfl (pc0 := 10) rfl (hb hbytes d10) rfl (i0_ne_t (by decide)) (by decide) rfl ?_
        refine iconstV X4.here hexec rfl 0 (hb hbytes d17) (by decide) ?_
        exact Steps.refl _)
  exact ⟨T4, some (.int (1 - cd)), _, _, _, X4, rfl, rfl, rfl, (fun h => by cases h), ⟨rfl, q4.trans hh2⟩, fun fs hl => c6.trans (X4.ireturnOut hexec hret (by rcases hc with rfl | rfl <;> rfl) (Or.inr (Or.inl rfl)) (hb hbytes d18) hl)⟩
end IsL
namespace LChA
def yN : MethodName := ⟨"java/lang/StringLatin1", "charAt", "([BI)C"⟩
abbrev yB : ByteArray := jdk_43_method_2_code
theorem d0 : decode yB 0 = .ok (.iload_n 1, 1) := by decide +kernel
theorem d1 : decode yB 1 = .ok (.aload_n 0, 1) := by decide +kernel
theorem d2 : decode yB 2 = .ok (.arraylength, 1) := by decide +kernel
theorem d3 : decode yB 3 = .ok (.invokestatic 9, 3) := by decide +kernel
theorem d6 : decode yB 6 = .ok (.aload_n 0, 1) := by decide +kernel
theorem d7 : decode yB 7 = .ok (.iload_n 1, 1) := by decide +kernel
theorem d8 : decode yB 8 = .ok (.baload, 1) := by decide +kernel
theorem d9 : decode yB 9 = .ok (.sipush 255, 3) := by decide +kernel
theorem d12 : decode yB 12 = .ok (.iand, 1) := by decide +kernel
theorem d13 : decode yB 13 = .ok (.i2c, 1) := by decide +kernel
theorem d14 : decode yB 14 = .ok (.ireturn, 1) := by decide +kernel
def site : List Cond := [JO.Str_checkIndex.tab] ++ staticW "java/lang/StringLatin1" 9 JO.Str_checkIndex.yN
def tab : Cond := tabOf yN yB 2 (some .char) site
def P (t : Addr) (V : Cell) (i : Nat) (u : Int32) (fm : Value) (args : Array Value) (s : State) : Prop := args = #[.ref t, .int (Int32.ofNat i)] ∧ XT.Arr .byte t V s ∧ V.slots[i]? = some (.int u) ∧ (StaticIs s "jdk/internal/util/Preconditions" "SIOOBE_FORMATTER" "Ljava/util/function/BiFunction;" fm ∧ fm.isRef = true)
def E (u : Int32) (r : Option Value) (s w : State) : Prop := XT.PureE (some (.int (chr8 u))) r s w
theorem law (l : Launch) (t : Addr) (V : Cell) (i : Nat) (u : Int32) (fm : Value) : Law l yN 2 2 2 27 yB 2 (some .char) site (P t V i u fm) (E u) [] 0 0 := by
  refine Law.of_walk (plainFor_of_name (by decide +kernel)) (by decide +kernel) (by decide +kernel) (by decide) (fun _ _ h => by rw [h.1]; rfl) (fun _ U U' hal hh h => ⟨h.1, h.2.1.mv hal hh, h.2.2.1, h.2.2.2.1.there hal hh, h.2.2.2.2⟩) (fun r U U' V V' h1 hal h2 h => XT.PureE.mv r U U' V V' h1 hal h2 h) ?_
  intro p e s m args below meth c s₁ X0 hexec hbytes hml hret hlk hnm hown hh0 W hP
  obtain ⟨rfl, hV, hu, s1, rf⟩ := hP
  have v31 := hV.2.2.2
  have hi : i < V.slots.size := (Array.getElem?_eq_some_iff.mp hu).1
  have c1 : Steps p.tables e below (s₁.setTop (entryFrame m #[.ref t, .int (Int32.ofNat i)] 2)) (s₁.setTop (mkF m 0 #[.val (.ref t), .val (.int (Int32.ofNat i))] [])) := entry rfl
  have c2 : Steps p.tables e below (s₁.setTop (entryFrame m #[.ref t, .int (Int32.ofNat i)] 2)) (s₁.setTop (mkF m 3 #[.val (.ref t), .val (.int (Int32.ofNat i))] [.int (Int32.ofNat V.slots.size), .int (Int32.ofNat i)])) := c1.trans (by
    refine XS.iloadN X0.here hexec rfl (hb hbytes d0) rfl ?_
    refine XS.aloadN X0.here hexec rfl (hb hbytes d1) rfl rfl ?_
    refine X0.alen hexec (hV.mv X0.warmed.alike hh0) rfl rfl (hb hbytes d2) ?_
    exact Steps.refl _)
  obtain ⟨v3, T3, X3, E3, g3⟩ := X0.callS hexec (JO.Str_checkIndex.law l (Int32.ofNat i) (Int32.ofNat V.slots.size) fm) hown (wks W (staticW "java/lang/StringLatin1" 9 JO.Str_checkIndex.yN)) (wk W JO.Str_checkIndex.tab) (W := 0) (Nat.le_of_ble_eq_true rfl) (Nat.le_of_ble_eq_true rfl) (Nat.le_refl _) (Nat.le_refl _) (g := (mkF m 3 #[.val (.ref t), .val (.int (Int32.ofNat i))] [.int (Int32.ofNat V.slots.size), .int (Int32.ofNat i)])) rfl (by rw [hml]; rfl) c2 (argsL := [.int (Int32.ofNat i), .int (Int32.ofNat V.slots.size)]) (rest := []) rfl rfl (by show 2 * 0 + 0 ≤ _; decide) (hb hbytes d3) (⟨rfl, rf, s1.there X0.warmed.alike hh0, Int32.ofNat_not_neg (by omega), lt32 v31 hi⟩)
  obtain ⟨rfl, q3⟩ := E3
  have hh3 := q3.trans hh0
  have c4 : Steps p.tables e below (s₁.setTop (entryFrame m #[.ref t, .int (Int32.ofNat i)] 2)) (T3.setTop (mkF m 14 #[.val (.ref t), .val (.int (Int32.ofNat i))] [.int (chr8 u)])) := Steps.trans g3 (by
    refine XS.aloadN X3.here hexec rfl (hb hbytes d6) rfl rfl ?_
    refine XS.iloadN X3.here hexec rfl (hb hbytes d7) rfl ?_
    refine X3.aget hexec (hV.mv X3.warmed.alike hh3) rfl hu rfl rfl (hb hbytes d8) ?_
    refine sipushV X3.here hexec rfl 255 (hb hbytes d9) (by decide) ?_
    refine XS.iand X3.here hexec rfl (hb hbytes d12) rfl ?_
    refine i2c X3.here hexec rfl (hb hbytes d13) rfl ?_
    exact Steps.refl _)
  exact ⟨T3, some (.int (chr8 u)), _, _, _, X3, rfl, rfl, rfl, (fun h => by cases h), ⟨rfl, hh3⟩, fun fs hl => c4.trans (X3.ireturnOut hexec hret (narrow_c _) (Or.inr (Or.inr (Or.inr (Or.inl rfl)))) (hb hbytes d14) hl)⟩
end LChA
end StrChars
namespace StrChars.Road
open Jvm Sem ClassFile Op Lib Jvm.Stand Jvm.Free Jvm.Free.XT
open Jvm.Lib.Cold (StaticIs)
theorem consq {a : Array Value} {s : State} {c : Jvm.Cond} {L : List Jvm.Cond} (h0 : c.before a s = true) (h : ∀ w ∈ L, w.before a s = true) : ∀ w ∈ c :: L, w.before a s = true := fun w hw => (List.mem_cons.mp hw).elim (fun e => e ▸ h0) (h w)
/-- the words of String.length(), either coding -/
abbrev wordsLen : List Jvm.Cond := [.code Len.yN Len.yB 1 (some .int), .initialized ST, .fieldLink ST 9 ST "value" "[B", .fieldLink ST 38 ST "COMPACT_STRINGS" "Z", .fieldLink ST 15 ST "coder" "B", .code Cdr.yN Cdr.yB 1 (some .byte), .methodLink ST 335 Cdr.yN, .declares Cdr.yN, .selects ST Cdr.yN Cdr.yN, .instanceMethod Cdr.yN]
theorem tabLen_of {a : Array Value} {s : State} (h : ∀ w ∈ wordsLen, w.before a s = true) : Len.tab.before a s = true := by
  have hc : Cdr.tab.before a s = true := unparts (wk h (.code Cdr.yN Cdr.yB 1 (some .byte))) (wks h (.initialized Cdr.yN.cls :: Cdr.site))
  have q := consq hc h
  exact unparts (wk q (.code Len.yN Len.yB 1 (some .int))) (wks q (.initialized Len.yN.cls :: Len.site))
theorem movedLen {Z s : State} {a0 args : Array Value} (hZ : Z.Warmed39 s.vm) (hw : ∀ d ∈ wordsLen, d.before a0 Z = true) : ∀ d ∈ wordsLen, d.before args s = true := fun d hd => by
  have q := hw d hd
  have t : ∀ d ∈ wordsLen, d = .arrayClass .byte ∨ (d.onTables && d.keepsFace) = true := by decide +kernel
  rcases t d hd with rfl | t
  · exact RoadKit.mvA hZ q
  · exact RoadKit.mv hZ q t
/-- the bytes of the chars cs, low before high -/
def wideBytes : List Int32 → List Value
  | [] => []
  | c :: cs => .int (lo8 c) :: .int (hi8 c) :: wideBytes cs
theorem wide_lo (d : Value) : ∀ (cs : List Int32) (j : Nat), j < cs.length → (wideBytes cs).getD (2 * j) d = .int (lo8 (cs.getD j 0))
  | [], j, h => absurd h (Nat.not_lt_zero j)
  | c :: cs, 0, _ => rfl
  | c :: cs, j + 1, h => by
    have q := wide_lo d cs j (by simpa using h)
    rw [show 2 * (j + 1) = 2 * j + 1 + 1 from by omega]
    simpa [wideBytes] using q
theorem wide_hi (d : Value) : ∀ (cs : List Int32) (j : Nat), j < cs.length → (wideBytes cs).getD (2 * j + 1) d = .int (hi8 (cs.getD j 0))
  | [], j, h => absurd h (Nat.not_lt_zero j)
  | c :: cs, 0, _ => rfl
  | c :: cs, j + 1, h => by
    have q := wide_hi d cs j (by simpa using h)
    rw [show 2 * (j + 1) + 1 = 2 * j + 1 + 1 + 1 from by omega]
    simpa [wideBytes] using q
theorem low_at (d : Value) (cs : List Int32) (j : Nat) (h : j < cs.length) : (cs.map fun c => Value.int (lo8 c)).getD j d = .int (lo8 (cs.getD j 0)) := by
  simp [List.getD_eq_getElem?_getD, h]
/-- an array of N2 bytes vs codes the chars cs by the coder cd -/
def CodA (cs : List Int32) (cd N2 : Int32) (vs : List Value) : Prop := (cd = 0 ∧ N2 = Int32.ofNat cs.length ∧ vs = (cs.map fun c => Value.int (lo8 c)) ∧ ∀ c ∈ cs, ¬ 255 < c) ∨ (cd = 1 ∧ N2 = Int32.ofNat (2 * cs.length) ∧ vs = wideBytes cs ∧ ∃ c ∈ cs, 255 < c)
theorem CodA.cod {cs : List Int32} {cd N2 : Int32} {vs : List Value} {V : Cell} (h : CodA cs cd N2 vs) (hn : 2 * cs.length < 2 ^ 31) (hs : V.slots.size = N2.toNatClampNeg) (hv : RoadKit.Has V vs (.int 0)) : Cod cd cs.length (fun j => cs.getD j 0) V := by
  rcases h with ⟨rfl, rfl, rfl, h⟩ | ⟨rfl, rfl, rfl, c, hc, hw⟩
  · rw [n32 (by omega)] at hs
    exact Or.inl ⟨rfl, hs, fun j hj => ⟨by rw [hv j (by omega), low_at _ _ _ hj], by
      have e : cs.getD j 0 = cs[j] := by simp [List.getD_eq_getElem?_getD, hj]
      show ¬ 255 < cs.getD j 0
      rw [e]; exact h _ (List.getElem_mem _)⟩⟩
  · rw [n32 (by omega)] at hs
    obtain ⟨j, hj, rfl⟩ := List.getElem_of_mem hc
    exact Or.inr ⟨rfl, hs, fun j hj => ⟨by rw [hv _ (by omega), wide_lo _ _ _ hj], by rw [hv _ (by omega), wide_hi _ _ _ hj]⟩, j, hj, by
      have e : cs.getD j 0 = cs[j] := by simp [List.getD_eq_getElem?_getD, hj]
      show 255 < cs.getD j 0
      rw [e]; exact hw⟩
/-- an object of exactly java/lang/String, its two fields found: as the laws ask it -/
theorem strObj {Z U : State} {a0 : Array Value} {kI : Nat} (wi : (Jvm.Cond.instantiable ST kI).before a0 Z = true) (al : Z.vm.Alike U.vm) {x : Addr} {v0 c0 : Value} (E : RoadKit.Exa Z U.heap x ST) (V : RoadKit.Fld Z U.heap x ST "value" "[B" v0) (C : RoadKit.Fld Z U.heap x ST "coder" "B" c0) :
    ∃ (D : Cell) (fV fC : Field), Blank ST x D U ∧ Found ST "value" "[B" fV U ∧ Found ST "coder" "B" fC U ∧ D.slots[fV.slot]? = some v0 ∧ D.slots[fC.slot]? = some c0 ∧ RoadKit.slotOf Z ST "value" "[B" = fV.slot ∧ RoadKit.slotOf Z ST "coder" "B" = fC.slot := by
  obtain ⟨D, cfV, kV, iV, fV, hD, gV, stV, knV, obV, asV, slV⟩ := V
  obtain ⟨D', cfC, kC, iC, fC, hD', gC, stC, -, -, asC, slC⟩ := C
  cases hD.symm.trans hD'
  obtain ⟨D2, kD, e1, e2, e3, e4, e5⟩ := E
  cases hD.symm.trans e1
  obtain ⟨c2, k2, i1, i2, i3, -⟩ := Cond.instantiable_spec wi
  cases e2.symm.trans i1
  cases e3.symm.trans i2
  obtain ⟨kU, u1, u2⟩ := al.2.2 _ _ e3
  exact ⟨D, fV, fC, ⟨hD, ⟨knV, fun q hq => by rw [hq] at obV; cases obV⟩, by rw [al.findClass]; exact e2, kU, u1, by rw [u2]; exact i3, by rw [u2]; exact e5 i3⟩, ⟨SBG.found_only al ⟨cfV, kV, iV, gV⟩, stV⟩, ⟨SBG.found_only al ⟨cfC, kC, iC, gC⟩, stC⟩, slV, slC, by simp [RoadKit.slotOf, gV], by simp [RoadKit.slotOf, gC]⟩
theorem sta_is {Z U : State} (al : Z.vm.Alike U.vm) {C n d : String} {v : Value} (S : RoadKit.Sta Z U.heap C n d v) : StaticIs U C n d v := by
  obtain ⟨cfS, iS, kS, fS, st, cS, t1, t2, t3, t4, t5, t6, t7⟩ := S
  exact StaticIs.there (s := { Z with heap := U.heap }) ⟨cfS, iS, kS, fS, st, cS, t1, t2, t3, t4, t5, (fun q => by rw [q] at t6; cases t6), t7⟩ al rfl
/-- **length() OF SUCH A STRING** -/
theorem lenW {p : Program} {l : Launch} {e : Env} {R : Room} {s : State} {args : Array Value} {below : List Frame} {len W : Nat} {Z : State} {a0 : Array Value} {h : Heap} (hZ : Z.Warmed39 s.vm) (hw : ∀ d ∈ wordsLen, d.before a0 Z = true) {kI : Nat} (wi : (Jvm.Cond.instantiable ST kI).before a0 Z = true)
    {x t : Addr} {kb : ClassId} {cs : List Int32} {cd N2 z : Int32} {vs : List Value} (E : RoadKit.Exa Z h x ST) (V : RoadKit.Fld Z h x ST "value" "[B" (.ref t)) (C : RoadKit.Fld Z h x ST "coder" "B" (.int cd)) (K : RoadKit.Arv Z h t kb .byte N2 vs (.int 0)) (hc : CodA cs cd N2 vs) (hb : ∀ c ∈ cs, ¬ c < 0 ∧ ¬ (65535 : Int32) < c)
    (S : RoadKit.Sta Z h ST "COMPACT_STRINGS" "Z" (.int z)) (hz : ¬ z = 0) (l2 : cs.length ≤ 4000) (hfr : 2 ≤ R.frames) (hlo : W + 25 ≤ R.locals) :
    Back l R p e below s args (⟨"java/lang/String", "length", "()I"⟩ : MethodName) len W (fun P a => a = #[.ref x] ∧ P.U.heap = h ∧ P.cells + 0 ≤ R.cells ∧ P.slots + 0 ≤ R.slots)
      (fun P _ v B => ∃ L, (v = some (.int (Int32.ofNat cs.length)) ∧ L = [] ∧ B.U.heap = h) ∧ B.locs = P.locs ++ L ∧ B.cells = P.cells + 0 ∧ B.slots = P.slots + 0) := by
  obtain ⟨A, K1, K2, K3, K4, K5, K6⟩ := K
  have hcod := hc.cod (by omega) K3 K5
  intro m meth c P g ig mk a X hg hsize hdg hW hn hp'
  obtain ⟨rfl, rfl, r1, r2⟩ := hp'
  have al : Z.vm.Alike P.U.vm := hZ.alike.trans X.warmed.alike
  obtain ⟨D, fV, fC, hB, F1, F2, g1, g2, -, -⟩ := strObj wi al E V C
  have hx : Txt x t A cd cs.length (fun j => cs.getD j 0) P.U := ⟨⟨_, hB.2.2.1, D, hB.1, rfl, by cases q : D.vm <;> first | rfl | exact absurd q (hB.2.1.2 _)⟩, Has.of hB F1 g1, Has.of hB F2 g2, ⟨K1.1, State.isArrayOf_alike al K1.2.1, K1.2.2, by rcases hcod with ⟨-, q, -⟩ | ⟨-, q, -⟩ <;> omega⟩, hcod, fun j hj => by
    have e : cs.getD j 0 = cs[j] := by simp [List.getD_eq_getElem?_getD, hj]
    show ¬ cs.getD j 0 < 0 ∧ ¬ 65535 < cs.getD j 0
    rw [e]; exact hb _ (List.getElem_mem _)⟩
  obtain ⟨v, B, X', ⟨⟨hv, hh⟩, hl, hk, hs⟩, st⟩ := Len.pays x t A cd cs.length (fun j => cs.getD j 0) z (tabLen_of (movedLen hZ hw)) hfr hlo m meth c P g ig mk _ X hg hsize hdg hW hn ⟨r1, r2, rfl, hx, sta_is al S, hz⟩
  exact ⟨v, B, X', ⟨[], ⟨hv, rfl, hh⟩, hl, hk, hs⟩, st⟩
end StrChars.Road
namespace StrChars
open Jvm Sem ClassFile Op Lib Jvm.Stand Jvm.Free.XT Jvm.Free.ALB Jvm.Free.JM Jvm.Free
open Jvm.Lib.Cold (StaticIs)
/-- what place i of a byte[]'s cell holds -/
def yv (A : Cell) (i : Nat) : Int32 := match A.slots[i]? with | some (.int x) => x | _ => 0
theorem yv_get {a : Addr} {A : Cell} {U : State} (h : XT.Arr .byte a A U) (ht : Typed .byte A) {i : Nat} (hi : i < A.slots.size) : A.slots[i]? = some (.int (yv A i)) := by
  have e := Array.getElem?_eq_getElem hi
  have f := ht i _ e
  unfold yv; rw [e]
  generalize A.slots[i] = v at f
  cases v <;> simp [fits] at f ⊢
/-- the two arrays are equal, place for place -/
def EqC (A B : Cell) : Prop := A.slots.size = B.slots.size ∧ ∀ i, i < A.slots.size → yv A i = yv B i
/-- a boolean that says whether p -/
def Says01 (q : Prop) (r : Option Value) (s u : State) : Prop := ∃ v : Int32, r = some (.int v) ∧ u.heap = s.heap ∧ ((v = 1 ∧ q) ∨ (v = 0 ∧ ¬ q))
theorem Says01.mv {q : Prop} : ∀ r (U U' V V' : State), U'.heap = U.heap → V.vm.Alike V'.vm → V'.heap = V.heap → Says01 q r U V → Says01 q r U' V' :=
  fun r U U' V V' h1 _ h2 ⟨v, a, b, c⟩ => ⟨v, a, by rw [h1, h2]; exact b, c⟩
namespace LEq
def yN : MethodName := ⟨"java/lang/StringLatin1", "equals", "([B[B)Z"⟩
abbrev yB : ByteArray := jdk_43_method_13_code
theorem d0 : decode yB 0 = .ok (.aload_n 0, 1) := by decide +kernel
theorem d1 : decode yB 1 = .ok (.arraylength, 1) := by decide +kernel
theorem d2 : decode yB 2 = .ok (.aload_n 1, 1) := by decide +kernel
theorem d3 : decode yB 3 = .ok (.arraylength, 1) := by decide +kernel
theorem d4 : decode yB 4 = .ok (.if_icmp (.ne) 30, 3) := by decide +kernel
theorem d7 : decode yB 7 = .ok (.iconst 0, 1) := by decide +kernel
theorem d8 : decode yB 8 = .ok (.istore_n 2, 1) := by decide +kernel
theorem d9 : decode yB 9 = .ok (.iload_n 2, 1) := by decide +kernel
theorem d10 : decode yB 10 = .ok (.aload_n 0, 1) := by decide +kernel
theorem d11 : decode yB 11 = .ok (.arraylength, 1) := by decide +kernel
theorem d12 : decode yB 12 = .ok (.if_icmp (.ge) 20, 3) := by decide +kernel
theorem d15 : decode yB 15 = .ok (.aload_n 0, 1) := by decide +kernel
theorem d16 : decode yB 16 = .ok (.iload_n 2, 1) := by decide +kernel
theorem d17 : decode yB 17 = .ok (.baload, 1) := by decide +kernel
theorem d18 : decode yB 18 = .ok (.aload_n 1, 1) := by decide +kernel
theorem d19 : decode yB 19 = .ok (.iload_n 2, 1) := by decide +kernel
theorem d20 : decode yB 20 = .ok (.baload, 1) := by decide +kernel
theorem d21 : decode yB 21 = .ok (.if_icmp (.eq) 5, 3) := by decide +kernel
theorem d24 : decode yB 24 = .ok (.iconst 0, 1) := by decide +kernel
theorem d25 : decode yB 25 = .ok (.ireturn, 1) := by decide +kernel
theorem d26 : decode yB 26 = .ok (.iinc 2 1, 3) := by decide +kernel
theorem d29 : decode yB 29 = .ok (.goto (-20), 3) := by decide +kernel
theorem d32 : decode yB 32 = .ok (.iconst 1, 1) := by decide +kernel
theorem d33 : decode yB 33 = .ok (.ireturn, 1) := by decide +kernel
theorem d34 : decode yB 34 = .ok (.iconst 0, 1) := by decide +kernel
theorem d35 : decode yB 35 = .ok (.ireturn, 1) := by decide +kernel
def site : List Cond := []
def tab : Cond := tabOf yN yB 3 (some .boolean) site
def P (a : Addr) (A : Cell) (b : Addr) (B : Cell) (args : Array Value) (s : State) : Prop := args = #[.ref a, .ref b] ∧ XT.Arr .byte a A s ∧ Typed .byte A ∧ XT.Arr .byte b B s ∧ Typed .byte B
/-- whether two byte[] are equal, place for place -/
theorem law (l : Launch) (a : Addr) (A : Cell) (b : Addr) (B : Cell) : Law l yN 2 2 0 0 yB 3 (some .boolean) site (P a A b B) (Says01 (EqC A B)) [] 0 0 := by
  refine Law.of_walk (plainFor_of_name (by decide +kernel)) (by decide +kernel) (by decide +kernel) (by decide) (fun _ _ h => by rw [h.1]; rfl) (fun _ U U' hal hh h => ⟨h.1, h.2.1.mv hal hh, h.2.2.1, h.2.2.2.1.mv hal hh, h.2.2.2.2⟩) (fun r U U' V V' h1 hal h2 h => Says01.mv r U U' V V' h1 hal h2 h) ?_
  intro p e s m args below meth c s₁ X0 hexec hbytes hml hret hlk hnm hown hh0 W hP
  obtain ⟨rfl, hA, tA, hB, tB⟩ := hP
  have a31 := hA.2.2.2
  have b31 := hB.2.2.2
  have hA0 := hA.mv X0.warmed.alike hh0
  have hB0 := hB.mv X0.warmed.alike hh0
  have c1 : Steps p.tables e below (s₁.setTop (entryFrame m #[.ref a, .ref b] 3)) (s₁.setTop (mkF m 0 #[.val (.ref a), .val (.ref b), .unset] [])) := entry rfl
  have c2 : Steps p.tables e below (s₁.setTop (entryFrame m #[.ref a, .ref b] 3)) (s₁.setTop (mkF m 4 #[.val (.ref a), .val (.ref b), .unset] [.int (Int32.ofNat B.slots.size), .int (Int32.ofNat A.slots.size)])) := c1.trans (by
    refine XS.aloadN X0.here hexec rfl (hb hbytes d0) rfl rfl ?_
    refine X0.alen hexec hA0 rfl rfl (hb hbytes d1) ?_
    refine XS.aloadN X0.here hexec rfl (hb hbytes d2) rfl rfl ?_
    refine X0.alen hexec hB0 rfl rfl (hb hbytes d3) ?_
    exact Steps.refl _)
  by_cases hs : A.slots.size = B.slots.size
  · have c3 : Steps p.tables e below (s₁.setTop (entryFrame m #[.ref a, .ref b] 3)) (s₁.setTop (mkF m 9 #[.val (.ref a), .val (.ref b), .val (.int 0)] [])) := c2.trans (by
      refine XS.icmpNo X0.here hexec rfl (hb hbytes d4) rfl (ii_ne_f (by rw [hs])) ?_
      refine iconstV X0.here hexec rfl 0 (hb hbytes d7) (by decide) ?_
      refine XS.istoreN X0.here hexec rfl (hb hbytes d8) rfl rfl ?_
      exact Steps.refl _)
    have loop : ∀ (r i : Nat), i + r = A.slots.size → (∀ j, j < i → yv A j = yv B j) → Steps p.tables e below (s₁.setTop (entryFrame m #[.ref a, .ref b] 3)) (s₁.setTop (mkF m 9 #[.val (.ref a), .val (.ref b), .val (.int (Int32.ofNat i))] [])) → ∃ (pc : Nat) (Ls : Array Slot) (v : Int32), (pc = 25 ∨ pc = 33) ∧ ((v = 1 ∧ EqC A B) ∨ (v = 0 ∧ ¬ EqC A B)) ∧ Steps p.tables e below (s₁.setTop (entryFrame m #[.ref a, .ref b] 3)) (s₁.setTop (mkF m pc Ls [.int v])) := by
      intro r
      induction r with
      | zero =>
        intro i hi he cl
        exact ⟨33, _, 1, Or.inr rfl, Or.inl ⟨rfl, hs, fun j hj => he j (by omega)⟩, cl.trans (by
          refine XS.iloadN X0.here hexec rfl (hb hbytes d9) rfl ?_
          refine XS.aloadN X0.here hexec rfl (hb hbytes d10) rfl rfl ?_
          refine X0.alen hexec hA0 rfl rfl (hb hbytes d11) ?_
          refine XS.icmpYes X0.here hexec rfl (pc0 := 12) rfl (hb hbytes d12) rfl (ii_ge_t (nlt32 (by omega) (by omega))) (by decide) rfl ?_
          refine iconstV X0.here hexec rfl 1 (hb hbytes d32) (by decide) ?_
          exact Steps.refl _)⟩
      | succ r ih =>
        intro i hi he cl
        have c4 : Steps p.tables e below (s₁.setTop (entryFrame m #[.ref a, .ref b] 3)) (s₁.setTop (mkF m 21 #[.val (.ref a), .val (.ref b), .val (.int (Int32.ofNat i))] [.int (yv B i), .int (yv A i)])) := cl.trans (by
          refine XS.iloadN X0.here hexec rfl (hb hbytes d9) rfl ?_
          refine XS.aloadN X0.here hexec rfl (hb hbytes d10) rfl rfl ?_
          refine X0.alen hexec hA0 rfl rfl (hb hbytes d11) ?_
          refine XS.icmpNo X0.here hexec rfl (hb hbytes d12) rfl (ii_ge_f (lt32 (by omega) (by omega))) ?_
          refine XS.aloadN X0.here hexec rfl (hb hbytes d15) rfl rfl ?_
          refine XS.iloadN X0.here hexec rfl (hb hbytes d16) rfl ?_
          refine X0.aget hexec hA0 rfl (yv_get hA tA (i := i) (by omega)) rfl rfl (hb hbytes d17) ?_
          refine XS.aloadN X0.here hexec rfl (hb hbytes d18) rfl rfl ?_
          refine XS.iloadN X0.here hexec rfl (hb hbytes d19) rfl ?_
          refine X0.aget hexec hB0 rfl (yv_get hB tB (i := i) (by omega)) rfl rfl (hb hbytes d20) ?_
          exact Steps.refl _)
        by_cases hv : yv A i = yv B i
        · have c5 : Steps p.tables e below (s₁.setTop (entryFrame m #[.ref a, .ref b] 3)) (s₁.setTop (mkF m 9 #[.val (.ref a), .val (.ref b), .val (.int (Int32.ofNat i + 1))] [])) := c4.trans (by
            refine XS.icmpYes X0.here hexec rfl (pc0 := 21) rfl (hb hbytes d21) rfl (ii_eq_t hv) (by decide) rfl ?_
            refine iincV X0.here hexec rfl 1 (hb hbytes d26) (by decide) rfl rfl ?_
            refine XS.goto X0.here hexec rfl (pc0 := 29) rfl (hb hbytes d29) (by decide) rfl ?_
            exact Steps.refl _)
          rw [succ32] at c5
          exact ih (i + 1) (by omega) (fun j hj => by
            by_cases e : j = i
            · rw [e]; exact hv
            · exact he j (by omega)) c5
        · exact ⟨25, _, 0, Or.inl rfl, Or.inr ⟨rfl, fun q => hv (q.2 i (by omega))⟩, c4.trans (by
            refine XS.icmpNo X0.here hexec rfl (hb hbytes d21) rfl (ii_eq_f hv) ?_
            refine iconstV X0.here hexec rfl 0 (hb hbytes d24) (by decide) ?_
            exact Steps.refl _)⟩
    obtain ⟨pc, Ls, v, hpc, hv, cz⟩ := loop A.slots.size 0 (by omega) (fun j hj => absurd hj (Nat.not_lt_zero j)) c3
    have nv : narrow .boolean (.int v) = .int v := by rcases hv with ⟨rfl, -⟩ | ⟨rfl, -⟩ <;> rfl
    rcases hpc with rfl | rfl
    · exact ⟨s₁, some (.int v), _, _, _, X0, rfl, rfl, rfl, (fun h => by cases h), ⟨v, rfl, hh0, hv⟩, fun fs hl => cz.trans (X0.ireturnOut hexec hret nv (Or.inr (Or.inl rfl)) (hb hbytes d25) hl)⟩
    · exact ⟨s₁, some (.int v), _, _, _, X0, rfl, rfl, rfl, (fun h => by cases h), ⟨v, rfl, hh0, hv⟩, fun fs hl => cz.trans (X0.ireturnOut hexec hret nv (Or.inr (Or.inl rfl)) (hb hbytes d33) hl)⟩
  · have c3 : Steps p.tables e below (s₁.setTop (entryFrame m #[.ref a, .ref b] 3)) (s₁.setTop (mkF m 35 #[.val (.ref a), .val (.ref b), .unset] [.int 0])) := c2.trans (by
      refine XS.icmpYes X0.here hexec rfl (pc0 := 4) rfl (hb hbytes d4) rfl (ii_ne_t (ne32 a31 b31 hs)) (by decide) rfl ?_
      refine iconstV X0.here hexec rfl 0 (hb hbytes d34) (by decide) ?_
      exact Steps.refl _)
    exact ⟨s₁, some (.int 0), _, _, _, X0, rfl, rfl, rfl, (fun h => by cases h), ⟨0, rfl, hh0, Or.inr ⟨rfl, fun q => hs q.1⟩⟩, fun fs hl => c3.trans (X0.ireturnOut hexec hret rfl (Or.inr (Or.inl rfl)) (hb hbytes d35) hl)⟩
end LEq
theorem Cod.ty {cd : Int32} {n : Nat} {f : Nat → Int32} {V : Cell} (h : Cod cd n f V) : Typed .byte V := fun i v hv => by
  have hi : i < V.slots.size := (Array.getElem?_eq_some_iff.mp hv).1
  rcases h with ⟨-, k1, k2⟩ | ⟨-, k1, k2, -⟩
  · rw [(k2 i (by omega)).1] at hv; cases hv; exact fits_lo8 _
  · rcases Nat.mod_two_eq_zero_or_one i with e | e
    · obtain ⟨j, rfl⟩ : ∃ j, i = 2 * j := ⟨i / 2, by omega⟩
      rw [(k2 j (by omega)).1] at hv; cases hv; exact fits_lo8 _
    · obtain ⟨j, rfl⟩ : ∃ j, i = 2 * j + 1 := ⟨i / 2, by omega⟩
      rw [(k2 j (by omega)).2] at hv; cases hv; exact fits_lo8 _
/-- the same text -/
def SameT (n : Nat) (f : Nat → Int32) (k : Nat) (g : Nat → Int32) : Prop := n = k ∧ ∀ j, j < n → f j = g j
theorem lo8_inj {x y : Int32} (h0 : ¬ x < 0) (h1 : ¬ 255 < x) (k0 : ¬ y < 0) (k1 : ¬ 255 < y) (h : lo8 x = lo8 y) : x = y := by
  rw [← lo8_mask h0 h1, ← lo8_mask k0 k1, h]
/-- arrays coded by one coder are equal just where the texts are -/
theorem Cod.eqv {cd : Int32} {n k : Nat} {f g : Nat → Int32} {V V' : Cell} (h : Cod cd n f V) (h' : Cod cd k g V') (hf : ∀ j, j < n → ¬ f j < 0 ∧ ¬ 65535 < f j) (hg : ∀ j, j < k → ¬ g j < 0 ∧ ¬ 65535 < g j) : EqC V V' ↔ SameT n f k g := by
  have yvv : ∀ {W : Cell} {i : Nat} {x : Int32}, W.slots[i]? = some (.int x) → yv W i = x := fun q => by unfold yv; rw [q]
  rcases h with ⟨rfl, k1, k2⟩ | ⟨rfl, k1, k2, -⟩
  · rcases h' with ⟨-, m1, m2⟩ | ⟨e, -⟩
    · constructor
      · rintro ⟨e1, e2⟩
        refine ⟨by omega, fun j hj => ?_⟩
        have q := e2 j (by omega)
        rw [yvv (k2 j hj).1, yvv (m2 j (by omega)).1] at q
        exact lo8_inj (hf j hj).1 (k2 j hj).2 (hg j (by omega)).1 (m2 j (by omega)).2 q
      · rintro ⟨rfl, e2⟩
        refine ⟨by omega, fun j hj => ?_⟩
        rw [yvv (k2 j (by omega)).1, yvv (m2 j (by omega)).1, e2 j (by omega)]
    · exact absurd e (by decide)
  · rcases h' with ⟨e, -⟩ | ⟨-, m1, m2, -⟩
    · exact absurd e (by decide)
    · constructor
      · rintro ⟨e1, e2⟩
        refine ⟨by omega, fun j hj => ?_⟩
        have q1 := e2 (2 * j) (by omega)
        have q2 := e2 (2 * j + 1) (by omega)
        rw [yvv (k2 j hj).1, yvv (m2 j (by omega)).1] at q1
        rw [yvv (k2 j hj).2, yvv (m2 j (by omega)).2] at q2
        rw [← pair_says (hf j hj).1 (hf j hj).2, ← pair_says (hg j (by omega)).1 (hg j (by omega)).2, q1, q2]
      · rintro ⟨rfl, e2⟩
        refine ⟨by omega, fun i hi => ?_⟩
        rcases Nat.mod_two_eq_zero_or_one i with e | e
        · obtain ⟨j, rfl⟩ : ∃ j, i = 2 * j := ⟨i / 2, by omega⟩
          rw [yvv (k2 j (by omega)).1, yvv (m2 j (by omega)).1, e2 j (by omega)]
        · obtain ⟨j, rfl⟩ : ∃ j, i = 2 * j + 1 := ⟨i / 2, by omega⟩
          rw [yvv (k2 j (by omega)).2, yvv (m2 j (by omega)).2, e2 j (by omega)]
/-- two codings differ: so do the texts -/
theorem Cod.dif {cd cd' : Int32} {n k : Nat} {f g : Nat → Int32} {V V' : Cell} (h : Cod cd n f V) (h' : Cod cd' k g V') (hne : ¬ cd = cd') : ¬ SameT n f k g := by
  rintro ⟨rfl, e⟩
  rcases h with ⟨rfl, -, k2⟩ | ⟨rfl, -, -, j, hj, hw⟩
  · rcases h' with ⟨rfl, -⟩ | ⟨-, -, -, j, hj, hw⟩
    · exact hne rfl
    · exact (k2 j hj).2 (by rw [e j hj]; exact hw)
  · rcases h' with ⟨-, -, m2⟩ | ⟨rfl, -⟩
    · exact (m2 j hj).2 (by rw [← e j hj]; exact hw)
    · exact hne rfl
/-- an object of exactly C is an instance of C -/
theorem cinst {p : Program} {l : Launch} {e : Env} {R : Room} {s : State} {m : MethodId} {args : Array Value} {below : List Frame} {meth : Method} {c : Code} {T : State} {locs : List Loc} {cells slots : Nat} (X : Stand p l e R s m args below meth c T locs cells slots) (hexec : p.tables.exec = Jvm.exec) {own C : String} {index : Nat} (hown : s.vm.findClass own = some m.cls) (hlink : (Cond.classLink own index C).before args s = true) {a : Addr} (hE : Exact C a T)
    {g : JFrame} (hg : g.method = m) {rest : List Value} (hstack : g.stack = .ref a :: rest) (hdg : decode c.code g.pc = .ok (.instanceof index, 3)) :
    ∃ T', Stand p l e R s m args below meth c T' locs cells slots ∧ T'.heap = T.heap ∧ ∀ target, Steps p.tables e below (T'.setTop { g with pc := g.pc + 3, stack := .int 1 :: rest }) target → Steps p.tables e below (T.setTop g) target := by
  obtain ⟨cB, h1, D, h2, h3, h4⟩ := hE
  have h1' : s.vm.findClass C = some cB := by rw [← X.warmed.alike.findClass]; exact h1
  obtain ⟨vm', X', st⟩ := X.instanceofYes hexec hown hlink h2 h4 h1' (by rw [h3]; exact Jvm.Free.SB.assignable_self _ _) hg hstack hdg
  exact ⟨_, X', rfl, st⟩
theorem cself {p : Program} {l : Launch} {e : Env} {R : Room} {s : State} {m : MethodId} {args : Array Value} {below : List Frame} {meth : Method} {c : Code} {T : State} {locs : List Loc} {cells slots : Nat} (X : Stand p l e R s m args below meth c T locs cells slots) (hexec : p.tables.exec = Jvm.exec) {own C : String} {index : Nat} (hown : s.vm.findClass own = some m.cls) (hlink : (Cond.classLink own index C).before args s = true) {a : Addr} (hE : Exact C a T)
    {g : JFrame} (hg : g.method = m) {rest : List Value} (hstack : g.stack = .ref a :: rest) (hdg : decode c.code g.pc = .ok (.checkcast index, 3)) :
    ∃ T', Stand p l e R s m args below meth c T' locs cells slots ∧ T'.heap = T.heap ∧ ∀ target, Steps p.tables e below (T'.setTop { g with pc := g.pc + 3, stack := .ref a :: rest }) target → Steps p.tables e below (T.setTop g) target := by
  obtain ⟨cB, h1, D, h2, h3, h4⟩ := hE
  have h1' : s.vm.findClass C = some cB := by rw [← X.warmed.alike.findClass]; exact h1
  obtain ⟨vm', X', st⟩ := X.checkcastYes hexec hown hlink h2 h4 h1' (by rw [h3]; exact Jvm.Free.SB.assignable_self _ _) hg hstack hdg
  exact ⟨_, X', rfl, fun t h => st t (by rw [← hstack] at h; exact h)⟩
namespace SEq
def yN : MethodName := ⟨"java/lang/String", "equals", "(Ljava/lang/Object;)Z"⟩
abbrev yB : ByteArray := jdk_42_method_66_code
theorem d0 : decode yB 0 = .ok (.aload_n 0, 1) := by decide +kernel
theorem d1 : decode yB 1 = .ok (.aload_n 1, 1) := by decide +kernel
theorem d2 : decode yB 2 = .ok (.if_acmp (.ne) 5, 3) := by decide +kernel
theorem d5 : decode yB 5 = .ok (.iconst 1, 1) := by decide +kernel
theorem d6 : decode yB 6 = .ok (.ireturn, 1) := by decide +kernel
theorem d7 : decode yB 7 = .ok (.aload_n 1, 1) := by decide +kernel
theorem d8 : decode yB 8 = .ok (.instanceof 10, 3) := by decide +kernel
theorem d11 : decode yB 11 = .ok (.ifCond (.eq) 43, 3) := by decide +kernel
theorem d14 : decode yB 14 = .ok (.aload_n 1, 1) := by decide +kernel
theorem d15 : decode yB 15 = .ok (.checkcast 10, 3) := by decide +kernel
theorem d18 : decode yB 18 = .ok (.astore_n 2, 1) := by decide +kernel
theorem d19 : decode yB 19 = .ok (.getstatic 38, 3) := by decide +kernel
theorem d22 : decode yB 22 = .ok (.ifCond (.eq) 14, 3) := by decide +kernel
theorem d25 : decode yB 25 = .ok (.aload_n 0, 1) := by decide +kernel
theorem d26 : decode yB 26 = .ok (.getfield 15, 3) := by decide +kernel
theorem d29 : decode yB 29 = .ok (.aload_n 2, 1) := by decide +kernel
theorem d30 : decode yB 30 = .ok (.getfield 15, 3) := by decide +kernel
theorem d33 : decode yB 33 = .ok (.if_icmp (.ne) 21, 3) := by decide +kernel
theorem d36 : decode yB 36 = .ok (.aload_n 0, 1) := by decide +kernel
theorem d37 : decode yB 37 = .ok (.getfield 9, 3) := by decide +kernel
theorem d40 : decode yB 40 = .ok (.aload_n 2, 1) := by decide +kernel
theorem d41 : decode yB 41 = .ok (.getfield 9, 3) := by decide +kernel
theorem d44 : decode yB 44 = .ok (.invokestatic 541, 3) := by decide +kernel
theorem d47 : decode yB 47 = .ok (.ifCond (.eq) 7, 3) := by decide +kernel
theorem d50 : decode yB 50 = .ok (.iconst 1, 1) := by decide +kernel
theorem d51 : decode yB 51 = .ok (.goto 4, 3) := by decide +kernel
theorem d54 : decode yB 54 = .ok (.iconst 0, 1) := by decide +kernel
theorem d55 : decode yB 55 = .ok (.ireturn, 1) := by decide +kernel
def site : List Cond := [.classLink "java/lang/String" 10 "java/lang/String", .fieldLink "java/lang/String" 38 "java/lang/String" "COMPACT_STRINGS" "Z", .fieldLink "java/lang/String" 15 "java/lang/String" "coder" "B", .fieldLink "java/lang/String" 9 "java/lang/String" "value" "[B", LEq.tab] ++ staticW "java/lang/String" 541 LEq.yN
def tab : Cond := tabOf yN yB 3 (some .boolean) site
def P (x t : Addr) (V : Cell) (cd : Int32) (n : Nat) (f : Nat → Int32) (y t' : Addr) (V' : Cell) (cd' : Int32) (k : Nat) (g : Nat → Int32) (z : Int32) (args : Array Value) (s : State) : Prop := args = #[.ref x, .ref y] ∧ Txt x t V cd n f s ∧ Txt y t' V' cd' k g s ∧ StaticIs s "java/lang/String" "COMPACT_STRINGS" "Z" (.int z) ∧ ¬ z = 0
/-- equals(Object) of two Strings: whether the texts are the same -/
theorem law (l : Launch) (x t : Addr) (V : Cell) (cd : Int32) (n : Nat) (f : Nat → Int32) (y t' : Addr) (V' : Cell) (cd' : Int32) (k : Nat) (g : Nat → Int32) (z : Int32) : Law l yN 2 1 1 14 yB 3 (some .boolean) site (P x t V cd n f y t' V' cd' k g z) (Says01 (SameT n f k g)) [] 0 0 := by
  refine Law.of_walk (plainFor_of_name (by decide +kernel)) (by decide +kernel) (by decide +kernel) (by decide) (fun _ _ h => by rw [h.1]; rfl) (fun _ U U' hal hh h => ⟨h.1, h.2.1.mv hal hh, h.2.2.1.mv hal hh, h.2.2.2.1.there hal hh, h.2.2.2.2⟩) (fun r U U' V V' h1 hal h2 h => Says01.mv r U U' V V' h1 hal h2 h) ?_
  intro p e s m args below meth c s₁ X0 hexec hbytes hml hret hlk hnm hown hh0 W hP
  obtain ⟨rfl, hx, hy, s1, hz⟩ := hP
  have c1 : Steps p.tables e below (s₁.setTop (entryFrame m #[.ref x, .ref y] 3)) (s₁.setTop (mkF m 2 #[.val (.ref x), .val (.ref y), .unset] [.ref y, .ref x])) := Steps.trans (entry rfl) (by
    show Steps p.tables e below (s₁.setTop (mkF m 0 #[.val (.ref x), .val (.ref y), .unset] [])) _
    refine XS.aloadN X0.here hexec rfl (hb hbytes d0) rfl rfl ?_
    refine XS.aloadN X0.here hexec rfl (hb hbytes d1) rfl rfl ?_
    exact Steps.refl _)
  by_cases hxy : x = y
  · have c2 : Steps p.tables e below (s₁.setTop (entryFrame m #[.ref x, .ref y] 3)) (s₁.setTop (mkF m 6 #[.val (.ref x), .val (.ref y), .unset] [.int 1])) := c1.trans (by
      refine acmpNo X0.here hexec rfl (hb hbytes d2) rfl rfl rfl (by simp [acmp, hxy]) ?_
      refine iconstV X0.here hexec rfl 1 (hb hbytes d5) (by decide) ?_
      exact Steps.refl _)
    subst hxy
    have ec : cd = cd' := by
      obtain ⟨D, fd, a1, a2, a3⟩ := hx.2.2.1
      obtain ⟨D', fd', b1, b2, b3⟩ := hy.2.2.1
      cases a1.symm.trans b1
      obtain ⟨q1, q2, q3, q4⟩ := a2.1
      obtain ⟨r1, r2, r3, r4⟩ := b2.1
      cases q4.symm.trans r4
      cases a3.symm.trans b3; rfl
    have et : t = t' := by
      obtain ⟨D, fd, a1, a2, a3⟩ := hx.2.1
      obtain ⟨D', fd', b1, b2, b3⟩ := hy.2.1
      cases a1.symm.trans b1
      obtain ⟨q1, q2, q3, q4⟩ := a2.1
      obtain ⟨r1, r2, r3, r4⟩ := b2.1
      cases q4.symm.trans r4
      cases a3.symm.trans b3; rfl
    subst ec et
    have ev : V = V' := by cases hx.2.2.2.1.1.symm.trans hy.2.2.2.1.1; rfl
    subst ev
    have hs : SameT n f k g := (Cod.eqv hx.2.2.2.2.1 hy.2.2.2.2.1 hx.2.2.2.2.2 hy.2.2.2.2.2).mp ⟨rfl, fun _ _ => rfl⟩
    exact ⟨s₁, some (.int 1), _, _, _, X0, rfl, rfl, rfl, (fun h => by cases h), ⟨1, rfl, hh0, Or.inl ⟨rfl, hs⟩⟩, fun fs hl => c2.trans (X0.ireturnOut hexec hret rfl (Or.inr (Or.inl rfl)) (hb hbytes d6) hl)⟩
  · have c2 : Steps p.tables e below (s₁.setTop (entryFrame m #[.ref x, .ref y] 3)) (s₁.setTop (mkF m 8 #[.val (.ref x), .val (.ref y), .unset] [.ref y])) := c1.trans (by
      refine acmpYes X0.here hexec rfl (pc0 := 2) rfl (hb hbytes d2) rfl rfl rfl (by simp [acmp, hxy]) (by decide) rfl ?_
      refine XS.aloadN X0.here hexec rfl (hb hbytes d7) rfl rfl ?_
      exact Steps.refl _)
    obtain ⟨T3, X3, q3, st3⟩ := cinst X0 hexec hown (wk W (.classLink "java/lang/String" 10 "java/lang/String")) (hy.mv X0.warmed.alike hh0).1 (g := (mkF m 8 #[.val (.ref x), .val (.ref y), .unset] [.ref y])) rfl (rest := []) rfl (hb hbytes d8)
    have hh3 := q3.trans hh0
    have c4 : Steps p.tables e below (s₁.setTop (entryFrame m #[.ref x, .ref y] 3)) (T3.setTop (mkF m 15 #[.val (.ref x), .val (.ref y), .unset] [.ref y])) := (c2.trans (st3 _ (Steps.refl _))).trans (by
      refine XS.ifNo X3.here hexec rfl (hb hbytes d11) rfl (i0_eq_f (by decide)) ?_
      refine XS.aloadN X3.here hexec rfl (hb hbytes d14) rfl rfl ?_
      exact Steps.refl _)
    obtain ⟨T5, X5, q5, st5⟩ := cself X3 hexec hown (wk W (.classLink "java/lang/String" 10 "java/lang/String")) (hy.mv X3.warmed.alike hh3).1 (g := (mkF m 15 #[.val (.ref x), .val (.ref y), .unset] [.ref y])) rfl (rest := []) rfl (hb hbytes d15)
    have hh5 := q5.trans hh3
    have c6 : Steps p.tables e below (s₁.setTop (entryFrame m #[.ref x, .ref y] 3)) (T5.setTop (mkF m 19 #[.val (.ref x), .val (.ref y), .val (.ref y)] [])) := (c4.trans (st5 _ (Steps.refl _))).trans (by
      refine XS.astoreN X5.here hexec rfl (hb hbytes d18) rfl rfl rfl ?_
      exact Steps.refl _)
    obtain ⟨T7, X7, q7, st7⟩ := X5.sget hexec hown (wk W (.fieldLink "java/lang/String" 38 "java/lang/String" "COMPACT_STRINGS" "Z")) s1 (fun _ _ h => by rw [hh5]; exact h) (g := (mkF m 19 #[.val (.ref x), .val (.ref y), .val (.ref y)] [])) rfl (hb hbytes d19)
    have hh7 := q7.trans hh5
    have c8 : Steps p.tables e below (s₁.setTop (entryFrame m #[.ref x, .ref y] 3)) (T7.setTop (mkF m 26 #[.val (.ref x), .val (.ref y), .val (.ref y)] [.ref x])) := (c6.trans (st7 _ (Steps.refl _))).trans (by
      refine XS.ifNo X7.here hexec rfl (hb hbytes d22) rfl (i0_eq_f hz) ?_
      refine XS.aloadN X7.here hexec rfl (hb hbytes d25) rfl rfl ?_
      exact Steps.refl _)
    obtain ⟨T9, X9, q9, st9⟩ := X7.hget hexec hown (wk W (.fieldLink "java/lang/String" 15 "java/lang/String" "coder" "B")) (hx.mv X7.warmed.alike hh7).2.2.1 (g := (mkF m 26 #[.val (.ref x), .val (.ref y), .val (.ref y)] [.ref x])) rfl (rest := []) rfl (hb hbytes d26)
    have hh9 := q9.trans hh7
    have c10 : Steps p.tables e below (s₁.setTop (entryFrame m #[.ref x, .ref y] 3)) (T9.setTop (mkF m 30 #[.val (.ref x), .val (.ref y), .val (.ref y)] [.ref y, .int cd])) := (c8.trans (st9 _ (Steps.refl _))).trans (by
      refine XS.aloadN X9.here hexec rfl (hb hbytes d29) rfl rfl ?_
      exact Steps.refl _)
    obtain ⟨T11, X11, q11, st11⟩ := X9.hget hexec hown (wk W (.fieldLink "java/lang/String" 15 "java/lang/String" "coder" "B")) (hy.mv X9.warmed.alike hh9).2.2.1 (g := (mkF m 30 #[.val (.ref x), .val (.ref y), .val (.ref y)] [.ref y, .int cd])) rfl (rest := [.int cd]) rfl (hb hbytes d30)
    have hh11 := q11.trans hh9
    have c12 : Steps p.tables e below (s₁.setTop (entryFrame m #[.ref x, .ref y] 3)) (T11.setTop (mkF m 33 #[.val (.ref x), .val (.ref y), .val (.ref y)] [.int cd', .int cd])) := c10.trans (st11 _ (Steps.refl _))
    by_cases hcd : cd = cd'
    · subst hcd
      have c13 : Steps p.tables e below (s₁.setTop (entryFrame m #[.ref x, .ref y] 3)) (T11.setTop (mkF m 37 #[.val (.ref x), .val (.ref y), .val (.ref y)] [.ref x])) := c12.trans (by
        refine XS.icmpNo X11.here hexec rfl (hb hbytes d33) rfl (ii_ne_f rfl) ?_
        refine XS.aloadN X11.here hexec rfl (hb hbytes d36) rfl rfl ?_
        exact Steps.refl _)
      obtain ⟨T14, X14, q14, st14⟩ := X11.hget hexec hown (wk W (.fieldLink "java/lang/String" 9 "java/lang/String" "value" "[B")) (hx.mv X11.warmed.alike hh11).2.1 (g := (mkF m 37 #[.val (.ref x), .val (.ref y), .val (.ref y)] [.ref x])) rfl (rest := []) rfl (hb hbytes d37)
      have hh14 := q14.trans hh11
      have c15 : Steps p.tables e below (s₁.setTop (entryFrame m #[.ref x, .ref y] 3)) (T14.setTop (mkF m 41 #[.val (.ref x), .val (.ref y), .val (.ref y)] [.ref y, .ref t])) := (c13.trans (st14 _ (Steps.refl _))).trans (by
        refine XS.aloadN X14.here hexec rfl (hb hbytes d40) rfl rfl ?_
        exact Steps.refl _)
      obtain ⟨T16, X16, q16, st16⟩ := X14.hget hexec hown (wk W (.fieldLink "java/lang/String" 9 "java/lang/String" "value" "[B")) (hy.mv X14.warmed.alike hh14).2.1 (g := (mkF m 41 #[.val (.ref x), .val (.ref y), .val (.ref y)] [.ref y, .ref t])) rfl (rest := [.ref t]) rfl (hb hbytes d41)
      have hh16 := q16.trans hh14
      have c17 : Steps p.tables e below (s₁.setTop (entryFrame m #[.ref x, .ref y] 3)) (T16.setTop (mkF m 44 #[.val (.ref x), .val (.ref y), .val (.ref y)] [.ref t', .ref t])) := c15.trans (st16 _ (Steps.refl _))
      obtain ⟨v18, T18, X18, E18, g18⟩ := X16.callS hexec (LEq.law l t V t' V') hown (wks W (staticW "java/lang/String" 541 LEq.yN)) (wk W LEq.tab) (W := 0) (Nat.le_of_ble_eq_true rfl) (Nat.le_of_ble_eq_true rfl) (Nat.le_refl _) (Nat.le_refl _) (g := (mkF m 44 #[.val (.ref x), .val (.ref y), .val (.ref y)] [.ref t', .ref t])) rfl (by rw [hml]; rfl) c17 (argsL := [.ref t, .ref t']) (rest := []) rfl rfl (by show 2 * 0 + 0 ≤ _; decide) (hb hbytes d44) (⟨rfl, hx.2.2.2.1.mv X16.warmed.alike hh16, hx.2.2.2.2.1.ty, hy.2.2.2.1.mv X16.warmed.alike hh16, hy.2.2.2.2.1.ty⟩)
      obtain ⟨v, rfl, q18, hv⟩ := E18
      have iff := Cod.eqv hx.2.2.2.2.1 hy.2.2.2.2.1 hx.2.2.2.2.2 hy.2.2.2.2.2
      rcases hv with ⟨rfl, he⟩ | ⟨rfl, he⟩
      · have c19 : Steps p.tables e below (s₁.setTop (entryFrame m #[.ref x, .ref y] 3)) (T18.setTop (mkF m 55 #[.val (.ref x), .val (.ref y), .val (.ref y)] [.int 1])) := Steps.trans g18 (by
          refine XS.ifNo X18.here hexec rfl (hb hbytes d47) rfl (i0_eq_f (by decide)) ?_
          refine iconstV X18.here hexec rfl 1 (hb hbytes d50) (by decide) ?_
          refine XS.goto X18.here hexec rfl (pc0 := 51) rfl (hb hbytes d51) (by decide) rfl ?_
          exact Steps.refl _)
        exact ⟨T18, some (.int 1), _, _, _, X18, rfl, rfl, rfl, (fun h => by cases h), ⟨1, rfl, q18.trans hh16, Or.inl ⟨rfl, iff.mp he⟩⟩, fun fs hl => c19.trans (X18.ireturnOut hexec hret rfl (Or.inr (Or.inl rfl)) (hb hbytes d55) hl)⟩
      · have c19 : Steps p.tables e below (s₁.setTop (entryFrame m #[.ref x, .ref y] 3)) (T18.setTop (mkF m 55 #[.val (.ref x), .val (.ref y), .val (.ref y)] [.int 0])) := Steps.trans g18 (by
          refine XS.ifYes X18.here hexec rfl (pc0 := 47) rfl (hb hbytes d47) rfl (i0_eq_t rfl) (by decide) rfl ?_
          refine iconstV X18.here hexec rfl 0 (hb hbytes d54) (by decide) ?_
          exact Steps.refl _)
        exact ⟨T18, some (.int 0), _, _, _, X18, rfl, rfl, rfl, (fun h => by cases h), ⟨0, rfl, q18.trans hh16, Or.inr ⟨rfl, fun q => he (iff.mpr q)⟩⟩, fun fs hl => c19.trans (X18.ireturnOut hexec hret rfl (Or.inr (Or.inl rfl)) (hb hbytes d55) hl)⟩
    · have c13 : Steps p.tables e below (s₁.setTop (entryFrame m #[.ref x, .ref y] 3)) (T11.setTop (mkF m 55 #[.val (.ref x), .val (.ref y), .val (.ref y)] [.int 0])) := c12.trans (by
        refine XS.icmpYes X11.here hexec rfl (pc0 := 33) rfl (hb hbytes d33) rfl (ii_ne_t hcd) (by decide) rfl ?_
        refine iconstV X11.here hexec rfl 0 (hb hbytes d54) (by decide) ?_
        exact Steps.refl _)
      exact ⟨T11, some (.int 0), _, _, _, X11, rfl, rfl, rfl, (fun h => by cases h), ⟨0, rfl, hh11, Or.inr ⟨rfl, Cod.dif hx.2.2.2.2.1 hy.2.2.2.2.1 hcd⟩⟩, fun fs hl => c13.trans (X11.ireturnOut hexec hret rfl (Or.inr (Or.inl rfl)) (hb hbytes d55) hl)⟩
theorem pays {l : Launch} {R : Room} {p : Program} {e : Env} {below : List Frame} {s : State} {sargs : Array Value} {len W : Nat} (x t : Addr) (V : Cell) (cd : Int32) (n : Nat) (f : Nat → Int32) (y t' : Addr) (V' : Cell) (cd' : Int32) (k : Nat) (g : Nat → Int32) (z : Int32) (htab : tab.before sargs s = true) (hfr : 2 ≤ R.frames) (hlo : W + 28 ≤ R.locals) :
    Back l R p e below s sargs yN len W (fun A₁ a₁ => A₁.cells + 0 ≤ R.cells ∧ A₁.slots + 0 ≤ R.slots ∧ P x t V cd n f y t' V' cd' k g z a₁ A₁.U) (fun A₁ _ v₁ B₁ => Says01 (SameT n f k g) v₁ A₁.U B₁.U ∧ B₁.locs = A₁.locs ++ [] ∧ B₁.cells = A₁.cells + 0 ∧ B₁.slots = A₁.slots + 0) :=
  (law l x t V cd n f y t' V' cd' k g z).pays htab hfr (by omega)
end SEq
end StrChars
namespace StrChars.Road
open Jvm Sem ClassFile Op Lib Jvm.Stand Jvm.Free Jvm.Free.XT
open Jvm.Lib.Cold (StaticIs)
/-- the words of String.equals(Object) -/
abbrev wordsEq : List Jvm.Cond := [.code SEq.yN SEq.yB 3 (some .boolean), .initialized ST, .classLink ST 10 ST, .fieldLink ST 38 ST "COMPACT_STRINGS" "Z", .fieldLink ST 15 ST "coder" "B", .fieldLink ST 9 ST "value" "[B", .methodLink ST 541 LEq.yN, .static LEq.yN, .code LEq.yN LEq.yB 3 (some .boolean), .initialized "java/lang/StringLatin1"]
theorem tabEq_of {a : Array Value} {s : State} (h : ∀ w ∈ wordsEq, w.before a s = true) : SEq.tab.before a s = true := by
  have hl : LEq.tab.before a s = true := unparts (wk h (.code LEq.yN LEq.yB 3 (some .boolean))) (wks h (.initialized LEq.yN.cls :: LEq.site))
  have q := consq hl h
  exact unparts (wk q (.code SEq.yN SEq.yB 3 (some .boolean))) (wks q (.initialized SEq.yN.cls :: SEq.site))
theorem movedEq {Z s : State} {a0 args : Array Value} (hZ : Z.Warmed39 s.vm) (hw : ∀ d ∈ wordsEq, d.before a0 Z = true) : ∀ d ∈ wordsEq, d.before args s = true := fun d hd => by
  have t : ∀ d ∈ wordsEq, (d.onTables && d.keepsFace) = true := by decide +kernel
  exact RoadKit.mv hZ (hw d hd) (t d hd)
/-- the road's facts of a String, as the laws ask it -/
theorem txt_of {Z U : State} {a0 : Array Value} {kI : Nat} (wi : (Jvm.Cond.instantiable ST kI).before a0 Z = true) (al : Z.vm.Alike U.vm) {x t : Addr} {kb : ClassId} {cs : List Int32} {cd N2 : Int32} {vs : List Value} (E : RoadKit.Exa Z U.heap x ST) (V : RoadKit.Fld Z U.heap x ST "value" "[B" (.ref t)) (C : RoadKit.Fld Z U.heap x ST "coder" "B" (.int cd)) (K : RoadKit.Arv Z U.heap t kb .byte N2 vs (.int 0)) (hc : CodA cs cd N2 vs) (hb : ∀ c ∈ cs, ¬ c < 0 ∧ ¬ (65535 : Int32) < c) (l2 : cs.length ≤ 4000) :
    ∃ A, Txt x t A cd cs.length (fun j => cs.getD j 0) U := by
  obtain ⟨A, K1, K2, K3, K4, K5, K6⟩ := K
  have hcod := hc.cod (by omega) K3 K5
  obtain ⟨D, fV, fC, hB, F1, F2, g1, g2, -, -⟩ := strObj wi al E V C
  exact ⟨A, ⟨_, hB.2.2.1, D, hB.1, rfl, by cases q : D.vm <;> first | rfl | exact absurd q (hB.2.1.2 _)⟩, Has.of hB F1 g1, Has.of hB F2 g2, ⟨K1.1, State.isArrayOf_alike al K1.2.1, K1.2.2, by rcases hcod with ⟨-, q, -⟩ | ⟨-, q, -⟩ <;> omega⟩, hcod, fun j hj => by
    have e : cs.getD j 0 = cs[j] := by simp [List.getD_eq_getElem?_getD, hj]
    show ¬ cs.getD j 0 < 0 ∧ ¬ 65535 < cs.getD j 0
    rw [e]; exact hb _ (List.getElem_mem _)⟩
theorem same_list (cs ds : List Int32) : SameT cs.length (fun j => cs.getD j 0) ds.length (fun j => ds.getD j 0) ↔ cs = ds := by
  constructor
  · rintro ⟨e, q⟩
    refine List.ext_getElem e fun j h1 h2 => ?_
    have := q j h1
    simpa [List.getD_eq_getElem?_getD, h1, h2] using this
  · rintro rfl
    exact ⟨rfl, fun _ _ => rfl⟩
/-- **equals(Object) OF TWO SUCH STRINGS**: 1 just where the chars are the same -/
theorem eqW {p : Program} {l : Launch} {e : Env} {R : Room} {s : State} {args : Array Value} {below : List Frame} {len W : Nat} {Z : State} {a0 : Array Value} {h : Heap} (hZ : Z.Warmed39 s.vm) (hw : ∀ d ∈ wordsEq, d.before a0 Z = true) {kI : Nat} (wi : (Jvm.Cond.instantiable ST kI).before a0 Z = true)
    {x t : Addr} {kb : ClassId} {cs : List Int32} {cd N2 : Int32} {vs : List Value} (E : RoadKit.Exa Z h x ST) (V : RoadKit.Fld Z h x ST "value" "[B" (.ref t)) (C : RoadKit.Fld Z h x ST "coder" "B" (.int cd)) (K : RoadKit.Arv Z h t kb .byte N2 vs (.int 0)) (hc : CodA cs cd N2 vs) (hb : ∀ c ∈ cs, ¬ c < 0 ∧ ¬ (65535 : Int32) < c) (l2 : cs.length ≤ 4000)
    {y t' : Addr} {kb' : ClassId} {ds : List Int32} {cd' N2' : Int32} {vs' : List Value} (E' : RoadKit.Exa Z h y ST) (V' : RoadKit.Fld Z h y ST "value" "[B" (.ref t')) (C' : RoadKit.Fld Z h y ST "coder" "B" (.int cd')) (K' : RoadKit.Arv Z h t' kb' .byte N2' vs' (.int 0)) (hc' : CodA ds cd' N2' vs') (hb' : ∀ c ∈ ds, ¬ c < 0 ∧ ¬ (65535 : Int32) < c) (l2' : ds.length ≤ 4000)
    {z : Int32} (S : RoadKit.Sta Z h ST "COMPACT_STRINGS" "Z" (.int z)) (hz : ¬ z = 0) (hfr : 2 ≤ R.frames) (hlo : W + 28 ≤ R.locals) :
    Back l R p e below s args (⟨"java/lang/String", "equals", "(Ljava/lang/Object;)Z"⟩ : MethodName) len W (fun P a => a = #[.ref x, .ref y] ∧ P.U.heap = h ∧ P.cells + 0 ≤ R.cells ∧ P.slots + 0 ≤ R.slots)
      (fun P _ v B => ∃ L, (((v = some (.int 1) ∧ cs = ds) ∨ (v = some (.int 0) ∧ ¬ cs = ds)) ∧ L = [] ∧ B.U.heap = h) ∧ B.locs = P.locs ++ L ∧ B.cells = P.cells + 0 ∧ B.slots = P.slots + 0) := by
  intro m meth c P g ig mk a X hg hsize hdg hW hn hp'
  obtain ⟨rfl, rfl, r1, r2⟩ := hp'
  have al : Z.vm.Alike P.U.vm := hZ.alike.trans X.warmed.alike
  obtain ⟨A, hx⟩ := txt_of wi al E V C K hc hb l2
  obtain ⟨A', hy⟩ := txt_of wi al E' V' C' K' hc' hb' l2'
  obtain ⟨v, B, X', ⟨⟨w, hv, hh, hq⟩, hl, hk, hs⟩, st⟩ := SEq.pays x t A cd cs.length (fun j => cs.getD j 0) y t' A' cd' ds.length (fun j => ds.getD j 0) z (tabEq_of (movedEq hZ hw)) hfr hlo m meth c P g ig mk _ X hg hsize hdg hW hn ⟨r1, r2, rfl, hx, hy, sta_is al S, hz⟩
  refine ⟨v, B, X', ⟨[], ⟨?_, rfl, hh⟩, hl, hk, hs⟩, st⟩
  rcases hq with ⟨rfl, q⟩ | ⟨rfl, q⟩
  · exact Or.inl ⟨hv, (same_list cs ds).mp q⟩
  · exact Or.inr ⟨hv, fun e => q ((same_list cs ds).mpr e)⟩
end StrChars.Road
namespace StrChars
open Jvm Sem ClassFile Op Lib Jvm.Stand Jvm.Free.XT Jvm.Free.ALB Jvm.Free.JM Jvm.Free
open Jvm.Lib.Cold (StaticIs)
namespace ChN
def yN : MethodName := ⟨"java/lang/String", "charAt", "(I)C"⟩
abbrev yB : ByteArray := jdk_42_method_56_code
theorem d0 : decode yB 0 = .ok (.aload_n 0, 1) := by decide +kernel
theorem d1 : decode yB 1 = .ok (.invokevirtual 492, 3) := by decide +kernel
theorem d4 : decode yB 4 = .ok (.ifCond (.eq) 12, 3) := by decide +kernel
theorem d7 : decode yB 7 = .ok (.aload_n 0, 1) := by decide +kernel
theorem d8 : decode yB 8 = .ok (.getfield 9, 3) := by decide +kernel
theorem d11 : decode yB 11 = .ok (.iload_n 1, 1) := by decide +kernel
theorem d12 : decode yB 12 = .ok (.invokestatic 495, 3) := by decide +kernel
theorem d15 : decode yB 15 = .ok (.ireturn, 1) := by decide +kernel
def site : List Cond := [.fieldLink "java/lang/String" 9 "java/lang/String" "value" "[B", IsL.tab, LChA.tab] ++ virtW "java/lang/String" 492 "java/lang/String" IsL.yN IsL.yN ++ staticW "java/lang/String" 495 LChA.yN
def tab : Cond := tabOf yN yB 2 (some .char) site
def P (x t : Addr) (V : Cell) (n : Nat) (f : Nat → Int32) (z : Int32) (fm : Value) (i : Nat) (args : Array Value) (s : State) : Prop := args = #[.ref x, .int (Int32.ofNat i)] ∧ Txt x t V 0 n f s ∧ i < n ∧ StaticIs s "java/lang/String" "COMPACT_STRINGS" "Z" (.int z) ∧ ¬ z = 0 ∧ StaticIs s "jdk/internal/util/Preconditions" "SIOOBE_FORMATTER" "Ljava/util/function/BiFunction;" fm ∧ fm.isRef = true
def E (f : Nat → Int32) (i : Nat) (r : Option Value) (s u : State) : Prop := XT.PureE (some (.int (f i))) r s u
/-- charAt(i) of a Latin-1 String of n chars, i < n: f i -/
theorem law (l : Launch) (x t : Addr) (V : Cell) (n : Nat) (f : Nat → Int32) (z : Int32) (fm : Value) (i : Nat) : Law l yN 2 1 3 40 yB 2 (some .char) site (P x t V n f z fm i) (E f i) [] 0 0 := by
  refine Law.of_walk (plainFor_of_name (by decide +kernel)) (by decide +kernel) (by decide +kernel) (by decide) (fun _ _ h => by rw [h.1]; rfl) (fun _ U U' hal hh h => ⟨h.1, h.2.1.mv hal hh, h.2.2.1, h.2.2.2.1.there hal hh, h.2.2.2.2.1, h.2.2.2.2.2.1.there hal hh, h.2.2.2.2.2.2⟩) (fun r U U' V V' h1 hal h2 h => XT.PureE.mv r U U' V V' h1 hal h2 h) ?_
  intro p e s m args below meth c s₁ X0 hexec hbytes hml hret hlk hnm hown hh0 W hP
  obtain ⟨rfl, hx, hi, s1, hz, s3, rf⟩ := hP
  have v31 := hx.2.2.2.1.2.2.2
  have hr := hx.2.2.2.2.2 i hi
  have hx0 := hx.mv X0.warmed.alike hh0
  have c1 : Steps p.tables e below (s₁.setTop (entryFrame m #[.ref x, .int (Int32.ofNat i)] 2)) (s₁.setTop (mkF m 1 #[.val (.ref x), .val (.int (Int32.ofNat i))] [.ref x])) := Steps.trans (entry rfl) (by
    show Steps p.tables e below (s₁.setTop (mkF m 0 #[.val (.ref x), .val (.int (Int32.ofNat i))] [])) _
    refine XS.aloadN X0.here hexec rfl (hb hbytes d0) rfl rfl ?_
    exact Steps.refl _)
  obtain ⟨v2, T2, X2, E2, g2⟩ := X0.callV hexec (IsL.law l x 0 z) hown (wks W (virtW "java/lang/String" 492 "java/lang/String" IsL.yN IsL.yN)) rfl (by decide) (wk W IsL.tab) (W := 0) (Nat.le_of_ble_eq_true rfl) (Nat.le_of_ble_eq_true rfl) (Nat.le_refl _) (Nat.le_refl _) (hx0.1.fc X0.warmed.alike) hx0.1.is (g := (mkF m 1 #[.val (.ref x), .val (.int (Int32.ofNat i))] [.ref x])) rfl (by rw [hml]; rfl) c1 (argsL := []) (rest := []) rfl rfl (by show 2 * 0 + 0 ≤ _; decide) (hb hbytes d1) (⟨rfl, hx0.2.2.1, hx.2.2.2.2.1.cd, s1.there X0.warmed.alike hh0, hz⟩)
  obtain ⟨rfl, q2⟩ := E2
  have hh2 := q2.trans hh0
  have hx2 := hx.mv X2.warmed.alike hh2
  obtain ⟨-, k1, k2⟩ | ⟨k0, -⟩ := hx.2.2.2.2.1
  · have c3 : Steps p.tables e below (s₁.setTop (entryFrame m #[.ref x, .int (Int32.ofNat i)] 2)) (T2.setTop (mkF m 8 #[.val (.ref x), .val (.int (Int32.ofNat i))] [.ref x])) := Steps.trans g2 (by
      refine XS.ifNo X2.here hexec rfl (hb hbytes d4) rfl (i0_eq_f (by decide)) ?_
      refine XS.aloadN X2.here hexec rfl (hb hbytes d7) rfl rfl ?_
      exact Steps.refl _)
    obtain ⟨T4, X4, q4, st4⟩ := X2.hget hexec hown (wk W (.fieldLink "java/lang/String" 9 "java/lang/String" "value" "[B")) hx2.2.1 (g := (mkF m 8 #[.val (.ref x), .val (.int (Int32.ofNat i))] [.ref x])) rfl (rest := []) rfl (hb hbytes d8)
    have hh4 := q4.trans hh2
    have c5 : Steps p.tables e below (s₁.setTop (entryFrame m #[.ref x, .int (Int32.ofNat i)] 2)) (T4.setTop (mkF m 12 #[.val (.ref x), .val (.int (Int32.ofNat i))] [.int (Int32.ofNat i), .ref t])) := (c3.trans (st4 _ (Steps.refl _))).trans (by
      refine XS.iloadN X4.here hexec rfl (hb hbytes d11) rfl ?_
      exact Steps.refl _)
    obtain ⟨v6, T6, X6, E6, g6⟩ := X4.callS hexec (LChA.law l t V i (lo8 (f i)) fm) hown (wks W (staticW "java/lang/String" 495 LChA.yN)) (wk W LChA.tab) (W := 0) (Nat.le_of_ble_eq_true rfl) (Nat.le_of_ble_eq_true rfl) (Nat.le_refl _) (Nat.le_refl _) (g := (mkF m 12 #[.val (.ref x), .val (.int (Int32.ofNat i))] [.int (Int32.ofNat i), .ref t])) rfl (by rw [hml]; rfl) c5 (argsL := [.ref t, .int (Int32.ofNat i)]) (rest := []) rfl rfl (by show 2 * 0 + 0 ≤ _; decide) (hb hbytes d12) (⟨rfl, hx.2.2.2.1.mv X4.warmed.alike hh4, (k2 i hi).1, s3.there X4.warmed.alike hh4, rf⟩)
    obtain ⟨rfl, q6⟩ := E6
    rw [chr8_lo8 hr.1 (k2 i hi).2] at g6
    exact ⟨T6, some (.int (f i)), _, _, _, X6, rfl, rfl, rfl, (fun h => by cases h), ⟨rfl, q6.trans hh4⟩, fun fs hl => Steps.trans g6 (X6.ireturnOut hexec hret (narrow_ch hr.1 hr.2) (Or.inr (Or.inr (Or.inr (Or.inl rfl)))) (hb hbytes d15) hl)⟩
  · exact absurd k0 (by decide)
theorem pays {l : Launch} {R : Room} {p : Program} {e : Env} {below : List Frame} {s : State} {sargs : Array Value} {len W : Nat} (x t : Addr) (V : Cell) (n : Nat) (f : Nat → Int32) (z : Int32) (fm : Value) (i : Nat) (htab : tab.before sargs s = true) (hfr : 4 ≤ R.frames) (hlo : W + 53 ≤ R.locals) :
    Back l R p e below s sargs yN len W (fun A₁ a₁ => A₁.cells + 0 ≤ R.cells ∧ A₁.slots + 0 ≤ R.slots ∧ P x t V n f z fm i a₁ A₁.U) (fun A₁ _ v₁ B₁ => E f i v₁ A₁.U B₁.U ∧ B₁.locs = A₁.locs ++ [] ∧ B₁.cells = A₁.cells + 0 ∧ B₁.slots = A₁.slots + 0) :=
  (law l x t V n f z fm i).pays htab hfr (by omega)
end ChN
end StrChars
namespace StrChars.Road
open Jvm Sem ClassFile Op Lib Jvm.Stand Jvm.Free Jvm.Free.XT
open Jvm.Lib.Cold (StaticIs)
/-- the words of String.charAt(int), the Latin-1 road alone -/
abbrev wordsChN : List Jvm.Cond := [.code ChN.yN ChN.yB 2 (some .char), .initialized ST, .fieldLink ST 9 ST "value" "[B", .fieldLink ST 38 ST "COMPACT_STRINGS" "Z", .fieldLink ST 15 ST "coder" "B", .code IsL.yN IsL.yB 1 (some .boolean), .methodLink ST 492 IsL.yN, .declares IsL.yN, .selects ST IsL.yN IsL.yN, .instanceMethod IsL.yN,
  .methodLink ST 495 LChA.yN, .static LChA.yN, .code LChA.yN LChA.yB 2 (some .char), .initialized "java/lang/StringLatin1", .methodLink "java/lang/StringLatin1" 9 JO.Str_checkIndex.yN, .static JO.Str_checkIndex.yN, .code JO.Str_checkIndex.yN JO.Str_checkIndex.yB 2 none,
  .fieldLink ST 1053 "jdk/internal/util/Preconditions" "SIOOBE_FORMATTER" "Ljava/util/function/BiFunction;", .methodLink ST 1059 JC.PreCheck.yN, .static JC.PreCheck.yN, .code JC.PreCheck.yN JC.PreCheck.yB 3 (some .int), .initialized "jdk/internal/util/Preconditions"]
theorem tabChN_of {a : Array Value} {s : State} (h : ∀ w ∈ wordsChN, w.before a s = true) : ChN.tab.before a s = true := by
  have hp : JC.PreCheck.tab.before a s = true := unparts (wk h (.code JC.PreCheck.yN JC.PreCheck.yB 3 (some .int))) (wks h (.initialized JC.PreCheck.yN.cls :: JC.PreCheck.site))
  have qk := consq hp h
  have hk : JO.Str_checkIndex.tab.before a s = true := unparts (wk qk (.code JO.Str_checkIndex.yN JO.Str_checkIndex.yB 2 none)) (wks qk (.initialized JO.Str_checkIndex.yN.cls :: JO.Str_checkIndex.site))
  have ql := consq hk h
  have hl : LChA.tab.before a s = true := unparts (wk ql (.code LChA.yN LChA.yB 2 (some .char))) (wks ql (.initialized LChA.yN.cls :: LChA.site))
  have hi : IsL.tab.before a s = true := unparts (wk h (.code IsL.yN IsL.yB 1 (some .boolean))) (wks h (.initialized IsL.yN.cls :: IsL.site))
  have q := consq hi (consq hl h)
  exact unparts (wk q (.code ChN.yN ChN.yB 2 (some .char))) (wks q (.initialized ChN.yN.cls :: ChN.site))
theorem movedChN {Z s : State} {a0 args : Array Value} (hZ : Z.Warmed39 s.vm) (hw : ∀ d ∈ wordsChN, d.before a0 Z = true) : ∀ d ∈ wordsChN, d.before args s = true := fun d hd => by
  have t : ∀ d ∈ wordsChN, (d.onTables && d.keepsFace) = true := by decide +kernel
  exact RoadKit.mv hZ (hw d hd) (t d hd)
/-- **charAt(i) OF A LATIN-1 STRING**, i < n: the char -/
theorem chN {p : Program} {l : Launch} {e : Env} {R : Room} {s : State} {args : Array Value} {below : List Frame} {len W : Nat} {Z : State} {a0 : Array Value} {h : Heap} (hZ : Z.Warmed39 s.vm) (hw : ∀ d ∈ wordsChN, d.before a0 Z = true) {kI : Nat} (wi : (Jvm.Cond.instantiable ST kI).before a0 Z = true)
    {x t : Addr} {kb : ClassId} {cs : List Int32} {N2 z : Int32} {vs : List Value} {fm : Value} {i : Nat} {j : Int32} (E : RoadKit.Exa Z h x ST) (V : RoadKit.Fld Z h x ST "value" "[B" (.ref t)) (C : RoadKit.Fld Z h x ST "coder" "B" (.int 0)) (K : RoadKit.Arv Z h t kb .byte N2 vs (.int 0)) (hc : CodA cs 0 N2 vs) (hb : ∀ c ∈ cs, ¬ c < 0 ∧ ¬ (65535 : Int32) < c)
    (S : RoadKit.Sta Z h ST "COMPACT_STRINGS" "Z" (.int z)) (hz : ¬ z = 0) (F : RoadKit.Sta Z h "jdk/internal/util/Preconditions" "SIOOBE_FORMATTER" "Ljava/util/function/BiFunction;" fm) (rf : fm.isRef = true) (l2 : cs.length ≤ 4000) (hi : i < cs.length) (hj : j = Int32.ofNat i) (hfr : 4 ≤ R.frames) (hlo : W + 53 ≤ R.locals) :
    Back l R p e below s args (⟨"java/lang/String", "charAt", "(I)C"⟩ : MethodName) len W (fun P a => a = #[.ref x, .int j] ∧ P.U.heap = h ∧ P.cells + 0 ≤ R.cells ∧ P.slots + 0 ≤ R.slots)
      (fun P _ v B => ∃ L, (v = some (.int (cs.getD i 0)) ∧ L = [] ∧ B.U.heap = h) ∧ B.locs = P.locs ++ L ∧ B.cells = P.cells + 0 ∧ B.slots = P.slots + 0) := by
  subst hj
  intro m meth c P g ig mk a X hg hsize hdg hW hn hp'
  obtain ⟨rfl, rfl, r1, r2⟩ := hp'
  have al : Z.vm.Alike P.U.vm := hZ.alike.trans X.warmed.alike
  obtain ⟨A, hx⟩ := txt_of wi al E V C K hc hb l2
  obtain ⟨v, B, X', ⟨⟨hv, hh⟩, hl, hk, hs⟩, st⟩ := ChN.pays x t A cs.length (fun j => cs.getD j 0) z fm i (tabChN_of (movedChN hZ hw)) hfr hlo m meth c P g ig mk _ X hg hsize hdg hW hn ⟨r1, r2, rfl, hx, hi, sta_is al S, hz, sta_is al F, rf⟩
  exact ⟨v, B, X', ⟨[], ⟨hv, rfl, hh⟩, hl, hk, hs⟩, st⟩
/-- what backV says of its String, as the contracts of this text ask it: cs's low bytes, coder 0 -/
theorem codOf {cs : List Int32} {n : Nat} (hn : cs.length = n) (hb : ∀ c ∈ cs, ¬ 255 < c) : CodA cs 0 (Int32.ofNat n) ((cs.map lo8).map Value.int) := Or.inl ⟨rfl, by rw [hn], by simp [List.map_map, Function.comp_def], hb⟩
end StrChars.Road
end Jvm.Pilot.@@N@@
namespace Jvm.Pilot.@@N@@
open Jvm Jvm.ClassFile Sem Op Lib Jvm.Free Jvm.Stand Jvm.LawKit Jvm.RoadKit Bundle Jvm.Pilot.@@N@@.Jvm.D
-- own prelude: a walk as a chain of goals Go (from here the method comes to its end, and Fin holds there)
def PT (W : Bool) (EL : List (String × Nat)) (Z : State) (a0 : Array Value) (own : String) (p : Program) (l : Launch) (e : Env) (R : Room) (s : State) (m : MethodId) (args : Array Value) (below : List Frame) (meth : Method) (c : Code) (T : State) (h : Heap) (cells slots : Nat) : Prop :=
  ∃ (vm0 : Vm) (k0 : Nat) (locs : List Loc), (W = false → vm0 = s.vm) ∧ Stand p l e R (s.setVm vm0) m args below meth c T locs cells slots ∧ T.heap = h ∧ p.tables.exec = Jvm.exec ∧ Z.Warmed39 vm0 ∧ vm0.findClass own = some m.cls ∧ s.Since vm0 k0 ∧ k0 ≤ h.size ∧ EW Z a0 EL ∧ CHr Z EL s.vm s.heap vm0 h ∧ Fr Z.heap.size locs ∧ Old Z Z.heap.size h
def Go (W : Bool) (EL : List (String × Nat)) (Z : State) (a0 : Array Value) (own : String) (p : Program) (l : Launch) (e : Env) (R : Room) (s : State) (m : MethodId) (args : Array Value) (below : List Frame) (meth : Method) (c : Code) (F : Outcome → State → Prop) (h : Heap) (cells slots : Nat) (g : JFrame) : Prop :=
  ∀ T, PT W EL Z a0 own p l e R s m args below meth c T h cells slots → ∃ t o, Steps p.tables e below (T.setTop g) t ∧ t.status = .running ∧ Ended t below o ∧ F o t
def Fend (W : Bool) (EL : List (String × Nat)) (Z : State) (s : State) (h0 : Heap) (ws : List Addr) (Q : Option Value → Heap → Prop) (dc ds : Nat) (o : Outcome) (t : State) : Prop :=
  ∃ v L, o = .returned v ∧ (Q v t.heap ∧ Fr Z.heap.size L ∧ Keep h0 t.heap ws) ∧ (W = true → CHr Z EL s.vm s.heap t.vm t.heap ∧ ReturnedEndW s o t L dc ds) ∧ (W = false → FrameEnd s o t L dc ds)
def Con (W : Bool) (EL : List (String × Nat)) (l : Launch) (Z : State) (y : MethodName) (bytes : ByteArray) (maxL : Nat) (ret : Option FieldType) (wl : List Jvm.Cond) (rm : Room) (as' : Array Value) (h : Heap) (ws : List Addr) (Q : Option Value → Heap → Prop) : Prop :=
  MetFree l y (head1 (Jvm.Cond.code y bytes maxL ret :: wl) rm) (fun a U => a = as' ∧ Z.Warmed39 U.vm ∧ U.heap = h ∧ (W = true → CHv Z EL U.vm h)) (fun _ _ _ _ _ => True) (fun _ U o U' => Fend W EL Z U h ws Q rm.cells rm.slots o U')
def rvl (Q : Value → Heap → Prop) (v : Option Value) (h : Heap) : Prop := ∃ x, v = some x ∧ Q x h
def rno (Q : Heap → Prop) (v : Option Value) (h : Heap) : Prop := v = none ∧ Q h
def Pay (l : Launch) (R : Room) (p : Program) (e : Env) (below : List Frame) (Z : State) (y : MethodName) (Wd : Nat) (as' : Array Value) (h : Heap) (dc ds : Nat) (ws : List Addr) (Q : Option Value → Heap → Prop) : Prop :=
  ∀ (s : State) (args : Array Value), Z.Warmed39 s.vm → Back l R p e below s args y 3 Wd (fun A a => a = as' ∧ A.U.heap = h ∧ A.cells + dc ≤ R.cells ∧ A.slots + ds ≤ R.slots) (fun A _ v B => ∃ L, (Q v B.U.heap ∧ Fr Z.heap.size L ∧ Keep h B.U.heap ws) ∧ B.locs = A.locs ++ L ∧ B.cells = A.cells + dc ∧ B.slots = A.slots + ds)
def PayW (EL : List (String × Nat)) (l : Launch) (R : Room) (p : Program) (e : Env) (below : List Frame) (Z : State) (y : MethodName) (Wd : Nat) (as' : Array Value) (h : Heap) (dc ds : Nat) (ws : List Addr) (Q : Option Value → Heap → Prop) : Prop :=
  ∀ (s : State) (vm0 : Vm) (args : Array Value), Z.Warmed39 vm0 → CHv Z EL vm0 h → BackS l R p e below (s.setVm vm0) args y 3 Wd (fun A a => a = as' ∧ A.U.heap = h ∧ A.cells + dc ≤ R.cells ∧ A.slots + ds ≤ R.slots) (fun A _ v B => ∃ L, (Q v B.U.heap ∧ Fr Z.heap.size L ∧ Keep h B.U.heap ws) ∧ B.locs = A.locs ++ L ∧ B.cells = A.cells + dc ∧ B.slots = A.slots + ds ∧ CHr Z EL vm0 h B.U.vm B.U.heap)
section Own
variable {W : Bool} {EL : List (String × Nat)} {Z : State} {a0 : Array Value} {own : String} {p : Program} {l : Launch} {e : Env} {R : Room} {s : State} {m : MethodId} {args : Array Value} {below : List Frame} {meth : Method} {c : Code} {F : Outcome → State → Prop} {h : Heap} {cells slots cells' slots' : Nat} {pc pc' : Nat} {ls ls' : Array Slot} {st : List Value}
theorem safe_nil {vm : Vm} {x : Addr} : Safe Z [] vm h x := fun ⟨_, hp, _⟩ => nomatch hp
theorem chv_nil {vm : Vm} : CHv Z [] vm h := fun _ hp => nomatch hp
theorem con_of {y : MethodName} {bytes : ByteArray} {maxL : Nat} {ret : Option FieldType} {wl : List Jvm.Cond} {rm : Room} {as' : Array Value} {ws : List Addr} {Q : Option Value → Heap → Prop} (hname : plainFor y = true) (hWE : W = false → EL = []) (hEL : EW Z a0 EL) (hO : Old Z Z.heap.size h) (hef : ∀ m, entryFrame m as' maxL = mkF m 0 ls [])
    (body : ∀ (p : Program) (e : Env) (s : State) (m : MethodId) (below : List Frame) (meth : Method) (c : Code), c.code = bytes → c.maxLocals = maxL → meth.sig.returnType = ret → meth.locks = false → meth.name = y.name → Go W EL Z a0 y.cls p l e rm s m as' below meth c (Fend W EL Z s h ws Q rm.cells rm.slots) h 0 0 (mkF m 0 ls [])) :
    Con W EL l Z y bytes maxL ret wl rm as' h ws Q := by
  refine MetFree.of_bodySF hname hisR ?_
  intro p e s m args below meth c s₁ Bd hml hP _
  obtain ⟨rfl, hZ, hh, hC⟩ := hP
  have X0 : Stand p l e rm s m args below meth c s₁ [] 0 0 := Stand.of_body Bd
  have e0 : s₁.heap = h := by rw [← hh, Bd.state]; rfl
  have hown : s.vm.findClass y.cls = some m.cls := findClass_of_methodNamed Bd.named
  have hnm := (name_of_methodNamed Bd.named Bd.method).1
  have hcv : CHv Z EL s.vm h := by
    cases W
    · rw [hWE rfl]; exact chv_nil
    · exact hC rfl
  have hcr : CHr Z EL s.vm s.heap s.vm h := by rw [hh]; exact CHr.refl hcv
  obtain ⟨t, o, h1, h2⟩ := body p e s m below meth c Bd.bytes hml Bd.returns Bd.notSynchronized hnm s₁ ⟨s.vm, h.size, [], fun _ => rfl, X0, e0, Bd.exec, hZ, hown, (State.WarmedH.refl s).since _, Nat.le_refl _, hEL, hcr, Fr.nil _, hO⟩
  exact ⟨t, o, castTop (hef m) h1, h2⟩
theorem pay_of {y : MethodName} {bytes : ByteArray} {maxL : Nat} {ret : Option FieldType} {rm : Room} {as' : Array Value} {ws : List Addr} {Q : Option Value → Heap → Prop} {Wd : Nat} (hM : Con false [] l Z y bytes maxL ret [] rm as' h ws Q) (wc : (Jvm.Cond.code y bytes maxL ret).before a0 Z = true) (wz : (Jvm.Cond.initialized y.cls).before a0 Z = true) (hf : rm.frames + 1 ≤ R.frames) (hl : Wd + (maxL + 11) + rm.locals ≤ R.locals) :
    Pay l R p e below Z y Wd as' h rm.cells rm.slots ws Q := by
  intro s args hZ
  refine backOf (Q := fun v h' L => Q v h' ∧ Fr Z.heap.size L ∧ Keep h h' ws) ?_ hZ wc wz hf hl
  intro p e h1 h2 h3 s m args below h4 h5 h6 h7
  obtain ⟨n, o, q1, q2, q3, v, L, rfl, hq, -, hF⟩ := hM p e h1 h2 h3 s m args below h4 h5 ⟨h6.1, h6.2.1, h6.2.2, fun q => nomatch q⟩ h7
  exact ⟨n, _, q1, q2, q3, v, L, rfl, hq, hF rfl⟩
theorem payW_of {y : MethodName} {bytes : ByteArray} {maxL : Nat} {ret : Option FieldType} {rm : Room} {as' : Array Value} {ws : List Addr} {Q : Option Value → Heap → Prop} {Wd : Nat} (hM : Con true EL l Z y bytes maxL ret [] rm as' h ws Q) (wc : (Jvm.Cond.code y bytes maxL ret).before a0 Z = true) (wz : (Jvm.Cond.initialized y.cls).before a0 Z = true) (hf : rm.frames + 1 ≤ R.frames) (hl : Wd + (maxL + 11) + rm.locals ≤ R.locals) (hEL : EW Z a0 EL) :
    PayW EL l R p e below Z y Wd as' h rm.cells rm.slots ws Q := by
  intro s vm0 args hZ H
  refine backOfSH (Q := fun v h' L => Q v h' ∧ Fr Z.heap.size L ∧ Keep h h' ws) ?_ hZ wc wz hf hl hEL H
  intro p e h1 h2 h3 s m args below h4 h5 h6 h7
  obtain ⟨n, o, q1, q2, q3, v, L, rfl, hq, hC, -⟩ := hM p e h1 h2 h3 s m args below h4 h5 ⟨h6.1, h6.2.1, h6.2.2.1, fun _ => h6.2.2.2⟩ h7
  exact ⟨n, _, q1, q2, q3, v, L, rfl, hq, (hC rfl).1, (hC rfl).2⟩
theorem go_old {g0 : JFrame} (k : Old Z Z.heap.size h → Go W EL Z a0 own p l e R s m args below meth c F h cells slots (g0)) : Go W EL Z a0 own p l e R s m args below meth c F h cells slots (g0) := by
  intro T P
  exact k P.choose_spec.choose_spec.choose_spec.2.2.2.2.2.2.2.2.2.2.2 T P
theorem go_pure {g g' : JFrame} (stp : ∀ T : State, At T m c below → p.tables.exec = Jvm.exec → ∀ target, Steps p.tables e below (T.setTop g') target → Steps p.tables e below (T.setTop g) target) (k : Go W EL Z a0 own p l e R s m args below meth c F h cells slots (g')) : Go W EL Z a0 own p l e R s m args below meth c F h cells slots (g) := by
  intro T P
  obtain ⟨t, o, h1, h2⟩ := k T P
  obtain ⟨vm0, k0, locs, -, X, -, hx, -⟩ := P
  exact ⟨t, o, stp T X.here hx _ h1, h2⟩
theorem go_iconst {i : Int} {v : Int32} (hd : decode c.code pc = .ok (.iconst i, 1)) (hp : pc + 1 = pc') (hv : Int32.ofInt i = v) (k : Go W EL Z a0 own p l e R s m args below meth c F h cells slots (mkF m pc' ls (.int v :: st))) : Go W EL Z a0 own p l e R s m args below meth c F h cells slots (mkF m pc ls st) := by
  subst hp hv
  exact go_pure (fun T ha hx target hr => XS.iconst ha hx rfl hd hr) k
theorem go_bipush {i : Int} {v : Int32} (hd : decode c.code pc = .ok (.bipush i, 2)) (hp : pc + 2 = pc') (hv : (Int8.ofInt i).toInt32 = v) (k : Go W EL Z a0 own p l e R s m args below meth c F h cells slots (mkF m pc' ls (.int v :: st))) : Go W EL Z a0 own p l e R s m args below meth c F h cells slots (mkF m pc ls st) := by
  subst hp hv
  exact go_pure (fun T ha hx target hr => XS.bipush ha hx rfl hd hr) k
theorem go_sipush {i : Int} {v : Int32} (hd : decode c.code pc = .ok (.sipush i, 3)) (hp : pc + 3 = pc') (hv : (Int16.ofInt i).toInt32 = v) (k : Go W EL Z a0 own p l e R s m args below meth c F h cells slots (mkF m pc' ls (.int v :: st))) : Go W EL Z a0 own p l e R s m args below meth c F h cells slots (mkF m pc ls st) := by
  subst hp hv
  exact go_pure (fun T ha hx target hr => XS.sipush ha hx rfl hd hr) k
theorem go_aconst_null  (hd : decode c.code pc = .ok (.aconst_null, 1)) (hp : pc + 1 = pc')  (k : Go W EL Z a0 own p l e R s m args below meth c F h cells slots (mkF m pc' ls (.null :: st))) : Go W EL Z a0 own p l e R s m args below meth c F h cells slots (mkF m pc ls (st)) := by
  subst hp
  exact go_pure (fun T ha hx target hr => XS.aconstNull ha hx rfl hd hr) k
theorem go_aload_n {i : Fin 4} {v : Value} (hd : decode c.code pc = .ok (.aload_n i, 1)) (hp : pc + 1 = pc') (hl : ls[i.val]? = some (.val v)) (hv : v.isRef = true) (k : Go W EL Z a0 own p l e R s m args below meth c F h cells slots (mkF m pc' ls (v :: st))) : Go W EL Z a0 own p l e R s m args below meth c F h cells slots (mkF m pc ls (st)) := by
  subst hp
  exact go_pure (fun T ha hx target hr => XS.aloadN ha hx rfl hd hl hv hr) k
theorem go_aload {i : Nat} {v : Value} (hd : decode c.code pc = .ok (.aload i, 2)) (hp : pc + 2 = pc') (hl : ls[i]? = some (.val v)) (hv : v.isRef = true) (k : Go W EL Z a0 own p l e R s m args below meth c F h cells slots (mkF m pc' ls (v :: st))) : Go W EL Z a0 own p l e R s m args below meth c F h cells slots (mkF m pc ls (st)) := by
  subst hp
  exact go_pure (fun T ha hx target hr => XS.aload ha hx rfl hd hl hv hr) k
theorem go_iload_n {i : Fin 4} {v : Int32} (hd : decode c.code pc = .ok (.iload_n i, 1)) (hp : pc + 1 = pc') (hl : ls[i.val]? = some (.val (.int v))) (k : Go W EL Z a0 own p l e R s m args below meth c F h cells slots (mkF m pc' ls (.int v :: st))) : Go W EL Z a0 own p l e R s m args below meth c F h cells slots (mkF m pc ls (st)) := by
  subst hp
  exact go_pure (fun T ha hx target hr => XS.iloadN ha hx rfl hd hl hr) k
theorem go_iload {i : Nat} {v : Int32} (hd : decode c.code pc = .ok (.iload i, 2)) (hp : pc + 2 = pc') (hl : ls[i]? = some (.val (.int v))) (k : Go W EL Z a0 own p l e R s m args below meth c F h cells slots (mkF m pc' ls (.int v :: st))) : Go W EL Z a0 own p l e R s m args below meth c F h cells slots (mkF m pc ls (st)) := by
  subst hp
  exact go_pure (fun T ha hx target hr => XS.iload ha hx rfl hd hl hr) k
theorem go_lload_n {i : Fin 4} {v : Int64} (hd : decode c.code pc = .ok (.lload_n i, 1)) (hp : pc + 1 = pc') (hl : ls[i.val]? = some (.val (.long v))) (k : Go W EL Z a0 own p l e R s m args below meth c F h cells slots (mkF m pc' ls (.long v :: st))) : Go W EL Z a0 own p l e R s m args below meth c F h cells slots (mkF m pc ls (st)) := by
  subst hp
  exact go_pure (fun T ha hx target hr => XT.lloadN ha hx rfl hd hl hr) k
theorem go_lload {i : Nat} {v : Int64} (hd : decode c.code pc = .ok (.lload i, 2)) (hp : pc + 2 = pc') (hl : ls[i]? = some (.val (.long v))) (k : Go W EL Z a0 own p l e R s m args below meth c F h cells slots (mkF m pc' ls (.long v :: st))) : Go W EL Z a0 own p l e R s m args below meth c F h cells slots (mkF m pc ls (st)) := by
  subst hp
  exact go_pure (fun T ha hx target hr => XT.lload ha hx rfl hd hl hr) k
theorem go_istore_n {i : Fin 4} {v : Int32} (hd : decode c.code pc = .ok (.istore_n i, 1)) (hp : pc + 1 = pc') (hl : storeLocals ls i.val (.int v) = some ls') (k : Go W EL Z a0 own p l e R s m args below meth c F h cells slots (mkF m pc' ls' (st))) : Go W EL Z a0 own p l e R s m args below meth c F h cells slots (mkF m pc ls (.int v :: st)) := by
  subst hp
  exact go_pure (fun T ha hx target hr => XS.istoreN ha hx rfl hd rfl hl hr) k
theorem go_istore {i : Nat} {v : Int32} (hd : decode c.code pc = .ok (.istore i, 2)) (hp : pc + 2 = pc') (hl : storeLocals ls i (.int v) = some ls') (k : Go W EL Z a0 own p l e R s m args below meth c F h cells slots (mkF m pc' ls' (st))) : Go W EL Z a0 own p l e R s m args below meth c F h cells slots (mkF m pc ls (.int v :: st)) := by
  subst hp
  exact go_pure (fun T ha hx target hr => XS.istore ha hx rfl hd rfl hl hr) k
theorem go_astore_n {i : Fin 4} {v : Value} (hd : decode c.code pc = .ok (.astore_n i, 1)) (hp : pc + 1 = pc') (hv : v.isRef = true) (hl : storeLocals ls i.val v = some ls') (k : Go W EL Z a0 own p l e R s m args below meth c F h cells slots (mkF m pc' ls' (st))) : Go W EL Z a0 own p l e R s m args below meth c F h cells slots (mkF m pc ls (v :: st)) := by
  subst hp
  exact go_pure (fun T ha hx target hr => XS.astoreN ha hx rfl hd rfl hv hl hr) k
theorem go_astore {i : Nat} {v : Value} (hd : decode c.code pc = .ok (.astore i, 2)) (hp : pc + 2 = pc') (hv : v.isRef = true) (hl : storeLocals ls i v = some ls') (k : Go W EL Z a0 own p l e R s m args below meth c F h cells slots (mkF m pc' ls' (st))) : Go W EL Z a0 own p l e R s m args below meth c F h cells slots (mkF m pc ls (v :: st)) := by
  subst hp
  exact go_pure (fun T ha hx target hr => XS.astore ha hx rfl hd rfl hv hl hr) k
theorem go_lstore_n {i : Fin 4} {v : Int64} (hd : decode c.code pc = .ok (.lstore_n i, 1)) (hp : pc + 1 = pc') (hl : storeLocals ls i.val (.long v) = some ls') (k : Go W EL Z a0 own p l e R s m args below meth c F h cells slots (mkF m pc' ls' (st))) : Go W EL Z a0 own p l e R s m args below meth c F h cells slots (mkF m pc ls (.long v :: st)) := by
  subst hp
  exact go_pure (fun T ha hx target hr => XT.lstoreN ha hx rfl hd rfl hl hr) k
theorem go_lstore {i : Nat} {v : Int64} (hd : decode c.code pc = .ok (.lstore i, 2)) (hp : pc + 2 = pc') (hl : storeLocals ls i (.long v) = some ls') (k : Go W EL Z a0 own p l e R s m args below meth c F h cells slots (mkF m pc' ls' (st))) : Go W EL Z a0 own p l e R s m args below meth c F h cells slots (mkF m pc ls (.long v :: st)) := by
  subst hp
  exact go_pure (fun T ha hx target hr => XT.lstore ha hx rfl hd rfl hl hr) k
theorem go_iadd {x y z : Int32} (hd : decode c.code pc = .ok (.iadd, 1)) (hp : pc + 1 = pc') (hz : x + y = z) (k : Go W EL Z a0 own p l e R s m args below meth c F h cells slots (mkF m pc' ls (.int z :: st))) : Go W EL Z a0 own p l e R s m args below meth c F h cells slots (mkF m pc ls (.int y :: .int x :: st)) := by
  subst hp hz
  exact go_pure (fun T ha hx target hr => XS.iadd ha hx rfl hd rfl hr) k
theorem go_isub {x y z : Int32} (hd : decode c.code pc = .ok (.isub, 1)) (hp : pc + 1 = pc') (hz : x - y = z) (k : Go W EL Z a0 own p l e R s m args below meth c F h cells slots (mkF m pc' ls (.int z :: st))) : Go W EL Z a0 own p l e R s m args below meth c F h cells slots (mkF m pc ls (.int y :: .int x :: st)) := by
  subst hp hz
  exact go_pure (fun T ha hx target hr => XS.isub ha hx rfl hd rfl hr) k
theorem go_imul {x y z : Int32} (hd : decode c.code pc = .ok (.imul, 1)) (hp : pc + 1 = pc') (hz : x * y = z) (k : Go W EL Z a0 own p l e R s m args below meth c F h cells slots (mkF m pc' ls (.int z :: st))) : Go W EL Z a0 own p l e R s m args below meth c F h cells slots (mkF m pc ls (.int y :: .int x :: st)) := by
  subst hp hz
  exact go_pure (fun T ha hx target hr => XS.imul ha hx rfl hd rfl hr) k
theorem go_iand {x y z : Int32} (hd : decode c.code pc = .ok (.iand, 1)) (hp : pc + 1 = pc') (hz : x &&& y = z) (k : Go W EL Z a0 own p l e R s m args below meth c F h cells slots (mkF m pc' ls (.int z :: st))) : Go W EL Z a0 own p l e R s m args below meth c F h cells slots (mkF m pc ls (.int y :: .int x :: st)) := by
  subst hp hz
  exact go_pure (fun T ha hx target hr => XS.iand ha hx rfl hd rfl hr) k
theorem go_ior {x y z : Int32} (hd : decode c.code pc = .ok (.ior, 1)) (hp : pc + 1 = pc') (hz : x ||| y = z) (k : Go W EL Z a0 own p l e R s m args below meth c F h cells slots (mkF m pc' ls (.int z :: st))) : Go W EL Z a0 own p l e R s m args below meth c F h cells slots (mkF m pc ls (.int y :: .int x :: st)) := by
  subst hp hz
  exact go_pure (fun T ha hx target hr => XT.ior ha hx rfl hd rfl hr) k
theorem go_ixor {x y z : Int32} (hd : decode c.code pc = .ok (.ixor, 1)) (hp : pc + 1 = pc') (hz : x ^^^ y = z) (k : Go W EL Z a0 own p l e R s m args below meth c F h cells slots (mkF m pc' ls (.int z :: st))) : Go W EL Z a0 own p l e R s m args below meth c F h cells slots (mkF m pc ls (.int y :: .int x :: st)) := by
  subst hp hz
  exact go_pure (fun T ha hx target hr => XT.ixor ha hx rfl hd rfl hr) k
theorem go_ishl {x y z : Int32} (hd : decode c.code pc = .ok (.ishl, 1)) (hp : pc + 1 = pc') (hz : x <<< (y &&& 31) = z) (k : Go W EL Z a0 own p l e R s m args below meth c F h cells slots (mkF m pc' ls (.int z :: st))) : Go W EL Z a0 own p l e R s m args below meth c F h cells slots (mkF m pc ls (.int y :: .int x :: st)) := by
  subst hp hz
  exact go_pure (fun T ha hx target hr => XT.ishl ha hx rfl hd rfl hr) k
theorem go_ishr {x y z : Int32} (hd : decode c.code pc = .ok (.ishr, 1)) (hp : pc + 1 = pc') (hz : x >>> (y &&& 31) = z) (k : Go W EL Z a0 own p l e R s m args below meth c F h cells slots (mkF m pc' ls (.int z :: st))) : Go W EL Z a0 own p l e R s m args below meth c F h cells slots (mkF m pc ls (.int y :: .int x :: st)) := by
  subst hp hz
  exact go_pure (fun T ha hx target hr => XT.ishr ha hx rfl hd rfl hr) k
theorem go_iushr {x y z : Int32} (hd : decode c.code pc = .ok (.iushr, 1)) (hp : pc + 1 = pc') (hz : XT.ushr x y = z) (k : Go W EL Z a0 own p l e R s m args below meth c F h cells slots (mkF m pc' ls (.int z :: st))) : Go W EL Z a0 own p l e R s m args below meth c F h cells slots (mkF m pc ls (.int y :: .int x :: st)) := by
  subst hp hz
  exact go_pure (fun T ha hx target hr => XT.iushr ha hx rfl hd rfl hr) k
theorem go_idiv {x y z : Int32} (hd : decode c.code pc = .ok (.idiv, 1)) (hp : pc + 1 = pc') (hy : y ≠ 0) (hz : x / y = z) (k : Go W EL Z a0 own p l e R s m args below meth c F h cells slots (mkF m pc' ls (.int z :: st))) : Go W EL Z a0 own p l e R s m args below meth c F h cells slots (mkF m pc ls (.int y :: .int x :: st)) := by
  subst hp hz
  exact go_pure (fun T ha hx target hr => XS.idiv ha hx rfl hd rfl hy hr) k
theorem go_irem {x y z : Int32} (hd : decode c.code pc = .ok (.irem, 1)) (hp : pc + 1 = pc') (hy : y ≠ 0) (hz : x % y = z) (k : Go W EL Z a0 own p l e R s m args below meth c F h cells slots (mkF m pc' ls (.int z :: st))) : Go W EL Z a0 own p l e R s m args below meth c F h cells slots (mkF m pc ls (.int y :: .int x :: st)) := by
  subst hp hz
  intro T P
  obtain ⟨t, o, h1, h2⟩ := k T P
  obtain ⟨vm0, k0, locs, -, X, -, hx, -⟩ := P
  exact ⟨t, o, iremM X hx rfl hd rfl hy h1, h2⟩
theorem go_ineg {x : Int32} {z : Int32} (hd : decode c.code pc = .ok (.ineg, 1)) (hp : pc + 1 = pc') (hz : -x = z) (k : Go W EL Z a0 own p l e R s m args below meth c F h cells slots (mkF m pc' ls (.int z :: st))) : Go W EL Z a0 own p l e R s m args below meth c F h cells slots (mkF m pc ls (.int x :: st)) := by
  subst hp hz
  exact go_pure (fun T ha hx target hr => XS.ineg ha hx rfl hd rfl hr) k
theorem go_i2c {x : Int32} {z : Int32} (hd : decode c.code pc = .ok (.i2c, 1)) (hp : pc + 1 = pc') (hz : x.toUInt32.toUInt16.toUInt32.toInt32 = z) (k : Go W EL Z a0 own p l e R s m args below meth c F h cells slots (mkF m pc' ls (.int z :: st))) : Go W EL Z a0 own p l e R s m args below meth c F h cells slots (mkF m pc ls (.int x :: st)) := by
  subst hp hz
  exact go_pure (fun T ha hx target hr => XT.i2c ha hx rfl hd rfl hr) k
theorem go_i2b {x : Int32} {z : Int32} (hd : decode c.code pc = .ok (.i2b, 1)) (hp : pc + 1 = pc') (hz : x.toInt8.toInt32 = z) (k : Go W EL Z a0 own p l e R s m args below meth c F h cells slots (mkF m pc' ls (.int z :: st))) : Go W EL Z a0 own p l e R s m args below meth c F h cells slots (mkF m pc ls (.int x :: st)) := by
  subst hp hz
  exact go_pure (fun T ha hx target hr => XT.i2b ha hx rfl hd rfl hr) k
theorem go_i2l {x : Int32} {z : Int64} (hd : decode c.code pc = .ok (.i2l, 1)) (hp : pc + 1 = pc') (hz : x.toInt64 = z) (k : Go W EL Z a0 own p l e R s m args below meth c F h cells slots (mkF m pc' ls (.long z :: st))) : Go W EL Z a0 own p l e R s m args below meth c F h cells slots (mkF m pc ls (.int x :: st)) := by
  subst hp hz
  exact go_pure (fun T ha hx target hr => XT.i2l ha hx rfl hd rfl hr) k
theorem go_l2i {x : Int64} {z : Int32} (hd : decode c.code pc = .ok (.l2i, 1)) (hp : pc + 1 = pc') (hz : x.toInt32 = z) (k : Go W EL Z a0 own p l e R s m args below meth c F h cells slots (mkF m pc' ls (.int z :: st))) : Go W EL Z a0 own p l e R s m args below meth c F h cells slots (mkF m pc ls (.long x :: st)) := by
  subst hp hz
  exact go_pure (fun T ha hx target hr => XT.l2i ha hx rfl hd rfl hr) k
theorem go_lneg {x : Int64} {z : Int64} (hd : decode c.code pc = .ok (.lneg, 1)) (hp : pc + 1 = pc') (hz : -x = z) (k : Go W EL Z a0 own p l e R s m args below meth c F h cells slots (mkF m pc' ls (.long z :: st))) : Go W EL Z a0 own p l e R s m args below meth c F h cells slots (mkF m pc ls (.long x :: st)) := by
  subst hp hz
  exact go_pure (fun T ha hx target hr => XT.lneg ha hx rfl hd rfl hr) k
theorem go_land {x y z : Int64} (hd : decode c.code pc = .ok (.land, 1)) (hp : pc + 1 = pc') (hz : x &&& y = z) (k : Go W EL Z a0 own p l e R s m args below meth c F h cells slots (mkF m pc' ls (.long z :: st))) : Go W EL Z a0 own p l e R s m args below meth c F h cells slots (mkF m pc ls (.long y :: .long x :: st)) := by
  subst hp hz
  exact go_pure (fun T ha hx target hr => XT.land ha hx rfl hd rfl hr) k
theorem go_ladd {x y z : Int64} (hd : decode c.code pc = .ok (.ladd, 1)) (hp : pc + 1 = pc') (hz : x + y = z) (k : Go W EL Z a0 own p l e R s m args below meth c F h cells slots (mkF m pc' ls (.long z :: st))) : Go W EL Z a0 own p l e R s m args below meth c F h cells slots (mkF m pc ls (.long y :: .long x :: st)) := by
  subst hp hz
  exact go_pure (fun T ha hx target hr => XT.ladd ha hx rfl hd rfl hr) k
theorem go_lsub {x y z : Int64} (hd : decode c.code pc = .ok (.lsub, 1)) (hp : pc + 1 = pc') (hz : x - y = z) (k : Go W EL Z a0 own p l e R s m args below meth c F h cells slots (mkF m pc' ls (.long z :: st))) : Go W EL Z a0 own p l e R s m args below meth c F h cells slots (mkF m pc ls (.long y :: .long x :: st)) := by
  subst hp hz
  exact go_pure (fun T ha hx target hr => XT.lsub ha hx rfl hd rfl hr) k
theorem go_ldiv {x y z : Int64} (hd : decode c.code pc = .ok (.ldiv, 1)) (hp : pc + 1 = pc') (hy : y ≠ 0) (hz : x / y = z) (k : Go W EL Z a0 own p l e R s m args below meth c F h cells slots (mkF m pc' ls (.long z :: st))) : Go W EL Z a0 own p l e R s m args below meth c F h cells slots (mkF m pc ls (.long y :: .long x :: st)) := by
  subst hp hz
  exact go_pure (fun T ha hx target hr => XT.ldiv ha hx rfl hd rfl hy hr) k
theorem go_lrem {x y z : Int64} (hd : decode c.code pc = .ok (.lrem, 1)) (hp : pc + 1 = pc') (hy : y ≠ 0) (hz : x - (x / y) * y = z) (k : Go W EL Z a0 own p l e R s m args below meth c F h cells slots (mkF m pc' ls (.long z :: st))) : Go W EL Z a0 own p l e R s m args below meth c F h cells slots (mkF m pc ls (.long y :: .long x :: st)) := by
  subst hp hz
  exact go_pure (fun T ha hx target hr => XT.lrem ha hx rfl hd rfl hy hr) k
theorem go_lcmp {x y : Int64} (hd : decode c.code pc = .ok (.lcmp, 1)) (hp : pc + 1 = pc') (k : Go W EL Z a0 own p l e R s m args below meth c F h cells slots (mkF m pc' ls (.int (XT.cmpL x y) :: st))) : Go W EL Z a0 own p l e R s m args below meth c F h cells slots (mkF m pc ls (.long y :: .long x :: st)) := by
  subst hp
  exact go_pure (fun T ha hx target hr => XT.lcmp ha hx rfl hd rfl hr) k
theorem go_lushr {x z : Int64} {y : Int32} (hd : decode c.code pc = .ok (.lushr, 1)) (hp : pc + 1 = pc') (hz : XT.ushrL x y = z) (k : Go W EL Z a0 own p l e R s m args below meth c F h cells slots (mkF m pc' ls (.long z :: st))) : Go W EL Z a0 own p l e R s m args below meth c F h cells slots (mkF m pc ls (.int y :: .long x :: st)) := by
  subst hp hz
  exact go_pure (fun T ha hx target hr => XT.lushr ha hx rfl hd rfl hr) k
theorem go_lconst {i : Fin 2} {v : Int64} (hd : decode c.code pc = .ok (.lconst i, 1)) (hp : pc + 1 = pc') (hv : Int64.ofNat i = v) (k : Go W EL Z a0 own p l e R s m args below meth c F h cells slots (mkF m pc' ls (.long v :: st))) : Go W EL Z a0 own p l e R s m args below meth c F h cells slots (mkF m pc ls st) := by
  subst hp hv
  exact go_pure (fun T ha hx target hr => XT.lconst ha hx rfl hd hr) k
theorem go_dup {v : Value} (hd : decode c.code pc = .ok (.dup, 1)) (hp : pc + 1 = pc') (hc : v.category = 1) (k : Go W EL Z a0 own p l e R s m args below meth c F h cells slots (mkF m pc' ls (v :: v :: st))) : Go W EL Z a0 own p l e R s m args below meth c F h cells slots (mkF m pc ls (v :: st)) := by
  subst hp
  exact go_pure (fun T ha hx target hr => XS.dup ha hx rfl hd rfl hc hr) k
theorem go_dup_x1 {v w : Value} (hd : decode c.code pc = .ok (.dup_x1, 1)) (hp : pc + 1 = pc') (hc : v.category = 1) (hc' : w.category = 1) (k : Go W EL Z a0 own p l e R s m args below meth c F h cells slots (mkF m pc' ls (v :: w :: v :: st))) : Go W EL Z a0 own p l e R s m args below meth c F h cells slots (mkF m pc ls (v :: w :: st)) := by
  subst hp
  exact go_pure (fun T ha hx target hr => XT.dupX1 ha hx rfl hd rfl hc hc' hr) k
theorem go_pop {v : Value} (hd : decode c.code pc = .ok (.pop, 1)) (hp : pc + 1 = pc') (hc : v.category = 1) (k : Go W EL Z a0 own p l e R s m args below meth c F h cells slots (mkF m pc' ls (st))) : Go W EL Z a0 own p l e R s m args below meth c F h cells slots (mkF m pc ls (v :: st)) := by
  subst hp
  exact go_pure (fun T ha hx target hr => XT.pop ha hx rfl hd rfl hc hr) k
theorem go_iinc {i : Nat} {q : Int} {x : Int32} (hd : decode c.code pc = .ok (.iinc i q, 3)) (hp : pc + 3 = pc') (hl : ls[i]? = some (.val (.int x))) {y : Int32} (hy : x + Int32.ofInt q = y) (hl' : storeLocals ls i (.int y) = some ls') (k : Go W EL Z a0 own p l e R s m args below meth c F h cells slots (mkF m pc' ls' st)) : Go W EL Z a0 own p l e R s m args below meth c F h cells slots (mkF m pc ls st) := by
  subst hp hy
  exact go_pure (fun T ha hx target hr => XS.iinc ha hx rfl hd hl hl' hr) k
theorem go_goto {o : Int} (hd : decode c.code pc = .ok (.goto o, 3)) (ho : 0 ≤ (pc : Int) + o) (hp : ((pc : Int) + o).toNat = pc') (k : Go W EL Z a0 own p l e R s m args below meth c F h cells slots (mkF m pc' ls st)) : Go W EL Z a0 own p l e R s m args below meth c F h cells slots (mkF m pc ls st) :=
  go_pure (fun T ha hx target hr => XS.goto ha hx rfl rfl hd ho hp hr) k
theorem go_ifT {o : Int} {cd : ClassFile.Cond} {x : Int32} (hd : decode c.code pc = .ok (.ifCond cd o, 3)) (ho : 0 ≤ (pc : Int) + o) (hp : ((pc : Int) + o).toNat = pc') (hc : ifCond.holds cd x = true) (k : Go W EL Z a0 own p l e R s m args below meth c F h cells slots (mkF m pc' ls st)) : Go W EL Z a0 own p l e R s m args below meth c F h cells slots (mkF m pc ls (.int x :: st)) :=
  go_pure (fun T ha hx target hr => XS.ifYes ha hx rfl rfl hd rfl hc ho hp hr) k
theorem go_ifF {o : Int} {cd : ClassFile.Cond} {x : Int32} (hd : decode c.code pc = .ok (.ifCond cd o, 3)) (hp : pc + 3 = pc') (hc : ifCond.holds cd x = false) (k : Go W EL Z a0 own p l e R s m args below meth c F h cells slots (mkF m pc' ls st)) : Go W EL Z a0 own p l e R s m args below meth c F h cells slots (mkF m pc ls (.int x :: st)) := by
  subst hp
  exact go_pure (fun T ha hx target hr => XS.ifNo ha hx rfl hd rfl hc hr) k
theorem go_icT {o : Int} {cd : ClassFile.Cond} {x y : Int32} (hd : decode c.code pc = .ok (.if_icmp cd o, 3)) (ho : 0 ≤ (pc : Int) + o) (hp : ((pc : Int) + o).toNat = pc') (hc : if_icmp.holds cd x y = true) (k : Go W EL Z a0 own p l e R s m args below meth c F h cells slots (mkF m pc' ls st)) : Go W EL Z a0 own p l e R s m args below meth c F h cells slots (mkF m pc ls (.int y :: .int x :: st)) :=
  go_pure (fun T ha hx target hr => XS.icmpYes ha hx rfl rfl hd rfl hc ho hp hr) k
theorem go_icF {o : Int} {cd : ClassFile.Cond} {x y : Int32} (hd : decode c.code pc = .ok (.if_icmp cd o, 3)) (hp : pc + 3 = pc') (hc : if_icmp.holds cd x y = false) (k : Go W EL Z a0 own p l e R s m args below meth c F h cells slots (mkF m pc' ls st)) : Go W EL Z a0 own p l e R s m args below meth c F h cells slots (mkF m pc ls (.int y :: .int x :: st)) := by
  subst hp
  exact go_pure (fun T ha hx target hr => XS.icmpNo ha hx rfl hd rfl hc hr) k
theorem go_acT {o : Int} {cd : ClassFile.ACond} {x y : Value} (hd : decode c.code pc = .ok (.if_acmp cd o, 3)) (ho : 0 ≤ (pc : Int) + o) (hp : ((pc : Int) + o).toNat = pc') (hx1 : x.isRef = true) (hy1 : y.isRef = true) (hc : XT.acmp cd x y = true) (k : Go W EL Z a0 own p l e R s m args below meth c F h cells slots (mkF m pc' ls st)) : Go W EL Z a0 own p l e R s m args below meth c F h cells slots (mkF m pc ls (y :: x :: st)) :=
  go_pure (fun T ha hx target hr => XT.acmpYes ha hx rfl rfl hd rfl hx1 hy1 hc ho hp hr) k
theorem go_acF {o : Int} {cd : ClassFile.ACond} {x y : Value} (hd : decode c.code pc = .ok (.if_acmp cd o, 3)) (hp : pc + 3 = pc') (hx1 : x.isRef = true) (hy1 : y.isRef = true) (hc : XT.acmp cd x y = false) (k : Go W EL Z a0 own p l e R s m args below meth c F h cells slots (mkF m pc' ls st)) : Go W EL Z a0 own p l e R s m args below meth c F h cells slots (mkF m pc ls (y :: x :: st)) := by
  subst hp
  exact go_pure (fun T ha hx target hr => XT.acmpNo ha hx rfl hd rfl hx1 hy1 hc hr) k
theorem go_nullT {o : Int} (hd : decode c.code pc = .ok (.ifnull o, 3)) (ho : 0 ≤ (pc : Int) + o) (hp : ((pc : Int) + o).toNat = pc') (k : Go W EL Z a0 own p l e R s m args below meth c F h cells slots (mkF m pc' ls st)) : Go W EL Z a0 own p l e R s m args below meth c F h cells slots (mkF m pc ls (.null :: st)) :=
  go_pure (fun T ha hx target hr => XS.ifnullYes ha hx rfl rfl hd rfl ho hp hr) k
theorem go_nullF {o : Int} {b : Addr} (hd : decode c.code pc = .ok (.ifnull o, 3)) (hp : pc + 3 = pc') (k : Go W EL Z a0 own p l e R s m args below meth c F h cells slots (mkF m pc' ls st)) : Go W EL Z a0 own p l e R s m args below meth c F h cells slots (mkF m pc ls (.ref b :: st)) := by
  subst hp
  exact go_pure (fun T ha hx target hr => XS.ifnullNo ha hx rfl hd rfl hr) k
theorem go_nnT {o : Int} {b : Addr} (hd : decode c.code pc = .ok (.ifnonnull o, 3)) (ho : 0 ≤ (pc : Int) + o) (hp : ((pc : Int) + o).toNat = pc') (k : Go W EL Z a0 own p l e R s m args below meth c F h cells slots (mkF m pc' ls st)) : Go W EL Z a0 own p l e R s m args below meth c F h cells slots (mkF m pc ls (.ref b :: st)) :=
  go_pure (fun T ha hx target hr => XT.ifnonnullYes ha hx rfl rfl hd rfl ho hp hr) k
theorem go_nnF {o : Int} (hd : decode c.code pc = .ok (.ifnonnull o, 3)) (hp : pc + 3 = pc') (k : Go W EL Z a0 own p l e R s m args below meth c F h cells slots (mkF m pc' ls st)) : Go W EL Z a0 own p l e R s m args below meth c F h cells slots (mkF m pc ls (.null :: st)) := by
  subst hp
  exact go_pure (fun T ha hx target hr => XT.ifnonnullNo ha hx rfl hd rfl hr) k
theorem go_getF {a : Addr} {v : Value} {R0 O n d : String} {index : Nat} (w : (Jvm.Cond.fieldLink own index R0 n d).before a0 Z = true) (via : Via Z R0 O n d) (F0 : Fld Z h a O n d v) (hd : decode c.code pc = .ok (.getfield index, 3)) (hp : pc + 3 = pc') (k : Go W EL Z a0 own p l e R s m args below meth c F h cells slots (mkF m pc' ls (v :: st))) : Go W EL Z a0 own p l e R s m args below meth c F h cells slots (mkF m pc ls (.ref a :: st)) := by
  subst hp
  intro T P
  obtain ⟨vm0, k0, locs, hWf, X, eT, hx, hZ, hown, hS, hk, hEL, hC, hN, hO⟩ := P
  obtain ⟨T', X', e', st'⟩ := getF X hx hZ hown (host := "") (Or.inl w) via eT F0 (g := mkF m pc ls (.ref a :: st)) rfl rfl hd
  obtain ⟨t, o, h1, h2⟩ := k T' ⟨vm0, k0, locs, hWf, X', e', hx, hZ, hown, hS, hk, hEL, hC, hN, hO⟩
  exact ⟨t, o, st' _ h1, h2⟩
theorem go_getS {v : Value} {O n d : String} {index : Nat} (w : (Jvm.Cond.fieldLink own index O n d).before a0 Z = true) (F0 : Sta Z h O n d v) (hd : decode c.code pc = .ok (.getstatic index, 3)) (hp : pc + 3 = pc') (k : Go W EL Z a0 own p l e R s m args below meth c F h cells slots (mkF m pc' ls (v :: st))) : Go W EL Z a0 own p l e R s m args below meth c F h cells slots (mkF m pc ls st) := by
  subst hp
  intro T P
  obtain ⟨vm0, k0, locs, hWf, X, eT, hx, hZ, hown, hS, hk, hEL, hC, hN, hO⟩ := P
  obtain ⟨T', X', e', st'⟩ := getS X hx hZ hown (host := "") w Via.refl eT F0 (g := mkF m pc ls st) rfl hd
  obtain ⟨t, o, h1, h2⟩ := k T' ⟨vm0, k0, locs, hWf, X', e', hx, hZ, hown, hS, hk, hEL, hC, hN, hO⟩
  exact ⟨t, o, st' _ h1, h2⟩
theorem safe_of {vm : Vm} {a : Addr} {C : String} (hal : Z.vm.Alike vm) (E : Exa Z h a C) (hs : (C ≠ "java/lang/String" ∧ C ≠ "[B") ∨ EL = []) : Safe Z EL vm h a := by
  rcases hs with hs | rfl
  · exact Safe.exa hal E hs.1 hs.2
  · exact safe_nil
theorem go_putF {a : Addr} {v v' old : Value} {R0 O n d C : String} {index kk : Nat} {ty : FieldType} (w : (Jvm.Cond.fieldLink own index R0 n d).before a0 Z = true) (via : Via Z R0 O n d) (F0 : Fld Z h a O n d old) (E : Exa Z h a C) (L : (Jvm.Cond.lays C O n d).before a0 Z = true ∨ ((Jvm.Cond.laysFinal C O n d).before a0 Z = true ∧ own = O ∧ meth.name = "<init>")) (wi : (Jvm.Cond.instantiable C kk).before a0 Z = true)
    (hty : parseFieldDescriptor d = some ty) (hn : narrow ty v = v') (hf : fits ty v' = true) (ha : Z.heap.size ≤ a) (hs : (C ≠ "java/lang/String" ∧ C ≠ "[B") ∨ EL = []) (hd : decode c.code pc = .ok (.putfield index, 3)) (hp : pc + 3 = pc')
    (k : ∀ h', Wr h h' a (Jvm.RoadKit.slotOf Z O n d) v' → Go W EL Z a0 own p l e R s m args below meth c F h' cells slots (mkF m pc' ls st)) : Go W EL Z a0 own p l e R s m args below meth c F h cells slots (mkF m pc ls (v :: .ref a :: st)) := by
  subst hp
  intro T P
  obtain ⟨vm0, k0, locs, hWf, X, eT, hx, hZ, hown, hS, hk, hEL, hC, hN, hO⟩ := P
  obtain ⟨T', h', X', e', W', st'⟩ := putFN X hx hZ hown w via eT F0 E L wi hty hn hf (g := mkF m pc ls (v :: .ref a :: st)) rfl rfl hd
  have S0 : Safe Z EL vm0 h a := safe_of hZ.alike E hs
  obtain ⟨t, o, h1, h2⟩ := k h' W' T' ⟨vm0, k0, _, hWf, X', e', hx, hZ, hown, hS, by rw [W'.size]; exact hk, hEL, hC.trans (CHr.wr W' S0 hC.1), Fr.snoc X' hN ha, hO.wr W' ha⟩
  exact ⟨t, o, st' _ h1, h2⟩
theorem go_newO {C : String} {index n : Nat} (w : (Jvm.Cond.classLink own index C).before a0 Z = true) (wi : (Jvm.Cond.instantiable C n).before a0 Z = true) (wz : (Jvm.Cond.initialized C).before a0 Z = true) (hd : decode c.code pc = .ok (.new index, 3)) (hp : pc + 3 = pc') (hcl : cells + 1 = cells') (hsl : slots + n = slots') (hc : cells' ≤ R.cells) (hl : slots' ≤ R.slots)
    (k : ∀ (h' : Heap) (a : Addr), h.size = a → Ext h h' → Exa Z h' a C → (∀ {O nm d : String} {ty : FieldType}, Laid Z a0 C O nm d → parseFieldDescriptor d = some ty → Fld Z h' a O nm d (defaultValue ty)) → Unt h' a → Go W EL Z a0 own p l e R s m args below meth c F h' cells' slots' (mkF m pc' ls (.ref a :: st))) : Go W EL Z a0 own p l e R s m args below meth c F h cells slots (mkF m pc ls st) := by
  subst hp hcl hsl
  intro T P
  obtain ⟨vm0, k0, locs, hWf, X, eT, hx, hZ, hown, hS, hk, hEL, hC, hN, hO⟩ := P
  obtain ⟨T', h', X', e', E', A', D', U', st'⟩ := newO X hx hZ hown w wi wz eT (g := mkF m pc ls st) rfl hd hc hl
  obtain ⟨t, o, h1, h2⟩ := k h' h.size rfl E' A' D' U' T' ⟨vm0, k0, _, hWf, X', e', hx, hZ, hown, hS, Nat.le_trans hk E'.1, hEL, hC.trans (CHr.ext E' hC.1), hN, hO.ext E'⟩
  exact ⟨t, o, st' _ h1, h2⟩
theorem go_newP {aty : ArrayType} {n : Int32} {cap : Nat} {vs : List Value} {ty : FieldType} {dv : Value} (w : (Jvm.Cond.arrayClass ty).before a0 Z = true) (hty : newarray.typeOf aty = ty) (hdv : defaultValue ty = dv) (hd : decode c.code pc = .ok (.newarray aty, 2)) (hp : pc + 2 = pc') (hn : ¬ n < 0) (hcap : n.toNatClampNeg = cap) (hb : cap * 8 ≤ 536870912) (hvs : List.replicate cap dv = vs) (hcl : cells + 1 = cells') (hsl : slots + cap = slots') (hc : cells' ≤ R.cells) (hl : slots' ≤ R.slots)
    (k : ∀ (h' : Heap) (a : Addr) (kA : ClassId), h.size = a → Ext h h' → Arv Z h' a kA ty n vs dv → Go W EL Z a0 own p l e R s m args below meth c F h' cells' slots' (mkF m pc' ls (.ref a :: st))) : Go W EL Z a0 own p l e R s m args below meth c F h cells slots (mkF m pc ls (.int n :: st)) := by
  subst hp hcl hsl hty hdv hvs
  intro T P
  obtain ⟨vm0, k0, locs, hWf, X, eT, hx, hZ, hown, hS, hk, hEL, hC, hN, hO⟩ := P
  obtain ⟨T', h', kA, X', e', E', A', st'⟩ := newP X hx hZ w eT (g := mkF m pc ls (.int n :: st)) rfl hd rfl hn (cap := cap) (Nat.le_of_eq hcap) hb hc hl
  have V : Arv Z h' h.size kA (newarray.typeOf aty) n (List.replicate cap (defaultValue (newarray.typeOf aty))) (defaultValue (newarray.typeOf aty)) := by
    have q := (Arv.new A' hn).pad (pad_rep [] (defaultValue (newarray.typeOf aty)) cap)
    simpa using q
  obtain ⟨t, o, h1, h2⟩ := k h' h.size kA rfl E' V T' ⟨vm0, k0, _, hWf, X', e', hx, hZ, hown, hS, Nat.le_trans hk E'.1, hEL, hC.trans (CHr.ext E' hC.1), hN, hO.ext E'⟩
  exact ⟨t, o, st' _ h1, h2⟩
theorem go_stC {a : Addr} {kA : ClassId} {z j x x' : Int32} {vs vs' : List Value} {dv : Value} {i : Nat} (A : Arv Z h a kA .char z vs dv) (ha : Z.heap.size ≤ a) (hj0 : ¬ j < 0) (hjz : j < z) (hji : j.toNatClampNeg = i) (hi : i < vs.length) (hx' : x.toUInt32.toUInt16.toUInt32.toInt32 = x') (hvs : vs.set i (.int x') = vs') (hd : decode c.code pc = .ok (.castore, 1)) (hp : pc + 1 = pc')
    (k : ∀ h', Wr h h' a i (.int x') → Arv Z h' a kA .char z vs' dv → Go W EL Z a0 own p l e R s m args below meth c F h' cells slots (mkF m pc' ls st)) : Go W EL Z a0 own p l e R s m args below meth c F h cells slots (mkF m pc ls (.int x :: .int j :: .ref a :: st)) := by
  subst hp hx' hvs hji
  intro T P
  obtain ⟨vm0, k0, locs, hWf, X, eT, hx, hZ, hown, hS, hk, hEL, hC, hN, hO⟩ := P
  obtain ⟨cl, Ar, q1, S1, N1, H1, G1⟩ := A
  obtain ⟨T', h', X', e', W', st'⟩ := stC X hx hZ eT Ar (j := j) (inb_of S1 ⟨hj0, hjz⟩) (g := mkF m pc ls (.int x :: .int j :: .ref a :: st)) rfl rfl hd
  have S0 : Safe Z EL vm0 h a := Safe.arr hZ.alike Ar (by decide)
  obtain ⟨t, o, h1, h2⟩ := k h' W' (Arv.set Ar q1 S1 N1 H1 G1 (fits_nar_char _) W' _ rfl hi) T' ⟨vm0, k0, _, hWf, X', e', hx, hZ, hown, hS, by rw [W'.size]; exact hk, hEL, hC.trans (CHr.wr W' S0 hC.1), Fr.snoc X' hN ha, hO.wr W' ha⟩
  exact ⟨t, o, st' _ h1, h2⟩
theorem go_stB {a : Addr} {kA : ClassId} {z j x x' : Int32} {vs vs' : List Value} {dv : Value} {i : Nat} (hE : EL = []) (A : Arv Z h a kA .byte z vs dv) (ha : Z.heap.size ≤ a) (hj0 : ¬ j < 0) (hjz : j < z) (hji : j.toNatClampNeg = i) (hi : i < vs.length) (hx' : x.toInt8.toInt32 = x') (hvs : vs.set i (.int x') = vs') (hd : decode c.code pc = .ok (.bastore, 1)) (hp : pc + 1 = pc')
    (k : ∀ h', Wr h h' a i (.int x') → Arv Z h' a kA .byte z vs' dv → Go W EL Z a0 own p l e R s m args below meth c F h' cells slots (mkF m pc' ls st)) : Go W EL Z a0 own p l e R s m args below meth c F h cells slots (mkF m pc ls (.int x :: .int j :: .ref a :: st)) := by
  subst hp hx' hvs hji hE
  intro T P
  obtain ⟨vm0, k0, locs, hWf, X, eT, hx, hZ, hown, hS, hk, hEL, hC, hN, hO⟩ := P
  obtain ⟨cl, Ar, q1, S1, N1, H1, G1⟩ := A
  obtain ⟨T', h', X', e', W', st'⟩ := stB X hx hZ eT Ar (j := j) (inb_of S1 ⟨hj0, hjz⟩) (g := mkF m pc ls (.int x :: .int j :: .ref a :: st)) rfl rfl hd
  obtain ⟨t, o, h1, h2⟩ := k h' W' (Arv.set Ar q1 S1 N1 H1 G1 (fits_nar_byte _) W' _ rfl hi) T' ⟨vm0, k0, _, hWf, X', e', hx, hZ, hown, hS, by rw [W'.size]; exact hk, hEL, hC.trans (CHr.wr W' safe_nil hC.1), Fr.snoc X' hN ha, hO.wr W' ha⟩
  exact ⟨t, o, st' _ h1, h2⟩
theorem go_caload {a : Addr} {kA : ClassId} {z j : Int32} {vs : List Value} {dv v : Value} {i : Nat} (A : Arv Z h a kA .char z vs dv) (hj0 : ¬ j < 0) (hjz : j < z) (hji : j.toNatClampNeg = i) (hv : vs.getD i dv = v) (hd : decode c.code pc = .ok (.caload, 1)) (hp : pc + 1 = pc')
    (k : Go W EL Z a0 own p l e R s m args below meth c F h cells slots (mkF m pc' ls (v :: st))) : Go W EL Z a0 own p l e R s m args below meth c F h cells slots (mkF m pc ls (.int j :: .ref a :: st)) := by
  subst hp hv hji
  intro T P
  obtain ⟨t, o, h1, h2⟩ := k T P
  obtain ⟨vm0, k0, locs, hWf, X, eT, hx, hZ, hown, hS, hk, hEL, hC, hN, hO⟩ := P
  obtain ⟨cl, Ar, q1, S1, N1, H1, G1⟩ := A
  have hin := inb_of S1 ⟨hj0, hjz⟩
  exact ⟨t, o, X.caload hx (by rw [eT]; exact Ar.1) (State.isArrayOf_alike hZ.alike Ar.2.1) Ar.2.2 hin (H1.at hin rfl) (g := mkF m pc ls (.int j :: .ref a :: st)) rfl rfl hd _ h1, h2⟩
theorem go_baload {a : Addr} {kA : ClassId} {z j : Int32} {vs : List Value} {dv v : Value} {i : Nat} (A : Arv Z h a kA .byte z vs dv) (hj0 : ¬ j < 0) (hjz : j < z) (hji : j.toNatClampNeg = i) (hv : vs.getD i dv = v) (hd : decode c.code pc = .ok (.baload, 1)) (hp : pc + 1 = pc')
    (k : Go W EL Z a0 own p l e R s m args below meth c F h cells slots (mkF m pc' ls (v :: st))) : Go W EL Z a0 own p l e R s m args below meth c F h cells slots (mkF m pc ls (.int j :: .ref a :: st)) := by
  subst hp hv hji
  intro T P
  obtain ⟨t, o, h1, h2⟩ := k T P
  obtain ⟨vm0, k0, locs, hWf, X, eT, hx, hZ, hown, hS, hk, hEL, hC, hN, hO⟩ := P
  obtain ⟨cl, Ar, q1, S1, N1, H1, G1⟩ := A
  have hin := inb_of S1 ⟨hj0, hjz⟩
  exact ⟨t, o, X.baloadBytes hx (by rw [eT]; exact Ar.1) (State.isArrayOf_alike hZ.alike Ar.2.1) Ar.2.2 hin (H1.at hin rfl) (g := mkF m pc ls (.int j :: .ref a :: st)) rfl rfl hd _ h1, h2⟩
theorem go_aaload {a : Addr} {kA : ClassId} {z j : Int32} {vs : List Value} {dv v : Value} {i : Nat} {ty : FieldType} (A : Arv Z h a kA ty z vs dv) (hty : ty.isReference = true) (hj0 : ¬ j < 0) (hjz : j < z) (hji : j.toNatClampNeg = i) (hv : vs.getD i dv = v) (hd : decode c.code pc = .ok (.aaload, 1)) (hp : pc + 1 = pc')
    (k : Go W EL Z a0 own p l e R s m args below meth c F h cells slots (mkF m pc' ls (v :: st))) : Go W EL Z a0 own p l e R s m args below meth c F h cells slots (mkF m pc ls (.int j :: .ref a :: st)) := by
  subst hp hv hji
  intro T P
  obtain ⟨t, o, h1, h2⟩ := k T P
  obtain ⟨vm0, k0, locs, hWf, X, eT, hx, hZ, hown, hS, hk, hEL, hC, hN, hO⟩ := P
  obtain ⟨cl, Ar, q1, S1, N1, H1, G1⟩ := A
  have hin := inb_of S1 ⟨hj0, hjz⟩
  exact ⟨t, o, X.aaload hx (by rw [eT]; exact Ar.1) (State.isArrayOf_alike hZ.alike Ar.2.1) hty Ar.2.2 hin (H1.at hin rfl) (g := mkF m pc ls (.int j :: .ref a :: st)) rfl rfl hd _ h1, h2⟩
theorem go_arraylength {a : Addr} {kA : ClassId} {z : Int32} {vs : List Value} {dv : Value} {ty : FieldType} (A : Arv Z h a kA ty z vs dv) (hd : decode c.code pc = .ok (.arraylength, 1)) (hp : pc + 1 = pc')
    (k : Go W EL Z a0 own p l e R s m args below meth c F h cells slots (mkF m pc' ls (.int z :: st))) : Go W EL Z a0 own p l e R s m args below meth c F h cells slots (mkF m pc ls (.ref a :: st)) := by
  subst hp
  intro T P
  obtain ⟨t, o, h1, h2⟩ := k T P
  obtain ⟨vm0, k0, locs, hWf, X, eT, hx, hZ, hown, hS, hk, hEL, hC, hN, hO⟩ := P
  obtain ⟨cl, Ar, q1, S1, N1, H1, G1⟩ := A
  refine ⟨t, o, X.arraylength hx (by rw [eT]; exact Ar.1) (State.isArrayOf_alike hZ.alike Ar.2.1) (g := mkF m pc ls (.ref a :: st)) rfl rfl hd _ ?_, h2⟩
  rw [len_of S1 N1]
  exact h1
theorem go_cast {a : Addr} {K : String} {index : Nat} (w : (Jvm.Cond.classLink own index K).before a0 Z = true) (I : Ins Z h a K true) (hd : decode c.code pc = .ok (.checkcast index, 3)) (hp : pc + 3 = pc') (k : Go W EL Z a0 own p l e R s m args below meth c F h cells slots (mkF m pc' ls (.ref a :: st))) : Go W EL Z a0 own p l e R s m args below meth c F h cells slots (mkF m pc ls (.ref a :: st)) := by
  subst hp
  intro T P
  obtain ⟨vm0, k0, locs, hWf, X, eT, hx, hZ, hown, hS, hk, hEL, hC, hN, hO⟩ := P
  obtain ⟨T', X', e', st'⟩ := castY X hx hZ hown w eT I (g := mkF m pc ls (.ref a :: st)) rfl rfl hd
  obtain ⟨t, o, h1, h2⟩ := k T' ⟨vm0, k0, locs, hWf, X', e', hx, hZ, hown, hS, hk, hEL, hC, hN, hO⟩
  exact ⟨t, o, st' _ h1, h2⟩
theorem go_instY {a : Addr} {K : String} {index : Nat} (w : (Jvm.Cond.classLink own index K).before a0 Z = true) (I : Ins Z h a K true) (hd : decode c.code pc = .ok (.instanceof index, 3)) (hp : pc + 3 = pc') (k : Go W EL Z a0 own p l e R s m args below meth c F h cells slots (mkF m pc' ls (.int 1 :: st))) : Go W EL Z a0 own p l e R s m args below meth c F h cells slots (mkF m pc ls (.ref a :: st)) := by
  subst hp
  intro T P
  obtain ⟨vm0, k0, locs, hWf, X, eT, hx, hZ, hown, hS, hk, hEL, hC, hN, hO⟩ := P
  obtain ⟨T', X', e', st'⟩ := instY X hx hZ hown w eT I (g := mkF m pc ls (.ref a :: st)) rfl rfl hd
  obtain ⟨t, o, h1, h2⟩ := k T' ⟨vm0, k0, locs, hWf, X', e', hx, hZ, hown, hS, hk, hEL, hC, hN, hO⟩
  exact ⟨t, o, st' _ h1, h2⟩
theorem go_instNo {a : Addr} {K C : String} {index : Nat} (w : (Jvm.Cond.classLink own index K).before a0 Z = true) (E : Exa Z h a C) (N0 : ∃ c t, Z.vm.findClass C = some c ∧ Z.vm.findClass K = some t ∧ Z.vm.assignable c t = false) (hd : decode c.code pc = .ok (.instanceof index, 3)) (hp : pc + 3 = pc') (k : Go W EL Z a0 own p l e R s m args below meth c F h cells slots (mkF m pc' ls (.int 0 :: st))) : Go W EL Z a0 own p l e R s m args below meth c F h cells slots (mkF m pc ls (.ref a :: st)) := by
  subst hp
  intro T P
  obtain ⟨vm0, k0, locs, hWf, X, eT, hx, hZ, hown, hS, hk, hEL, hC, hN, hO⟩ := P
  obtain ⟨T', X', e', st'⟩ := instNo X hx hZ hown w eT E N0 (g := mkF m pc ls (.ref a :: st)) rfl rfl hd
  obtain ⟨t, o, h1, h2⟩ := k T' ⟨vm0, k0, locs, hWf, X', e', hx, hZ, hown, hS, hk, hEL, hC, hN, hO⟩
  exact ⟨t, o, st' _ h1, h2⟩
theorem go_instNull {index : Nat} (hd : decode c.code pc = .ok (.instanceof index, 3)) (hp : pc + 3 = pc') (k : Go W EL Z a0 own p l e R s m args below meth c F h cells slots (mkF m pc' ls (.int 0 :: st))) : Go W EL Z a0 own p l e R s m args below meth c F h cells slots (mkF m pc ls (.null :: st)) := by
  subst hp
  intro T P
  obtain ⟨t, o, h1, h2⟩ := k T P
  obtain ⟨vm0, k0, locs, hWf, X, eT, hx, hZ, hown, hS, hk, hEL, hC, hN, hO⟩ := P
  exact ⟨t, o, X.instanceofNull hx (g := mkF m pc ls (.null :: st)) rfl rfl hd _ h1, h2⟩
theorem go_ldcI {v : Int32} {index : Nat} (w : (Jvm.Cond.constant own index v).before a0 Z = true) (hd : decode c.code pc = .ok (.ldc index, 2)) (hp : pc + 2 = pc') (k : Go W EL Z a0 own p l e R s m args below meth c F h cells slots (mkF m pc' ls (.int v :: st))) : Go W EL Z a0 own p l e R s m args below meth c F h cells slots (mkF m pc ls st) := by
  subst hp
  intro T P
  obtain ⟨t, o, h1, h2⟩ := k T P
  obtain ⟨vm0, k0, locs, hWf, X, eT, hx, hZ, hown, hS, hk, hEL, hC, hN, hO⟩ := P
  exact ⟨t, o, X.ldcInt hx hown (mvT hZ w) (g := mkF m pc ls st) rfl hd _ h1, h2⟩
theorem go_ldcJ {v : Int64} {index : Nat} (w : (Jvm.Cond.constantLong own index v).before a0 Z = true) (hd : decode c.code pc = .ok (.ldc2_w index, 3)) (hp : pc + 3 = pc') (k : Go W EL Z a0 own p l e R s m args below meth c F h cells slots (mkF m pc' ls (.long v :: st))) : Go W EL Z a0 own p l e R s m args below meth c F h cells slots (mkF m pc ls st) := by
  subst hp
  intro T P
  obtain ⟨t, o, h1, h2⟩ := k T P
  obtain ⟨vm0, k0, locs, hWf, X, eT, hx, hZ, hown, hS, hk, hEL, hC, hN, hO⟩ := P
  exact ⟨t, o, X.ldc2Long hx hown (mvT hZ w) (g := mkF m pc ls st) rfl hd _ h1, h2⟩
theorem go_ldcS {text : String} {index n : Nat} (hWt : W = true) (w : (Jvm.Cond.stringLink own index text).before a0 Z = true) (wS : ∀ a ∈ Bundle.stringAtoms, a.before a0 Z = true) (hn : 4 * text.toList.length ≤ n) (hbig : n ≤ 536870912) (hd : decode c.code pc = .ok (.ldc index, 2)) (hp : pc + 2 = pc') (hcl : cells + 2 = cells') (hsl : slots + (n + 4) = slots') (hc : cells' ≤ R.cells) (hl : slots' ≤ R.slots)
    (k : ∀ (h' : Heap) (a : Addr), Ext h h' → Go W EL Z a0 own p l e R s m args below meth c F h' cells' slots' (mkF m pc' ls (.ref a :: st))) : Go W EL Z a0 own p l e R s m args below meth c F h cells slots (mkF m pc ls st) := by
  subst hp hcl hsl hWt
  intro T P
  obtain ⟨vm0, k0, locs, hWf, X, eT, hx, hZ, hown, hS, hk, hEL, hC, hN, hO⟩ := P
  obtain ⟨a, T', h', k1, X', e', E', hS', hk', hZ', hown', hC', -, st'⟩ := ldcOH X hx hZ hown w wS eT hS hk hEL hC.1 (g := mkF m pc ls st) rfl hd hn hbig hc hl
  obtain ⟨t, o, h1, h2⟩ := k h' a E' T' ⟨T'.vm, k1, _, (fun q => nomatch q), X', e', hx, hZ', hown', hS', hk', hEL, hC.trans hC', hN, hO.ext E'⟩
  exact ⟨t, o, st' _ h1, h2⟩
theorem go_ldcH {text : String} {index n : Nat} {vs : List Value} {z : Int32} (hWt : W = true) (hmem : (own, index) ∈ EL) (w : (Jvm.Cond.stringLink own index text).before a0 Z = true) (wS : ∀ a ∈ Bundle.stringAtoms, a.before a0 Z = true) (ht : (∀ c ∈ text.toList, c.toNat < 256) ∧ text.toList.map (fun c => Value.int (Jvm.Lit.byteI c.toNat.toUInt16)) = vs) (hz : ¬ z < 0) (hlz : z.toNatClampNeg = vs.length) (hn : 4 * text.toList.length ≤ n) (hbig : n ≤ 536870912) (hd : decode c.code pc = .ok (.ldc index, 2)) (hp : pc + 2 = pc') (hcl : cells + 2 = cells') (hsl : slots + (n + 4) = slots') (hc : cells' ≤ R.cells) (hl : slots' ≤ R.slots)
    (k : ∀ (h' : Heap) (a b : Addr) (kb : ClassId), Ext h h' → Exa Z h' a "java/lang/String" → Fld Z h' a "java/lang/String" "coder" "B" (.int 0) → Fld Z h' a "java/lang/String" "value" "[B" (.ref b) → Arv Z h' b kb .byte z vs (.int 0) → Go W EL Z a0 own p l e R s m args below meth c F h' cells' slots' (mkF m pc' ls (.ref a :: st))) : Go W EL Z a0 own p l e R s m args below meth c F h cells slots (mkF m pc ls st) := by
  subst hp hcl hsl hWt
  intro T P
  obtain ⟨vm0, k0, locs, hWf, X, eT, hx, hZ, hown, hS, hk, hEL, hC, hN, hO⟩ := P
  obtain ⟨a, T', h', k1, b, kb, X', e', E', hS', hk', hZ', hown', q1, q2, q3, q4, -, -, hC', -, -, st'⟩ := ldcCH X hx hZ hown w wS eT hS hk hEL hmem hC.1 ht hz hlz (g := mkF m pc ls st) rfl hd hn hbig hc hl
  obtain ⟨t, o, h1, h2⟩ := k h' a b kb E' q1 q2 q3 q4 T' ⟨T'.vm, k1, _, (fun q => nomatch q), X', e', hx, hZ', hown', hS', hk', hEL, hC.trans hC', hN, hO.ext E'⟩
  exact ⟨t, o, st' _ h1, h2⟩
theorem go_initO {a : Addr} {idx Wd : Nat} (w1 : (Jvm.Cond.methodLink own idx Lib.objectInit).before a0 Z = true) (w2 : (Jvm.Cond.instanceMethod Lib.objectInit).before a0 Z = true) (w3 : (Jvm.Cond.code Lib.objectInit ⟨#[0xb1]⟩ 1 none).before a0 Z = true) (hsize : ls.size = c.maxLocals) (hW : 2 * 0 + (st.map fun v => v.category).sum ≤ Wd) (hf : 1 ≤ R.frames) (hl : Wd + 12 ≤ R.locals) (hd : decode c.code pc = .ok (.invokespecial idx, 3)) (hp : pc + 3 = pc') (k : Go W EL Z a0 own p l e R s m args below meth c F h cells slots (mkF m pc' ls st)) : Go W EL Z a0 own p l e R s m args below meth c F h cells slots (mkF m pc ls (.ref a :: st)) := by
  subst hp
  intro T P
  obtain ⟨vm0, k0, locs, hWf, X, eT, hx, hZ, hown, hS, hk, hEL, hC, hN, hO⟩ := P
  obtain ⟨T', X', e', st'⟩ := initO X hx hZ hown w1 w2 w3 eT (g := mkF m pc ls (.ref a :: st)) rfl hsize rfl hd hf (W := Wd) hW hl
  obtain ⟨t, o, h1, h2⟩ := k T' ⟨vm0, k0, locs, hWf, X', e', hx, hZ, hown, hS, hk, hEL, hC, hN, hO⟩
  exact ⟨t, o, st' _ h1, h2⟩
-- calls: what a payment gives back as a point of the caller's walk
theorem pt_back {vm0 vm₁ : Vm} {k0 : Nat} {locs L : List Loc} {T : State} {B : Pt} {ws : List Addr} {dc ds : Nat} (hWf : W = false → vm0 = s.vm) (eT : T.heap = h) (hx : p.tables.exec = Jvm.exec) (hZ : Z.Warmed39 vm0) (hown : vm0.findClass own = some m.cls) (hS : s.Since vm0 k0) (hk : k0 ≤ h.size) (hEL : EW Z a0 EL) (hC : CHr Z EL s.vm s.heap vm0 h) (hN : Fr Z.heap.size locs) (hO : Old Z Z.heap.size h)
    (X : Stand p l e R (s.setVm vm0) m args below meth c B.U B.locs B.cells B.slots) (hL : Fr Z.heap.size L) (K : Keep h B.U.heap ws) (b1 : B.locs = locs ++ L) (b2 : B.cells = cells + dc) (b3 : B.slots = slots + ds) (hws : ∀ x ∈ ws, Z.heap.size ≤ x) (hsf : ∀ vm, Z.vm.Alike vm → ∀ x ∈ ws, Safe Z EL vm h x) (hcl : cells + dc = cells') (hsl : slots + ds = slots') :
    PT W EL Z a0 own p l e R s m args below meth c B.U B.U.heap cells' slots' := by
  subst hcl hsl
  rw [b1, b2, b3] at X
  exact ⟨vm0, k0, _, hWf, X, rfl, hx, hZ, hown, hS, Nat.le_trans hk K.1, hEL, hC.trans (CHr.keep K (hsf _ hZ.alike) hC.1), hN.app hL, hO.keep K hws⟩
theorem pt_backS {vm0 : Vm} {k0 : Nat} {locs L : List Loc} {B : Pt} {ws : List Addr} {dc ds : Nat} (hWt : W = true) (hx : p.tables.exec = Jvm.exec) (hZ : Z.Warmed39 vm0) (hown : vm0.findClass own = some m.cls) (hS : s.Since vm0 k0) (hk : k0 ≤ h.size) (hEL : EW Z a0 EL) (hC : CHr Z EL s.vm s.heap vm0 h) (hN : Fr Z.heap.size locs) (hO : Old Z Z.heap.size h)
    (X : Stand p l e R (s.setVm B.U.vm) m args below meth c B.U B.locs B.cells B.slots) (S2 : (s.setVm vm0).Since B.U.vm B.U.heap.size) (hL : Fr Z.heap.size L) (K : Keep h B.U.heap ws) (b1 : B.locs = locs ++ L) (b2 : B.cells = cells + dc) (b3 : B.slots = slots + ds) (b4 : CHr Z EL vm0 h B.U.vm B.U.heap) (hws : ∀ x ∈ ws, Z.heap.size ≤ x) (hcl : cells + dc = cells') (hsl : slots + ds = slots') :
    PT W EL Z a0 own p l e R s m args below meth c B.U B.U.heap cells' slots' := by
  subst hcl hsl hWt
  rw [b1, b2, b3] at X
  have hZ' : Z.Warmed39 B.U.vm := State.Warmed39.trans (t := s.setVm vm0) (s := Z) hZ S2.1
  have hown' : B.U.vm.findClass own = some m.cls := by
    rw [S2.1.alike.findClass]
    exact hown
  exact ⟨B.U.vm, B.U.heap.size, _, (fun q => nomatch q), X, rfl, hx, hZ', hown', hS.trans S2 (Nat.le_trans hk K.1), Nat.le_refl _, hEL, hC.trans b4, hN.app hL, hO.keep K hws⟩
theorem callS0 {index Wd dc ds : Nat} {y : MethodName} {bytes : ByteArray} {maxL : Nat} {ret : Option FieldType} {argsL rest : List Value} {ws : List Addr} {Q : Option Value → Heap → Prop} {ps : List FieldType} {r : Option FieldType}
    (hK : Pay l R p e below Z y Wd argsL.toArray h dc ds ws Q) (w1 : (Jvm.Cond.methodLink own index y).before a0 Z = true) (w2 : (Jvm.Cond.static y).before a0 Z = true) (w3 : (Jvm.Cond.initialized y.cls).before a0 Z = true) (w4 : (Jvm.Cond.code y bytes maxL ret).before a0 Z = true) (hy : y.cls ≠ "java/lang/invoke/MethodHandle" ∧ y.cls ≠ "java/lang/invoke/VarHandle")
    (hpd : parseMethodDescriptor y.desc = some ⟨ps, r⟩) (hln : argsL.length = ps.length) (hst : st = argsL.reverse ++ rest) (hsize : ls.size = c.maxLocals) (hW : 2 * 0 + (rest.map fun v => v.category).sum ≤ Wd) (hcl : cells + dc = cells') (hsl : slots + ds = slots') (hc : cells' ≤ R.cells) (hs : slots' ≤ R.slots) (hws : ∀ x ∈ ws, Z.heap.size ≤ x) (hsf : ∀ vm, Z.vm.Alike vm → ∀ x ∈ ws, Safe Z EL vm h x)
    (hd : decode c.code pc = .ok (.invokestatic index, 3)) (k : ∀ (v : Option Value) (h' : Heap), Q v h' → Keep h h' ws → Go W EL Z a0 own p l e R s m args below meth c F h' cells' slots' (mkF m (pc + 3) ls (v.toList ++ rest))) : Go W EL Z a0 own p l e R s m args below meth c F h cells slots (mkF m pc ls st) := by
  intro T P
  obtain ⟨vm0, k0, locs, hWf, X, eT, hx, hZ, hown, hS, hk, hEL, hC, hN, hO⟩ := P
  obtain ⟨v, vm₁, B, -, X', ⟨L, ⟨q1, q2, q3⟩, b1, b2, b3⟩, st'⟩ := Jvm.LawKit.callS X hx hown (mvT hZ w1) (mvT hZ w2) (mvT hZ w3) (mvT hZ w4) hy (hK _ _ hZ) (g := mkF m pc ls st) rfl hsize (lenOf hpd hln) hst hW hd (fun _ _ => ⟨rfl, eT, by rw [hcl]; exact hc, by rw [hsl]; exact hs⟩)
  obtain ⟨t, o, h1, h2⟩ := k v _ q1 q3 B.U (pt_back (vm₁ := vm₁) hWf eT hx hZ hown hS hk hEL hC hN hO X' q2 q3 b1 b2 b3 hws hsf hcl hsl)
  exact ⟨t, o, st' _ h1, h2⟩
theorem callSW0 {index Wd dc ds : Nat} {y : MethodName} {bytes : ByteArray} {maxL : Nat} {ret : Option FieldType} {argsL rest : List Value} {ws : List Addr} {Q : Option Value → Heap → Prop} {ps : List FieldType} {r : Option FieldType} (hWt : W = true)
    (hK : PayW EL l R p e below Z y Wd argsL.toArray h dc ds ws Q) (w1 : (Jvm.Cond.methodLink own index y).before a0 Z = true) (w2 : (Jvm.Cond.static y).before a0 Z = true) (w3 : (Jvm.Cond.initialized y.cls).before a0 Z = true) (w4 : (Jvm.Cond.code y bytes maxL ret).before a0 Z = true) (hy : y.cls ≠ "java/lang/invoke/MethodHandle" ∧ y.cls ≠ "java/lang/invoke/VarHandle")
    (hpd : parseMethodDescriptor y.desc = some ⟨ps, r⟩) (hln : argsL.length = ps.length) (hst : st = argsL.reverse ++ rest) (hsize : ls.size = c.maxLocals) (hW : 2 * 0 + (rest.map fun v => v.category).sum ≤ Wd) (hcl : cells + dc = cells') (hsl : slots + ds = slots') (hc : cells' ≤ R.cells) (hs : slots' ≤ R.slots) (hws : ∀ x ∈ ws, Z.heap.size ≤ x)
    (hd : decode c.code pc = .ok (.invokestatic index, 3)) (k : ∀ (v : Option Value) (h' : Heap), Q v h' → Keep h h' ws → Go W EL Z a0 own p l e R s m args below meth c F h' cells' slots' (mkF m (pc + 3) ls (v.toList ++ rest))) : Go W EL Z a0 own p l e R s m args below meth c F h cells slots (mkF m pc ls st) := by
  intro T P
  obtain ⟨vm0, k0, locs, hWf, X, eT, hx, hZ, hown, hS, hk, hEL, hC, hN, hO⟩ := P
  obtain ⟨v, vm₁, B, -, X', S2, -, ⟨L, ⟨q1, q2, q3⟩, b1, b2, b3, b4⟩, st'⟩ := callSS X hx hown (mvT hZ w1) (mvT hZ w2) (mvT hZ w3) (mvT hZ w4) hy (hK s vm0 _ hZ hC.1) (g := mkF m pc ls st) rfl hsize (lenOf hpd hln) hst hW hd (fun _ _ => ⟨rfl, eT, by rw [hcl]; exact hc, by rw [hsl]; exact hs⟩)
  obtain ⟨t, o, h1, h2⟩ := k v _ q1 q3 B.U (pt_backS hWt hx hZ hown hS hk hEL hC hN hO X' S2 q2 q3 b1 b2 b3 b4 hws hcl hsl)
  exact ⟨t, o, st'.trans h1, h2⟩
theorem callI0 {index Wd dc ds : Nat} {y : MethodName} {bytes : ByteArray} {maxL : Nat} {a : Addr} {argsL rest : List Value} {ws : List Addr} {Q : Option Value → Heap → Prop} {ps : List FieldType} {r : Option FieldType}
    (hK : Pay l R p e below Z y Wd (.ref a :: argsL).toArray h dc ds ws Q) (hy1 : y.name = "<init>") (w1 : (Jvm.Cond.methodLink own index y).before a0 Z = true) (w2 : (Jvm.Cond.instanceMethod y).before a0 Z = true) (w4 : (Jvm.Cond.code y bytes maxL none).before a0 Z = true) (hy : y.cls ≠ "java/lang/invoke/MethodHandle" ∧ y.cls ≠ "java/lang/invoke/VarHandle")
    (hpd : parseMethodDescriptor y.desc = some ⟨ps, r⟩) (hln : argsL.length = ps.length) (hst : st = argsL.reverse ++ .ref a :: rest) (hsize : ls.size = c.maxLocals) (hW : 2 * 0 + (rest.map fun v => v.category).sum ≤ Wd) (hcl : cells + dc = cells') (hsl : slots + ds = slots') (hc : cells' ≤ R.cells) (hs : slots' ≤ R.slots) (hws : ∀ x ∈ ws, Z.heap.size ≤ x) (hsf : ∀ vm, Z.vm.Alike vm → ∀ x ∈ ws, Safe Z EL vm h x)
    (hd : decode c.code pc = .ok (.invokespecial index, 3)) (k : ∀ (v : Option Value) (h' : Heap), Q v h' → Keep h h' ws → Go W EL Z a0 own p l e R s m args below meth c F h' cells' slots' (mkF m (pc + 3) ls (v.toList ++ rest))) : Go W EL Z a0 own p l e R s m args below meth c F h cells slots (mkF m pc ls st) := by
  intro T P
  obtain ⟨vm0, k0, locs, hWf, X, eT, hx, hZ, hown, hS, hk, hEL, hC, hN, hO⟩ := P
  obtain ⟨v, vm₁, B, -, X', ⟨L, ⟨q1, q2, q3⟩, b1, b2, b3⟩, st'⟩ := X.specialBack hx hy1 hown (mvT hZ w1) (mvT hZ w2) (mvT hZ w4) hy (hK _ _ hZ) (g := mkF m pc ls st) rfl hsize (Steps.refl _) (lenOf hpd hln) hst hW hd (fun _ _ => ⟨rfl, eT, by rw [hcl]; exact hc, by rw [hsl]; exact hs⟩)
  obtain ⟨t, o, h1, h2⟩ := k v _ q1 q3 B.U (pt_back (vm₁ := vm₁) hWf eT hx hZ hown hS hk hEL hC hN hO X' q2 q3 b1 b2 b3 hws hsf hcl hsl)
  exact ⟨t, o, st'.trans h1, h2⟩
theorem callIW0 {index Wd dc ds : Nat} {y : MethodName} {bytes : ByteArray} {maxL : Nat} {a : Addr} {argsL rest : List Value} {ws : List Addr} {Q : Option Value → Heap → Prop} {ps : List FieldType} {r : Option FieldType} (hWt : W = true)
    (hK : PayW EL l R p e below Z y Wd (.ref a :: argsL).toArray h dc ds ws Q) (hy1 : y.name = "<init>") (w1 : (Jvm.Cond.methodLink own index y).before a0 Z = true) (w2 : (Jvm.Cond.instanceMethod y).before a0 Z = true) (w4 : (Jvm.Cond.code y bytes maxL none).before a0 Z = true) (hy : y.cls ≠ "java/lang/invoke/MethodHandle" ∧ y.cls ≠ "java/lang/invoke/VarHandle")
    (hpd : parseMethodDescriptor y.desc = some ⟨ps, r⟩) (hln : argsL.length = ps.length) (hst : st = argsL.reverse ++ .ref a :: rest) (hsize : ls.size = c.maxLocals) (hW : 2 * 0 + (rest.map fun v => v.category).sum ≤ Wd) (hcl : cells + dc = cells') (hsl : slots + ds = slots') (hc : cells' ≤ R.cells) (hs : slots' ≤ R.slots) (hws : ∀ x ∈ ws, Z.heap.size ≤ x)
    (hd : decode c.code pc = .ok (.invokespecial index, 3)) (k : ∀ (v : Option Value) (h' : Heap), Q v h' → Keep h h' ws → Go W EL Z a0 own p l e R s m args below meth c F h' cells' slots' (mkF m (pc + 3) ls (v.toList ++ rest))) : Go W EL Z a0 own p l e R s m args below meth c F h cells slots (mkF m pc ls st) := by
  intro T P
  obtain ⟨vm0, k0, locs, hWf, X, eT, hx, hZ, hown, hS, hk, hEL, hC, hN, hO⟩ := P
  obtain ⟨v, vm₁, B, -, X', S2, -, ⟨L, ⟨q1, q2, q3⟩, b1, b2, b3, b4⟩, st'⟩ := X.specialBackS hx hy1 hown (mvT hZ w1) (mvT hZ w2) (mvT hZ w4) hy (hK s vm0 _ hZ hC.1) (g := mkF m pc ls st) rfl hsize (Steps.refl _) (lenOf hpd hln) hst hW hd (fun _ _ => ⟨rfl, eT, by rw [hcl]; exact hc, by rw [hsl]; exact hs⟩)
  obtain ⟨t, o, h1, h2⟩ := k v _ q1 q3 B.U (pt_backS hWt hx hZ hown hS hk hEL hC hN hO X' S2 q2 q3 b1 b2 b3 b4 hws hcl hsl)
  exact ⟨t, o, st'.trans h1, h2⟩
theorem callV0 {index Wd dc ds : Nat} {y z : MethodName} {C C' : String} {a : Addr} {argsL rest : List Value} {ws : List Addr} {Q : Option Value → Heap → Prop} {ps : List FieldType} {r : Option FieldType}
    (hK : Pay l R p e below Z z Wd (.ref a :: argsL).toArray h dc ds ws Q) (E : Exa Z h a C) (w1 : (Jvm.Cond.methodLink own index y).before a0 Z = true) (w2 : (Jvm.Cond.declares y).before a0 Z = true) (w3 : (Jvm.Cond.selects C' y y).before a0 Z = true) (w5 : (Jvm.Cond.selects C y z).before a0 Z = true) (w4 : (Jvm.Cond.instanceMethod z).before a0 Z = true) (hy : y.cls ≠ "java/lang/invoke/MethodHandle" ∧ y.cls ≠ "java/lang/invoke/VarHandle")
    (hpd : parseMethodDescriptor y.desc = some ⟨ps, r⟩) (hln : argsL.length = ps.length) (hst : st = argsL.reverse ++ .ref a :: rest) (hsize : ls.size = c.maxLocals) (hW : 2 * 0 + (rest.map fun v => v.category).sum ≤ Wd) (hcl : cells + dc = cells') (hsl : slots + ds = slots') (hc : cells' ≤ R.cells) (hs : slots' ≤ R.slots) (hws : ∀ x ∈ ws, Z.heap.size ≤ x) (hsf : ∀ vm, Z.vm.Alike vm → ∀ x ∈ ws, Safe Z EL vm h x)
    (hd : decode c.code pc = .ok (.invokevirtual index, 3)) (k : ∀ (v : Option Value) (h' : Heap), Q v h' → Keep h h' ws → Go W EL Z a0 own p l e R s m args below meth c F h' cells' slots' (mkF m (pc + 3) ls (v.toList ++ rest))) : Go W EL Z a0 own p l e R s m args below meth c F h cells slots (mkF m pc ls st) := by
  intro T P
  obtain ⟨vm0, k0, locs, hWf, X, eT, hx, hZ, hown, hS, hk, hEL, hC, hN, hO⟩ := P
  obtain ⟨cB, kB, i1, i2, i3⟩ := isOf (T := T) (s := s.setVm vm0) hZ eT E
  obtain ⟨v, vm₁, B, -, X', ⟨L, ⟨q1, q2, q3⟩, b1, b2, b3⟩, st'⟩ := X.virtualBack hx (y := y) (z := z) hown (mvT hZ w1) (mvT hZ w2) (notFace_of_selects (args := #[]) (mvT hZ w3)) (mvT hZ w5) (mvT hZ w4) hy (hK _ _ hZ) i1 i3 (g := mkF m pc ls st) rfl hsize (Steps.refl _) (lenOf hpd hln) hst hW hd (fun _ _ => ⟨rfl, eT, by rw [hcl]; exact hc, by rw [hsl]; exact hs⟩)
  obtain ⟨t, o, h1, h2⟩ := k v _ q1 q3 B.U (pt_back (vm₁ := vm₁) hWf eT hx hZ hown hS hk hEL hC hN hO X' q2 q3 b1 b2 b3 hws hsf hcl hsl)
  exact ⟨t, o, st'.trans h1, h2⟩
theorem callVW0 {index Wd dc ds : Nat} {y z : MethodName} {C C' : String} {a : Addr} {argsL rest : List Value} {ws : List Addr} {Q : Option Value → Heap → Prop} {ps : List FieldType} {r : Option FieldType} (hWt : W = true)
    (hK : PayW EL l R p e below Z z Wd (.ref a :: argsL).toArray h dc ds ws Q) (E : Exa Z h a C) (w1 : (Jvm.Cond.methodLink own index y).before a0 Z = true) (w2 : (Jvm.Cond.declares y).before a0 Z = true) (w3 : (Jvm.Cond.selects C' y y).before a0 Z = true) (w5 : (Jvm.Cond.selects C y z).before a0 Z = true) (w4 : (Jvm.Cond.instanceMethod z).before a0 Z = true) (hy : y.cls ≠ "java/lang/invoke/MethodHandle" ∧ y.cls ≠ "java/lang/invoke/VarHandle")
    (hpd : parseMethodDescriptor y.desc = some ⟨ps, r⟩) (hln : argsL.length = ps.length) (hst : st = argsL.reverse ++ .ref a :: rest) (hsize : ls.size = c.maxLocals) (hW : 2 * 0 + (rest.map fun v => v.category).sum ≤ Wd) (hcl : cells + dc = cells') (hsl : slots + ds = slots') (hc : cells' ≤ R.cells) (hs : slots' ≤ R.slots) (hws : ∀ x ∈ ws, Z.heap.size ≤ x)
    (hd : decode c.code pc = .ok (.invokevirtual index, 3)) (k : ∀ (v : Option Value) (h' : Heap), Q v h' → Keep h h' ws → Go W EL Z a0 own p l e R s m args below meth c F h' cells' slots' (mkF m (pc + 3) ls (v.toList ++ rest))) : Go W EL Z a0 own p l e R s m args below meth c F h cells slots (mkF m pc ls st) := by
  intro T P
  obtain ⟨vm0, k0, locs, hWf, X, eT, hx, hZ, hown, hS, hk, hEL, hC, hN, hO⟩ := P
  obtain ⟨cB, kB, i1, i2, i3⟩ := isOf (T := T) (s := s.setVm vm0) hZ eT E
  obtain ⟨v, vm₁, B, -, X', S2, -, ⟨L, ⟨q1, q2, q3⟩, b1, b2, b3, b4⟩, st'⟩ := X.virtualBackS hx (y := y) (z := z) hown (mvT hZ w1) (mvT hZ w2) (notFace_of_selects (args := #[]) (mvT hZ w3)) (mvT hZ w5) (mvT hZ w4) hy (hK s vm0 _ hZ hC.1) i1 i3 (g := mkF m pc ls st) rfl hsize (Steps.refl _) (lenOf hpd hln) hst hW hd (fun _ _ => ⟨rfl, eT, by rw [hcl]; exact hc, by rw [hsl]; exact hs⟩)
  obtain ⟨t, o, h1, h2⟩ := k v _ q1 q3 B.U (pt_backS hWt hx hZ hown hS hk hEL hC hN hO X' S2 q2 q3 b1 b2 b3 b4 hws hcl hsl)
  exact ⟨t, o, st'.trans h1, h2⟩
theorem callP0 {index Wd dc ds : Nat} {y : MethodName} {bytes : ByteArray} {maxL : Nat} {ret : Option FieldType} {C : String} {a : Addr} {argsL rest : List Value} {ws : List Addr} {Q : Option Value → Heap → Prop} {ps : List FieldType} {r : Option FieldType}
    (hK : Pay l R p e below Z y Wd (.ref a :: argsL).toArray h dc ds ws Q) (E : Exa Z h a C) (w1 : (Jvm.Cond.methodLink own index y).before a0 Z = true) (w2 : (Jvm.Cond.instanceMethod y).before a0 Z = true) (w3 : (Jvm.Cond.selects y.cls y y).before a0 Z = true) (w5 : (Jvm.Cond.privateMethod y).before a0 Z = true) (w4 : (Jvm.Cond.code y bytes maxL ret).before a0 Z = true) (hy : y.cls ≠ "java/lang/invoke/MethodHandle" ∧ y.cls ≠ "java/lang/invoke/VarHandle")
    (hpd : parseMethodDescriptor y.desc = some ⟨ps, r⟩) (hln : argsL.length = ps.length) (hst : st = argsL.reverse ++ .ref a :: rest) (hsize : ls.size = c.maxLocals) (hW : 2 * 0 + (rest.map fun v => v.category).sum ≤ Wd) (hcl : cells + dc = cells') (hsl : slots + ds = slots') (hc : cells' ≤ R.cells) (hs : slots' ≤ R.slots) (hws : ∀ x ∈ ws, Z.heap.size ≤ x) (hsf : ∀ vm, Z.vm.Alike vm → ∀ x ∈ ws, Safe Z EL vm h x)
    (hd : decode c.code pc = .ok (.invokevirtual index, 3)) (k : ∀ (v : Option Value) (h' : Heap), Q v h' → Keep h h' ws → Go W EL Z a0 own p l e R s m args below meth c F h' cells' slots' (mkF m (pc + 3) ls (v.toList ++ rest))) : Go W EL Z a0 own p l e R s m args below meth c F h cells slots (mkF m pc ls st) := by
  intro T P
  obtain ⟨vm0, k0, locs, hWf, X, eT, hx, hZ, hown, hS, hk, hEL, hC, hN, hO⟩ := P
  obtain ⟨cl, i1, i2⟩ := E.cell
  obtain ⟨v, vm₁, B, -, X', ⟨L, ⟨q1, q2, q3⟩, b1, b2, b3⟩, st'⟩ := X.privateBack hx (y := y) hown (mvT hZ w1) (mvT hZ w2) (mvT hZ w3) (Cond.privateMethod_at (args := #[]) (mvP hZ w5)) (mvT hZ w4) hy (hK _ _ hZ) (g := mkF m pc ls st) rfl hsize (Steps.refl _) (by rw [eT]; exact i1) i2 (lenOf hpd hln) hst hW hd (fun _ _ => ⟨rfl, eT, by rw [hcl]; exact hc, by rw [hsl]; exact hs⟩)
  obtain ⟨t, o, h1, h2⟩ := k v _ q1 q3 B.U (pt_back (vm₁ := vm₁) hWf eT hx hZ hown hS hk hEL hC hN hO X' q2 q3 b1 b2 b3 hws hsf hcl hsl)
  exact ⟨t, o, st'.trans h1, h2⟩
theorem k_v {ws : List Addr} {QV : Value → Heap → Prop} {rest : List Value} (hp : pc + 3 = pc') (k : ∀ (x : Value) (h' : Heap), QV x h' → Keep h h' ws → Go W EL Z a0 own p l e R s m args below meth c F h' cells' slots' (mkF m pc' ls (x :: rest))) : ∀ (v : Option Value) (h' : Heap), rvl QV v h' → Keep h h' ws → Go W EL Z a0 own p l e R s m args below meth c F h' cells' slots' (mkF m (pc + 3) ls (v.toList ++ rest)) := by
  subst hp
  rintro _ h' ⟨x, rfl, q⟩ K
  exact k x h' q K
theorem k_n {ws : List Addr} {QN : Heap → Prop} {rest : List Value} (hp : pc + 3 = pc') (k : ∀ (h' : Heap), QN h' → Keep h h' ws → Go W EL Z a0 own p l e R s m args below meth c F h' cells' slots' (mkF m pc' ls rest)) : ∀ (v : Option Value) (h' : Heap), rno QN v h' → Keep h h' ws → Go W EL Z a0 own p l e R s m args below meth c F h' cells' slots' (mkF m (pc + 3) ls (v.toList ++ rest)) := by
  subst hp
  rintro _ h' ⟨rfl, q⟩ K
  exact k h' q K
-- the end
theorem fin_of {vm0 : Vm} {k0 : Nat} {locs : List Loc} {T : State} {h0 : Heap} {ws : List Addr} {Q : Option Value → Heap → Prop} {dc ds : Nat} {v : Option Value} (hlk : meth.locks = false) (hWf : W = false → vm0 = s.vm) (X : Stand p l e R (s.setVm vm0) m args below meth c T locs cells slots) (eT : T.heap = h) (hZ : Z.Warmed39 vm0) (hS : s.Since vm0 k0) (hk : k0 ≤ h.size) (hEL : EW Z a0 EL) (hC : CHr Z EL s.vm s.heap vm0 h) (hN : Fr Z.heap.size locs) (hv : meth.sig.returnType = none → v = none) (hq : Q v h) (K : Keep h0 h ws) (hc : cells ≤ dc) (hs : slots ≤ ds) :
    ∃ fs, (∀ (f : JFrame) (acts : List Action), f.method = m → f.locked = none → f.entered = [] → (doReturn e (T.setTop f) acts v).1 = T.setFrames fs) ∧ (T.setFrames fs).status = .running ∧ Ended (T.setFrames fs) below (.returned v) ∧ Fend W EL Z s h0 ws Q dc ds (.returned v) (T.setFrames fs) := by
  cases W
  · obtain rfl := hWf rfl
    obtain ⟨fs, hr, hrun, hended, hW, hsame⟩ := X.leave (v := v) hv hlk
    exact ⟨fs, hr, hrun, hended, v, locs, rfl, ⟨by rw [show (T.setFrames fs).heap = h from eT]; exact hq, hN, by rw [show (T.setFrames fs).heap = h from eT]; exact K⟩, (fun q => nomatch q), fun _ => ⟨⟨v, rfl⟩, hW, hsame.mono hc hs⟩⟩
  · obtain ⟨fs, hr, hrun, hended, q1, q2, q3, q4⟩ := X.leaveW hS (by rw [eT]; exact hk) (v := v) hv hlk
    exact ⟨fs, hr, hrun, hended, v, locs, rfl, ⟨by rw [show (T.setFrames fs).heap = h from eT]; exact hq, hN, by rw [show (T.setFrames fs).heap = h from eT]; exact K⟩, fun _ => ⟨by rw [show (T.setFrames fs).heap = h from eT]; exact hC.trans (show CHr Z EL vm0 h T.vm h from CHv.at X hZ hEL hC.1), q1, q2, q3, q4.mono hc hs⟩, (fun q => nomatch q)⟩
theorem go_areturn {v : Value} {t : FieldType} {h0 : Heap} {ws : List Addr} {Q : Option Value → Heap → Prop} {dc ds : Nat} (hret : meth.sig.returnType = some t) (hlk : meth.locks = false) (ht : t.isReference = true) (hv : v.isRef = true) (hd : decode c.code pc = .ok (.areturn, 1)) (hc : cells ≤ dc) (hs : slots ≤ ds) (hq : Q (some v) h) (K : Keep h0 h ws) :
    Go W EL Z a0 own p l e R s m args below meth c (Fend W EL Z s h0 ws Q dc ds) h cells slots (mkF m pc ls [v]) := by
  intro T P
  obtain ⟨vm0, k0, locs, hWf, X, eT, hx, hZ, hown, hS, hk, hEL, hC, hN, hO⟩ := P
  obtain ⟨fs, hr, q1, q2, q3⟩ := fin_of hlk hWf X eT hZ hS hk hEL hC hN (v := some v) (fun q => by rw [hret] at q; cases q) hq K hc hs
  exact ⟨_, _, X.areturnOut hx hv hret ht hd hr, q1, q2, q3⟩
theorem go_return {h0 : Heap} {ws : List Addr} {Q : Option Value → Heap → Prop} {dc ds : Nat} (hret : meth.sig.returnType = none) (hlk : meth.locks = false) (hd : decode c.code pc = .ok (.return_, 1)) (hc : cells ≤ dc) (hs : slots ≤ ds) (hq : Q none h) (K : Keep h0 h ws) :
    Go W EL Z a0 own p l e R s m args below meth c (Fend W EL Z s h0 ws Q dc ds) h cells slots (mkF m pc ls []) := by
  intro T P
  obtain ⟨vm0, k0, locs, hWf, X, eT, hx, hZ, hown, hS, hk, hEL, hC, hN, hO⟩ := P
  obtain ⟨fs, hr, q1, q2, q3⟩ := fin_of hlk hWf X eT hZ hS hk hEL hC hN (v := none) (fun _ => rfl) hq K hc hs
  exact ⟨_, _, X.returnOut hx hret hd hr, q1, q2, q3⟩
theorem go_ireturn {x : Int32} {t : FieldType} {h0 : Heap} {ws : List Addr} {Q : Option Value → Heap → Prop} {dc ds : Nat} (hret : meth.sig.returnType = some t) (hlk : meth.locks = false) (hn : narrow t (.int x) = .int x) (hti : t = .int ∨ t = .boolean ∨ t = .byte ∨ t = .char ∨ t = .short) (hd : decode c.code pc = .ok (.ireturn, 1)) (hc : cells ≤ dc) (hs : slots ≤ ds) (hq : Q (some (.int x)) h) (K : Keep h0 h ws) :
    Go W EL Z a0 own p l e R s m args below meth c (Fend W EL Z s h0 ws Q dc ds) h cells slots (mkF m pc ls [.int x]) := by
  intro T P
  obtain ⟨vm0, k0, locs, hWf, X, eT, hx, hZ, hown, hS, hk, hEL, hC, hN, hO⟩ := P
  obtain ⟨fs, hr, q1, q2, q3⟩ := fin_of hlk hWf X eT hZ hS hk hEL hC hN (v := some (.int x)) (fun q => by rw [hret] at q; cases q) hq K hc hs
  exact ⟨_, _, X.ireturnOut hx hret hn hti hd hr, q1, q2, q3⟩
theorem go_lreturn {x : Int64} {h0 : Heap} {ws : List Addr} {Q : Option Value → Heap → Prop} {dc ds : Nat} (hret : meth.sig.returnType = some .long) (hlk : meth.locks = false) (hd : decode c.code pc = .ok (.lreturn, 1)) (hc : cells ≤ dc) (hs : slots ≤ ds) (hq : Q (some (.long x)) h) (K : Keep h0 h ws) :
    Go W EL Z a0 own p l e R s m args below meth c (Fend W EL Z s h0 ws Q dc ds) h cells slots (mkF m pc ls [.long x]) := by
  intro T P
  obtain ⟨vm0, k0, locs, hWf, X, eT, hx, hZ, hown, hS, hk, hEL, hC, hN, hO⟩ := P
  obtain ⟨fs, hr, q1, q2, q3⟩ := fin_of hlk hWf X eT hZ hS hk hEL hC hN (v := some (.long x)) (fun q => by rw [hret] at q; cases q) hq K hc hs
  exact ⟨_, _, X.lreturnOut hx hret hd hr, q1, q2, q3⟩
theorem nv_obj {v : Value} {C : String} (q : v.isRef = true) : narrow (.object C) v = v := by cases v <;> first | rfl | simp [Value.isRef] at q
theorem fv_obj {v : Value} {C : String} (q : v.isRef = true) : fits (.object C) v = true := by cases v <;> first | rfl | simp [Value.isRef] at q
theorem i2b_i2b (x : Int32) : (x.toInt8.toInt32).toInt8.toInt32 = x.toInt8.toInt32 := by simp
theorem go_cut {α : Type} {P : α → Prop} {gf : α → JFrame} {g0 : JFrame} (k : ∀ q, P q → Go W EL Z a0 own p l e R s m args below meth c F h cells slots (gf q)) (b : (∀ q, P q → Go W EL Z a0 own p l e R s m args below meth c F h cells slots (gf q)) → Go W EL Z a0 own p l e R s m args below meth c F h cells slots (g0)) : Go W EL Z a0 own p l e R s m args below meth c F h cells slots (g0) := b k
theorem go_getSN {v : Value} {O n d host : String} {index : Nat} (w : (Jvm.Cond.fieldLinkNest own index O n d host).before a0 Z = true) (F0 : Sta Z h O n d v) (hd : decode c.code pc = .ok (.getstatic index, 3)) (hp : pc + 3 = pc') (k : Go W EL Z a0 own p l e R s m args below meth c F h cells slots (mkF m pc' ls (v :: st))) : Go W EL Z a0 own p l e R s m args below meth c F h cells slots (mkF m pc ls st) := by
  subst hp
  intro T P
  obtain ⟨vm0, k0, locs, hWf, X, eT, hx, hZ, hown, hS, hk, hEL, hC, hN, hO⟩ := P
  obtain ⟨T', X', e', st'⟩ := getS2 X hx hZ hown (Or.inr w) Via.refl eT F0 (g := mkF m pc ls st) rfl hd
  obtain ⟨t, o, h1, h2⟩ := k T' ⟨vm0, k0, locs, hWf, X', e', hx, hZ, hown, hS, hk, hEL, hC, hN, hO⟩
  exact ⟨t, o, st' _ h1, h2⟩
theorem go_newR {C : String} {index : Nat} {n : Int32} {cap : Nat} {vs : List Value} (w1 : (Jvm.Cond.classLink own index C).before a0 Z = true) (w2 : (Jvm.Cond.arrayOver (.object C)).before a0 Z = true) (hd : decode c.code pc = .ok (.anewarray index, 3)) (hp : pc + 3 = pc') (hn : ¬ n < 0) (hcap : n.toNatClampNeg = cap) (hb : cap * 8 ≤ 536870912) (hvs : List.replicate cap Value.null = vs) (hcl : cells + 1 = cells') (hsl : slots + cap = slots') (hc : cells' ≤ R.cells) (hl : slots' ≤ R.slots)
    (k : ∀ (h' : Heap) (a : Addr) (kA : ClassId), h.size = a → Ext h h' → Arv Z h' a kA (.object C) n vs .null → Ovr Z kA C → Go W EL Z a0 own p l e R s m args below meth c F h' cells' slots' (mkF m pc' ls (.ref a :: st))) : Go W EL Z a0 own p l e R s m args below meth c F h cells slots (mkF m pc ls (.int n :: st)) := by
  subst hp hcl hsl hvs
  intro T P
  obtain ⟨vm0, k0, locs, hWf, X, eT, hx, hZ, hown, hS, hk, hEL, hC, hN, hO⟩ := P
  obtain ⟨T', h', kA, X', e', E', A', O', st'⟩ := newR X hx hZ hown w1 w2 eT (g := mkF m pc ls (.int n :: st)) rfl hd rfl hn (cap := cap) (Nat.le_of_eq hcap) hb hc hl
  have V : Arv Z h' h.size kA (.object C) n (List.replicate cap Value.null) .null := by
    have q : Arv Z h' h.size kA (.object C) n ([] ++ List.replicate cap Value.null) .null := (Arv.new A' hn).pad (pad_rep [] (defaultValue (.object C)) cap)
    simpa using q
  obtain ⟨t, o, h1, h2⟩ := k h' h.size kA rfl E' V O' T' ⟨vm0, k0, _, hWf, X', e', hx, hZ, hown, hS, Nat.le_trans hk E'.1, hEL, hC.trans (CHr.ext E' hC.1), hN, hO.ext E'⟩
  exact ⟨t, o, st' _ h1, h2⟩
theorem go_stR {a y : Addr} {kA : ClassId} {z j : Int32} {vs vs' : List Value} {i : Nat} {K C : String} (A : Arv Z h a kA (.object K) z vs .null) (O0 : Ovr Z kA C) (I : Ins Z h y C true) (ha : Z.heap.size ≤ a) (hj0 : ¬ j < 0) (hjz : j < z) (hji : j.toNatClampNeg = i) (hi : i < vs.length) (hvs : vs.set i (.ref y) = vs') (hd : decode c.code pc = .ok (.aastore, 1)) (hp : pc + 1 = pc')
    (k : ∀ h', Wr h h' a i (.ref y) → Arv Z h' a kA (.object K) z vs' .null → Go W EL Z a0 own p l e R s m args below meth c F h' cells slots (mkF m pc' ls st)) : Go W EL Z a0 own p l e R s m args below meth c F h cells slots (mkF m pc ls (.ref y :: .int j :: .ref a :: st)) := by
  subst hp hvs hji
  intro T P
  obtain ⟨vm0, k0, locs, hWf, X, eT, hx, hZ, hown, hS, hk, hEL, hC, hN, hO⟩ := P
  obtain ⟨cl, Ar, q1, S1, N1, H1, G1⟩ := A
  obtain ⟨T', h', X', e', W', st'⟩ := stR X hx hZ eT Ar (j := j) (inb_of S1 ⟨hj0, hjz⟩) rfl (Sto.ofV Ar q1 O0 I) (g := mkF m pc ls (.ref y :: .int j :: .ref a :: st)) rfl rfl hd
  have S0 : Safe Z EL vm0 h a := Safe.arr hZ.alike Ar (by simp)
  obtain ⟨t, o, h1, h2⟩ := k h' W' (Arv.set Ar q1 S1 N1 H1 G1 rfl W' _ rfl hi) T' ⟨vm0, k0, _, hWf, X', e', hx, hZ, hown, hS, by rw [W'.size]; exact hk, hEL, hC.trans (CHr.wr W' S0 hC.1), Fr.snoc X' hN ha, hO.wr W' ha⟩
  exact ⟨t, o, st' _ h1, h2⟩
theorem go_clone {a : Addr} {kA : ClassId} {z : Int32} {vs : List Value} {dv : Value} {ty : FieldType} {ad : String} {index Wd cap : Nat} (w1 : (Jvm.Cond.methodLink own index ⟨ad, "clone", "()Ljava/lang/Object;"⟩).before a0 Z = true) (w2 : (Jvm.Cond.sameMethod ad "java/lang/Object" "clone" "()Ljava/lang/Object;").before a0 Z = true) (w3 : (Jvm.Cond.native ⟨"java/lang/Object", "clone", "()Ljava/lang/Object;"⟩).before a0 Z = true) (w4 : (Jvm.Cond.instanceMethod ⟨"java/lang/Object", "clone", "()Ljava/lang/Object;"⟩).before a0 Z = true) (w5 : (Jvm.Cond.selects ad ⟨ad, "clone", "()Ljava/lang/Object;"⟩ ⟨"java/lang/Object", "clone", "()Ljava/lang/Object;"⟩).before a0 Z = true) (w6 : (Jvm.Cond.castable ad "java/lang/Cloneable").before a0 Z = true)
    (A : Arv Z h a kA ty z vs dv) (E : Exa Z h a ad) (hsize : ls.size = c.maxLocals) (hW : 2 * 0 + (st.map fun v => v.category).sum ≤ Wd) (hf : 1 ≤ R.frames) (hl : Wd + 14 ≤ R.locals) (hcap : z.toNatClampNeg = cap) (hd : decode c.code pc = .ok (.invokevirtual index, 3)) (hp : pc + 3 = pc') (hcl : cells + 1 = cells') (hsl : slots + cap = slots') (hc : cells' ≤ R.cells) (hs : slots' ≤ R.slots)
    (k : ∀ (h' : Heap) (b : Addr), h.size = b → Ext h h' → Arv Z h' b kA ty z vs dv → Exa Z h' b ad → Go W EL Z a0 own p l e R s m args below meth c F h' cells' slots' (mkF m pc' ls (.ref b :: st))) : Go W EL Z a0 own p l e R s m args below meth c F h cells slots (mkF m pc ls (.ref a :: st)) := by
  subst hp hcl hsl
  intro T P
  obtain ⟨vm0, k0, locs, hWf, X, eT, hx, hZ, hown, hS, hk, hEL, hC, hN, hO⟩ := P
  obtain ⟨cl, Ar, q1, S1, N1, H1, G1⟩ := A
  have FC : FitC Z cl := fitC_of Ar fun i hi v hv => by rw [H1 i hi] at hv; cases hv; exact G1 i hi
  obtain ⟨T', h', X', e', E', A', B', st'⟩ := cloneA X hx hZ hown w1 w2 w3 w4 w5 w6 eT Ar E FC (g := mkF m pc ls (.ref a :: st)) rfl hsize rfl hd hf (W := Wd) hW hl (cap := cap) (by rw [S1]; exact Nat.le_of_eq hcap) hc hs
  obtain ⟨t, o, h1, h2⟩ := k h' h.size rfl E' ⟨cloneOf cl, A', q1, S1, N1, H1, G1⟩ B' T' ⟨vm0, k0, _, hWf, X', e', hx, hZ, hown, hS, Nat.le_trans hk E'.1, hEL, hC.trans (CHr.ext E' hC.1), hN, hO.ext E'⟩
  exact ⟨t, o, st' _ h1, h2⟩
end Own
abbrev EL1 : List (String × Nat) := [("com/example/ispol/ispol/scoring/LabelOfPinLaw", 8), ("com/example/ispol/ispol/scoring/LabelOfPinLaw", 10), ("com/example/ispol/ispol/scoring/LabelOfPinLaw", 12), ("com/example/ispol/ispol/scoring/LabelOfPinLaw", 49)]
def GH (Z : State) (a0 : Array Value) : Prop := (∀ d ∈ tables_1, d.before a0 Z = true) ∧ (∀ d ∈ jdkStatics_1, d.before a0 Z = true) ∧ EW Z a0 EL1 ∧ (narrow_1.value a0 Z none Z [] = some true) ∧ Fit Z
theorem wk {Z : State} {a0 : Array Value} (G : GH Z a0) (k : Nat) {d : Jvm.Cond} (q : tables_1[k]? = some d) : d.before a0 Z = true := G.1 _ (List.mem_of_getElem? q)
theorem jk {Z : State} {a0 : Array Value} (G : GH Z a0) (k : Nat) {d : Jvm.Cond} (q : jdkStatics_1[k]? = some d) : d.before a0 Z = true := G.2.1 _ (List.mem_of_getElem? q)
theorem ew1 {Z : State} {a0 : Array Value} (G : GH Z a0) : EW Z a0 EL1 := G.2.2.1
theorem wS {Z : State} {a0 : Array Value} (G : GH Z a0) : ∀ a ∈ Bundle.stringAtoms, a.before a0 Z = true := fun a ha => G.1 a ((by decide +kernel : ∀ d ∈ Bundle.stringAtoms, d ∈ tables_1) a ha)
theorem cs_of {Z : State} {a0 : Array Value} (G : GH Z a0) : ∃ z, Sta Z Z.heap "java/lang/String" "COMPACT_STRINGS" "Z" (.int z) ∧ ¬ z = 0 := by
  obtain ⟨z, e1⟩ := is_v (Cond.before_iff.mp (jk G 1 rfl))
  exact ⟨z, Sta.start e1 (Or.inl (jk G 0 rfl)), gotF (Cond.eq_ints e1 (Term.int_eval (0))) (not_v (Cond.before_iff.mp (jk G 2 rfl)))⟩
theorem sf_of {Z : State} {a0 : Array Value} (G : GH Z a0) : ∃ v, Sta Z Z.heap "jdk/internal/util/Preconditions" "SIOOBE_FORMATTER" "Ljava/util/function/BiFunction;" v ∧ v.isRef = true := by
  obtain ⟨v, e1, r1⟩ := isR_v (Cond.before_iff.mp (jk G 8 rfl))
  exact ⟨v, Sta.start e1 (Or.inl (jk G 7 rfl)), r1⟩
theorem held_of {s : State} {q : String × Nat} (h : Jvm.Pilot.@@N@@.Jvm.D.constHeld s q.1 q.2) : Jvm.Lit.constHeld s q.1 q.2 := h
theorem nar_c8 {c : Int32} (q : ¬ c < 0 ∧ ¬ (255 : Int32) < c) : narrow .char (.int c) = .int c := by
  show Value.int (nar .char c) = _
  rw [show nar .char c = c.toUInt32.toUInt16.toUInt32.toInt32 from rfl]
  have r := c_i2c c
  obtain ⟨q1, q2⟩ := q
  rw [Int32.lt_iff_toInt_lt] at q1 q2
  have e1 : (255 : Int32).toInt = 255 := by decide
  have e0 : (0 : Int32).toInt = 0 := by decide
  congr 1
  apply Int32.toInt_inj.mp
  omega
section OwnStr
variable {W : Bool} {EL : List (String × Nat)} {Z : State} {a0 : Array Value} {own : String} {p : Program} {l : Launch} {e : Env} {R : Room} {below : List Frame} {h h' : Heap} {x b : Addr} {cs ds : List Int32}
abbrev C8 (c : Int32) : Prop := ¬ c < 0 ∧ ¬ (255 : Int32) < c
theorem c8n : ∀ c ∈ ([] : List Int32), C8 c := fun _ q => nomatch q
theorem c8c {y : Int32} {L : List Int32} (q : C8 y) (r : ∀ c ∈ L, C8 c) : ∀ c ∈ y :: L, C8 c := fun c hc => by
  rcases List.mem_cons.mp hc with rfl | hc
  · exact q
  · exact r c hc
theorem c8_m (y : Int32) : C8 (y &&& 255) := by
  have q := c_and y 255 (by decide)
  have e1 : (255 : Int32).toInt = 255 := by decide
  have e0 : (0 : Int32).toInt = 0 := by decide
  constructor <;> (intro r; rw [Int32.lt_iff_toInt_lt] at r; omega)
theorem c8_up {c : Int32} (q : C8 c) : ¬ c < 0 ∧ ¬ (65535 : Int32) < c := ⟨q.1, fun r => q.2 (by
  rw [Int32.lt_iff_toInt_lt] at r ⊢
  have e1 : (65535 : Int32).toInt = 65535 := by decide
  have e2 : (255 : Int32).toInt = 255 := by decide
  omega)⟩
theorem i2c_c16 {c : Int32} (q : ¬ c < 0 ∧ ¬ (65535 : Int32) < c) : c.toUInt32.toUInt16.toUInt32.toInt32 = c := by
  have r := c_i2c c
  obtain ⟨q1, q2⟩ := q
  rw [Int32.lt_iff_toInt_lt] at q1 q2
  have e1 : (65535 : Int32).toInt = 65535 := by decide
  have e0 : (0 : Int32).toInt = 0 := by decide
  apply Int32.toInt_inj.mp
  omega
theorem i2c_c8 {c : Int32} (q : C8 c) : c.toUInt32.toUInt16.toUInt32.toInt32 = c := i2c_c16 (c8_up q)
def Str (Z : State) (h : Heap) (a : Addr) (cs : List Int32) : Prop := ∃ (t : Addr) (kb : ClassId), Exa Z h a "java/lang/String" ∧ Fld Z h a "java/lang/String" "value" "[B" (.ref t) ∧ Fld Z h a "java/lang/String" "coder" "B" (.int 0) ∧ Arv Z h t kb .byte (Int32.ofNat cs.length) ((cs.map fun c => c.toInt8.toInt32).map Value.int) (.int 0) ∧ (∀ c ∈ cs, C8 c) ∧ cs.length ≤ 4000
theorem Str.exa (S : Str Z h x cs) : Exa Z h x "java/lang/String" := by obtain ⟨t, k, q, -⟩ := S; exact q
theorem Str.keep (S : Str Z h x cs) (K : Keep h h' []) : Str Z h' x cs := by
  obtain ⟨t, k, q1, q2, q3, q4, q5, q6⟩ := S
  exact ⟨t, k, q1.keep K, q2.keep K nin0, q3.keep K nin0, q4.keep K nin0, q5, q6⟩
theorem Str.ext (S : Str Z h x cs) (E : Ext h h') : Str Z h' x cs := S.keep ((Keep.refl h []).ext E)
theorem Str.keepX {C : String} {n : Nat} (S : Str Z h x cs) (K : Keep h h' [b]) (E : Exa Z h b C) (hC : C ≠ "java/lang/String") (wi : (Jvm.Cond.instantiable C n).before a0 Z = true) : Str Z h' x cs := by
  obtain ⟨t, k, q1, q2, q3, q4, q5, q6⟩ := S
  have n1 : x ≠ b := ne_exa q1 E (Ne.symm hC)
  obtain ⟨cl, Ar, -⟩ := id q4
  have n2 : t ≠ b := Ne.symm (ne_arr E wi Ar)
  exact ⟨t, k, q1.keep K, q2.keep K (ninS n1 nin0), q3.keep K (ninS n1 nin0), q4.keep K (ninS n2 nin0), q5, q6⟩
theorem Str.keepA {n : Nat} {kA : ClassId} {ty : FieldType} {z : Int32} {vs : List Value} {dv : Value} (S : Str Z h x cs) (K : Keep h h' [b]) (A : Arv Z h b kA ty z vs dv) (ht : ty ≠ .byte) (wi : (Jvm.Cond.instantiable "java/lang/String" n).before a0 Z = true) : Str Z h' x cs := by
  obtain ⟨t, k, q1, q2, q3, q4, q5, q6⟩ := S
  obtain ⟨cl, Ar, -⟩ := A
  obtain ⟨cl', Ar', -⟩ := id q4
  have n1 : x ≠ b := ne_arr q1 wi Ar
  have n2 : t ≠ b := fun e => by
    subst e
    cases Ar.1.symm.trans Ar'.1
    obtain ⟨-, k1, h1, c1, g1⟩ := Ar.2.1
    obtain ⟨-, k2, h2, c2, g2⟩ := Ar'.2.1
    cases h1.symm.trans h2
    rw [g1] at g2
    cases g2
    exact ht rfl
  exact ⟨t, k, q1.keep K, q2.keep K (ninS n1 nin0), q3.keep K (ninS n1 nin0), q4.keep K (ninS n2 nin0), q5, q6⟩
theorem safe_null {vm : Vm} (hal : Z.vm.Alike vm) (E : Exa Z h x "java/lang/String") (V : Fld Z h x "java/lang/String" "value" "[B" .null) : Safe Z EL vm h x := fun B => by
  obtain ⟨cell, k, e1, e2, e3, -, -⟩ := E
  obtain ⟨cell', cf, k', i, f, v1, v2, v3, v4, v5, v6, v7⟩ := V
  cases e1.symm.trans v1
  obtain ⟨p, -, u, a, -, q, -, F, rfl | rfl⟩ := B
  · cases (show h[q.sa]? = some q.sC from F.ha).symm.trans e1
    obtain ⟨cS, ⟨⟨s1, s2, s3, ⟨cv, kv, iv, s4, s4'⟩, s5, s6, s7, s8, s9⟩, -, -⟩, -⟩ := F
    obtain ⟨kz, z4⟩ := ff_back (U := Wst Z vm h) hal s4
    cases z4.symm.trans v2
    rw [s8] at v7
    cases v7
  · cases (show h[q.sd]? = some q.SA from F.hd).symm.trans e1
    obtain ⟨cS, -, -, fB, -⟩ := F
    have f' : vm.findClass "[B" = some q.SA.cls := fB
    rw [hal.findClass] at f'
    obtain ⟨k1, q1, q2⟩ := Vm.findClass_spec f'
    obtain ⟨k2, q3, q4⟩ := Vm.findClass_spec e2
    cases q1.symm.trans q3
    exact absurd (q2.symm.trans q4) (by decide)
theorem pay_new (G : GH Z a0) (O : Old Z Z.heap.size h) {kC : ClassId} {d v0 c0 : Value} {N : Int32} {n Wd : Nat} (hx0 : Z.heap.size ≤ x) (E : Exa Z h x "java/lang/String") (V : Fld Z h x "java/lang/String" "value" "[B" v0) (C : Fld Z h x "java/lang/String" "coder" "B" c0) (K : Arv Z h b kC .char N (cs.map Value.int) d) (hn : cs.length = n) (hN : N = Int32.ofNat n) (l0 : 0 < n) (l2 : n ≤ 4000) (hp : ∀ c ∈ cs, C8 c) (hfr : 4 ≤ R.frames) (hlo : Wd + 65 ≤ R.locals) :
    Pay l R p e below Z (⟨"java/lang/String", "<init>", "([C)V"⟩ : MethodName) Wd #[.ref x, .ref b] h 1 n [x] (rno fun h' => Str Z h' x cs) := by
  intro s args hZ
  obtain ⟨z, hS, hz⟩ := cs_of G
  refine (StrChars.Road.backV (W := Wd) hZ (fun d hd => G.1 d ((by decide +kernel : ∀ d ∈ StrChars.Road.words, d ∈ tables_1) d hd)) (kI := 4) (wk G 3 rfl) hx0 O.2.1 E V C K (hS.ext O.2) hz hn hN l0 l2 hp rfl hfr hlo).mono (fun _ _ q => q) ?_
  rintro A a v B - ⟨L, ⟨rfl, q1, q2, q3, q4, t, kb, q5, q6, q7, q8, q9⟩, b1, b2, b3⟩
  subst hn hN
  exact ⟨L, ⟨⟨rfl, t, kb, q3, q8, q4, q9, hp, l2⟩, q1, q2⟩, b1, b2, b3⟩
theorem pay_len (G : GH Z a0) (O : Old Z Z.heap.size h) {n : Int32} {Wd : Nat} (S : Str Z h x cs) (hn : Int32.ofNat cs.length = n) (hfr : 2 ≤ R.frames) (hlo : Wd + 25 ≤ R.locals) :
    Pay l R p e below Z (⟨"java/lang/String", "length", "()I"⟩ : MethodName) Wd #[.ref x] h 0 0 [] (rvl fun v h' => .int n = v ∧ h = h') := by
  intro s args hZ
  obtain ⟨z, hS, hz⟩ := cs_of G
  obtain ⟨t, kb, q1, q2, q3, q4, q5, q6⟩ := S
  refine (StrChars.Road.lenW (W := Wd) hZ (fun d hd => G.1 d ((by decide +kernel : ∀ d ∈ StrChars.Road.wordsLen, d ∈ tables_1) d hd)) (kI := 4) (wk G 3 rfl) q1 q2 q3 q4 (StrChars.Road.codOf rfl fun c hc => (q5 c hc).2) (fun c hc => c8_up (q5 c hc)) (hS.ext O.2) hz q6 hfr hlo).mono (fun _ _ q => q) ?_
  rintro A a v B - ⟨L, ⟨rfl, rfl, e1⟩, b1, b2, b3⟩
  subst hn
  exact ⟨[], ⟨⟨_, rfl, rfl, e1.symm⟩, Fr.nil _, by rw [e1]; exact Keep.refl _ _⟩, b1, b2, b3⟩
theorem pay_chr (G : GH Z a0) (O : Old Z Z.heap.size h) {i : Nat} {j c : Int32} {Wd : Nat} (S : Str Z h x cs) (hj : j = Int32.ofNat i) (hi : i < cs.length) (hc : cs.getD i 0 = c) (hfr : 4 ≤ R.frames) (hlo : Wd + 53 ≤ R.locals) :
    Pay l R p e below Z (⟨"java/lang/String", "charAt", "(I)C"⟩ : MethodName) Wd #[.ref x, .int j] h 0 0 [] (rvl fun v h' => .int c = v ∧ h = h') := by
  intro s args hZ
  obtain ⟨z, hS, hz⟩ := cs_of G
  obtain ⟨fm, hF, rf⟩ := sf_of G
  obtain ⟨t, kb, q1, q2, q3, q4, q5, q6⟩ := S
  refine (StrChars.Road.chN (W := Wd) hZ (fun d hd => G.1 d ((by decide +kernel : ∀ d ∈ StrChars.Road.wordsChN, d ∈ tables_1) d hd)) (kI := 4) (wk G 3 rfl) q1 q2 q3 q4 (StrChars.Road.codOf rfl fun c hc => (q5 c hc).2) (fun c hc => c8_up (q5 c hc)) (hS.ext O.2) hz (hF.ext O.2) rf q6 hi hj hfr hlo).mono (fun _ _ q => q) ?_
  rintro A a v B - ⟨L, ⟨rfl, rfl, e1⟩, b1, b2, b3⟩
  subst hc
  exact ⟨[], ⟨⟨_, rfl, rfl, e1.symm⟩, Fr.nil _, by rw [e1]; exact Keep.refl _ _⟩, b1, b2, b3⟩
theorem pay_eq (G : GH Z a0) (O : Old Z Z.heap.size h) {Wd : Nat} (S : Str Z h x cs) (S' : Str Z h b ds) (hfr : 2 ≤ R.frames) (hlo : Wd + 28 ≤ R.locals) :
    Pay l R p e below Z (⟨"java/lang/String", "equals", "(Ljava/lang/Object;)Z"⟩ : MethodName) Wd #[.ref x, .ref b] h 0 0 [] (rvl fun v h' => (.int 1 = v ∧ cs = ds ∧ h = h') ∨ (.int 0 = v ∧ ¬ cs = ds ∧ h = h')) := by
  intro s args hZ
  obtain ⟨z, hS, hz⟩ := cs_of G
  obtain ⟨t, kb, q1, q2, q3, q4, q5, q6⟩ := S
  obtain ⟨t', kb', r1, r2, r3, r4, r5, r6⟩ := S'
  refine (StrChars.Road.eqW (W := Wd) hZ (fun d hd => G.1 d ((by decide +kernel : ∀ d ∈ StrChars.Road.wordsEq, d ∈ tables_1) d hd)) (kI := 4) (wk G 3 rfl) q1 q2 q3 q4 (StrChars.Road.codOf rfl fun c hc => (q5 c hc).2) (fun c hc => c8_up (q5 c hc)) q6 r1 r2 r3 r4 (StrChars.Road.codOf rfl fun c hc => (r5 c hc).2) (fun c hc => c8_up (r5 c hc)) r6 (hS.ext O.2) hz hfr hlo).mono (fun _ _ q => q) ?_
  rintro A a v B - ⟨L, ⟨⟨rfl, q⟩ | ⟨rfl, q⟩, rfl, e1⟩, b1, b2, b3⟩
  · exact ⟨[], ⟨⟨_, rfl, Or.inl ⟨rfl, q, e1.symm⟩⟩, Fr.nil _, by rw [e1]; exact Keep.refl _ _⟩, b1, b2, b3⟩
  · exact ⟨[], ⟨⟨_, rfl, Or.inr ⟨rfl, q, e1.symm⟩⟩, Fr.nil _, by rw [e1]; exact Keep.refl _ _⟩, b1, b2, b3⟩
end OwnStr
def sa (Z : State) (C n d : String) : Addr := (((Term.static C n d).eval #[] Z none [] Z).bind refO).getD 0
theorem sta_ref {Z : State} {a0 : Array Value} {C n d K : String} (q : (Jvm.Cond.exactly (.static C n d) K).value a0 Z none Z [] = some true) (hi : (Jvm.Cond.initialized C).before a0 Z = true ∧ (Jvm.Cond.laysStatic C n d).before a0 Z = true) : Sta Z Z.heap C n d (.ref (sa Z C n d)) ∧ Exa Z Z.heap (sa Z C n d) K := by
  obtain ⟨y, e1⟩ := exa_v q
  have r : sa Z C n d = y := by
    unfold sa
    rw [show (Term.static C n d).eval #[] Z none [] Z = some (.ref y) from e1]
    rfl
  rw [r]
  exact ⟨Sta.start e1 (Or.inr hi), Exa.start e1 q⟩
def s_WITHHOLD (Z : State) : Addr := sa Z "com/example/ispol/ispol/scoring/Label" "WITHHOLD" "Lcom/example/ispol/ispol/scoring/Label;"
theorem se_WITHHOLD {Z : State} {a0 : Array Value} (G : GH Z a0) : Sta Z Z.heap "com/example/ispol/ispol/scoring/Label" "WITHHOLD" "Lcom/example/ispol/ispol/scoring/Label;" (.ref (s_WITHHOLD Z)) ∧ Exa Z Z.heap (s_WITHHOLD Z) "com/example/ispol/ispol/scoring/Label" := sta_ref ((and_e G.2.2.2.1).1) ⟨(wk G 10 rfl), (wk G 11 rfl)⟩
def s__VALUES (Z : State) : Addr := sa Z "com/example/ispol/ispol/scoring/Label" "$VALUES" "[Lcom/example/ispol/ispol/scoring/Label;"
theorem se__VALUES {Z : State} {a0 : Array Value} (G : GH Z a0) : Sta Z Z.heap "com/example/ispol/ispol/scoring/Label" "$VALUES" "[Lcom/example/ispol/ispol/scoring/Label;" (.ref (s__VALUES Z)) ∧ Exa Z Z.heap (s__VALUES Z) "[Lcom/example/ispol/ispol/scoring/Label;" := sta_ref ((and_e (and_e (and_e G.2.2.2.1).2).2).1) ⟨(wk G 10 rfl), (wk G 33 rfl)⟩
def s_DELIVER (Z : State) : Addr := sa Z "com/example/ispol/ispol/scoring/Label" "DELIVER" "Lcom/example/ispol/ispol/scoring/Label;"
theorem se_DELIVER {Z : State} {a0 : Array Value} (G : GH Z a0) : Sta Z Z.heap "com/example/ispol/ispol/scoring/Label" "DELIVER" "Lcom/example/ispol/ispol/scoring/Label;" (.ref (s_DELIVER Z)) ∧ Exa Z Z.heap (s_DELIVER Z) "com/example/ispol/ispol/scoring/Label" := sta_ref ((and_e (and_e (and_e (and_e (and_e (and_e G.2.2.2.1).2).2).2).2).2).1) ⟨(wk G 10 rfl), (wk G 41 rfl)⟩
def s_DEPENDS (Z : State) : Addr := sa Z "com/example/ispol/ispol/scoring/Label" "DEPENDS" "Lcom/example/ispol/ispol/scoring/Label;"
theorem se_DEPENDS {Z : State} {a0 : Array Value} (G : GH Z a0) : Sta Z Z.heap "com/example/ispol/ispol/scoring/Label" "DEPENDS" "Lcom/example/ispol/ispol/scoring/Label;" (.ref (s_DEPENDS Z)) ∧ Exa Z Z.heap (s_DEPENDS Z) "com/example/ispol/ispol/scoring/Label" := sta_ref ((and_e (and_e (and_e (and_e (and_e (and_e (and_e (and_e G.2.2.2.1).2).2).2).2).2).2).2).1) ⟨(wk G 10 rfl), (wk G 42 rfl)⟩
theorem len_lt {args : Array Value} {first s : State} {o : Option Outcome} {idx : List Nat} {t : Term} {y : Addr} {cl : Cell} {n : Int32} (ht : t.eval args first o idx s = some (.ref y)) (ha : s.arrayAt? y = some cl) (q : (Term.length t).eval args first o idx s = some (.int n)) : cl.slots.size < 2 ^ 31 ∧ cl.slots.size.toInt32 = n := by
  by_cases r : cl.slots.size < 2 ^ 31
  · rw [len_f ht ha r] at q
    cases q
    exact ⟨r, rfl⟩
  · simp [Term.eval, ht, ha, r] at q
theorem hasn {c : Cell} {i : Nat} : HasL c i [] := trivial
theorem hasc {c : Cell} {i : Nat} {j : Int32} {v : Value} {r : List Value} (h : c.slots[j.toNatClampNeg]? = some v) (hj : j.toNatClampNeg = i) (q : HasL c (i + 1) r) : HasL c i (v :: r) := ⟨hj ▸ h, q⟩
theorem eqv_r {Z : State} {args : Array Value} {X F : Term} {y : Addr} (hF : F.eval args Z none [] Z = some (.ref y)) (h : (Jvm.Cond.eq X F).value args Z none Z [] = some true) : X.eval args Z none [] Z = some (.ref y) := by
  obtain ⟨x, y', e1, e2, k1, k2⟩ := cmp_v (Or.inl h)
  cases hF.symm.trans e2
  have hx : x.isRef = true := k2.2
  have r : some (decide (x = Value.ref y)) = some true := (eq_R e1 hF hx rfl).symm.trans h
  have r2 : x = Value.ref y := of_decide_eq_true (Option.some.inj r)
  rw [e1, r2]
theorem arr_pin {Z : State} {a0 : Array Value} (hf : Fit Z) {t : Term} {b : Addr} {ty : FieldType} (ev : t.eval a0 Z none [] Z = some (.ref b)) (x3 : (Jvm.Cond.arrayOf t ty).value a0 Z none Z [] = some true) {n : Int32} (x4 : (Jvm.Cond.eq (.length t) (.int n)).value a0 Z none Z [] = some true) (hn : ¬ n < 0) {vs : List Value} (hl : n.toNatClampNeg = vs.length) (he : ∀ cl : Cell, (∀ (j : Int32) (v : Value), ¬ j < 0 → (Term.elem t (.int j)).eval a0 Z none [] Z = some v → cl.slots[j.toNatClampNeg]? = some v) → HasL cl 0 vs) {dv : Value} : ∃ k, Arv Z Z.heap b k ty n vs dv := by
  obtain ⟨cl, A⟩ := Arr.start ev x3
  have q := eqv_i (Term.int_eval n) x4
  have ha : Z.arrayAt? b = some cl := A.fin (Vm.Alike.refl _)
  obtain ⟨l1, l2⟩ := len_lt ev ha q
  exact ⟨cl.cls, Arv.start hf A l1 l2 hn hl (he cl fun j v hj h => by rw [elem_f ev (Term.int_eval j) ha hj] at h; exact h)⟩
theorem str_pin {Z : State} {a0 : Array Value} (hf : Fit Z) {t : Term} {w : Addr} (ev : t.eval a0 Z none [] Z = some (.ref w)) (x1 : (Jvm.Cond.exactly t "java/lang/String").value a0 Z none Z [] = some true) (x2 : (Jvm.Cond.eq (.field t "java/lang/String" "coder" "B") (.int 0)).value a0 Z none Z [] = some true) (x3 : (Jvm.Cond.arrayOf (.field t "java/lang/String" "value" "[B") .byte).value a0 Z none Z [] = some true) {n : Int32} (x4 : (Jvm.Cond.eq (.length (.field t "java/lang/String" "value" "[B")) (.int n)).value a0 Z none Z [] = some true) (hn : ¬ n < 0) {cs : List Int32} {vs : List Value} (hvs : (cs.map fun c => c.toInt8.toInt32).map Value.int = vs) (hl : n.toNatClampNeg = vs.length) (hcn : Int32.ofNat cs.length = n) (hc : ∀ c ∈ cs, C8 c) (hlen : cs.length ≤ 4000)
    (he : ∀ cl : Cell, (∀ (j : Int32) (v : Value), ¬ j < 0 → (Term.elem (.field t "java/lang/String" "value" "[B") (.int j)).eval a0 Z none [] Z = some v → cl.slots[j.toNatClampNeg]? = some v) → HasL cl 0 vs) : Str Z Z.heap w cs := by
  obtain ⟨b, eb⟩ := arr_v x3
  obtain ⟨k, A⟩ := arr_pin hf eb x3 x4 hn hl he (dv := .int 0)
  have ec := eqv_i (Term.int_eval 0) x2
  rw [fld_at ev] at ec
  rw [fld_at ev] at eb
  subst hvs hcn
  exact ⟨b, k, Exa.start ev x1, Fld.start eb, Fld.start ec, A, hc, hlen⟩
theorem ev_ref {Z : State} {a0 : Array Value} {C n d K : String} (q : (Jvm.Cond.exactly (.static C n d) K).value a0 Z none Z [] = some true) : (Term.static C n d).eval a0 Z none [] Z = some (.ref (sa Z C n d)) := by
  obtain ⟨y, e1⟩ := exa_v q
  have r : sa Z C n d = y := by
    unfold sa
    rw [show (Term.static C n d).eval #[] Z none [] Z = some (.ref y) from e1]
    rfl
  rw [r]; exact e1
def w_WITHHOLD (Z : State) : Addr := (((Term.field (Term.static "com/example/ispol/ispol/scoring/Label" "WITHHOLD" "Lcom/example/ispol/ispol/scoring/Label;") "com/example/ispol/ispol/scoring/Label" "word" "Ljava/lang/String;").eval #[] Z none [] Z).bind refO).getD 0
theorem wd_WITHHOLD {Z : State} {a0 : Array Value} (G : GH Z a0) : Fld Z Z.heap (s_WITHHOLD Z) "com/example/ispol/ispol/scoring/Label" "word" "Ljava/lang/String;" (.ref (w_WITHHOLD Z)) ∧ Str Z Z.heap (w_WITHHOLD Z) [(119 : Int32), (105 : Int32), (116 : Int32), (104 : Int32), (104 : Int32), (111 : Int32), (108 : Int32), (100 : Int32)] := by
  have hS := ev_ref ((and_e G.2.2.2.1).1)
  obtain ⟨y, e1⟩ := exa_v ((and_e (and_e (and_e (and_e (and_e (and_e (and_e (and_e (and_e (and_e G.2.2.2.1).2).2).2).2).2).2).2).2).2).1)
  have r : w_WITHHOLD Z = y := by
    unfold w_WITHHOLD
    rw [show (Term.field (Term.static "com/example/ispol/ispol/scoring/Label" "WITHHOLD" "Lcom/example/ispol/ispol/scoring/Label;") "com/example/ispol/ispol/scoring/Label" "word" "Ljava/lang/String;").eval #[] Z none [] Z = some (.ref y) from e1]
    rfl
  rw [r]
  refine ⟨Fld.start ?_, str_pin G.2.2.2.2 e1 ((and_e (and_e (and_e (and_e (and_e (and_e (and_e (and_e (and_e (and_e G.2.2.2.1).2).2).2).2).2).2).2).2).2).1) ((and_e (and_e (and_e (and_e (and_e (and_e (and_e (and_e (and_e (and_e (and_e G.2.2.2.1).2).2).2).2).2).2).2).2).2).2).1) ((and_e (and_e (and_e (and_e (and_e (and_e (and_e (and_e (and_e (and_e (and_e (and_e G.2.2.2.1).2).2).2).2).2).2).2).2).2).2).2).1) ((and_e (and_e (and_e (and_e (and_e (and_e (and_e (and_e (and_e (and_e (and_e (and_e (and_e G.2.2.2.1).2).2).2).2).2).2).2).2).2).2).2).2).1) (by decide) (vs := [(.int (119 : Int32)), (.int (105 : Int32)), (.int (116 : Int32)), (.int (104 : Int32)), (.int (104 : Int32)), (.int (111 : Int32)), (.int (108 : Int32)), (.int (100 : Int32))]) (by decide) rfl rfl (by decide) (by decide) (fun cl g => (hasc (g 0 _ (by decide) (eqv_i (Term.int_eval 119) ((and_e (and_e (and_e (and_e (and_e (and_e (and_e (and_e (and_e (and_e (and_e (and_e (and_e (and_e (and_e (and_e (and_e (and_e (and_e (and_e (and_e (and_e G.2.2.2.1).2).2).2).2).2).2).2).2).2).2).2).2).2).2).2).2).2).2).2).2).2).1))) rfl (hasc (g 1 _ (by decide) (eqv_i (Term.int_eval 105) ((and_e (and_e (and_e (and_e (and_e (and_e (and_e (and_e (and_e (and_e (and_e (and_e (and_e (and_e (and_e (and_e (and_e (and_e (and_e (and_e (and_e (and_e (and_e G.2.2.2.1).2).2).2).2).2).2).2).2).2).2).2).2).2).2).2).2).2).2).2).2).2).2).1))) rfl (hasc (g 2 _ (by decide) (eqv_i (Term.int_eval 116) ((and_e (and_e (and_e (and_e (and_e (and_e (and_e (and_e (and_e (and_e (and_e (and_e (and_e (and_e (and_e (and_e (and_e (and_e (and_e (and_e (and_e (and_e (and_e (and_e G.2.2.2.1).2).2).2).2).2).2).2).2).2).2).2).2).2).2).2).2).2).2).2).2).2).2).2).1))) rfl (hasc (g 3 _ (by decide) (eqv_i (Term.int_eval 104) ((and_e (and_e (and_e (and_e (and_e (and_e (and_e (and_e (and_e (and_e (and_e (and_e (and_e (and_e (and_e (and_e (and_e (and_e (and_e (and_e (and_e (and_e (and_e (and_e (and_e G.2.2.2.1).2).2).2).2).2).2).2).2).2).2).2).2).2).2).2).2).2).2).2).2).2).2).2).2).1))) rfl (hasc (g 4 _ (by decide) (eqv_i (Term.int_eval 104) ((and_e (and_e (and_e (and_e (and_e (and_e (and_e (and_e (and_e (and_e (and_e (and_e (and_e (and_e (and_e (and_e (and_e (and_e (and_e (and_e (and_e (and_e (and_e (and_e (and_e (and_e G.2.2.2.1).2).2).2).2).2).2).2).2).2).2).2).2).2).2).2).2).2).2).2).2).2).2).2).2).2).1))) rfl (hasc (g 5 _ (by decide) (eqv_i (Term.int_eval 111) ((and_e (and_e (and_e (and_e (and_e (and_e (and_e (and_e (and_e (and_e (and_e (and_e (and_e (and_e (and_e (and_e (and_e (and_e (and_e (and_e (and_e (and_e (and_e (and_e (and_e (and_e (and_e G.2.2.2.1).2).2).2).2).2).2).2).2).2).2).2).2).2).2).2).2).2).2).2).2).2).2).2).2).2).2).1))) rfl (hasc (g 6 _ (by decide) (eqv_i (Term.int_eval 108) ((and_e (and_e (and_e (and_e (and_e (and_e (and_e (and_e (and_e (and_e (and_e (and_e (and_e (and_e (and_e (and_e (and_e (and_e (and_e (and_e (and_e (and_e (and_e (and_e (and_e (and_e (and_e (and_e G.2.2.2.1).2).2).2).2).2).2).2).2).2).2).2).2).2).2).2).2).2).2).2).2).2).2).2).2).2).2).2).1))) rfl (hasc (g 7 _ (by decide) (eqv_i (Term.int_eval 100) ((and_e (and_e (and_e (and_e (and_e (and_e (and_e (and_e (and_e (and_e (and_e (and_e (and_e (and_e (and_e (and_e (and_e (and_e (and_e (and_e (and_e (and_e (and_e (and_e (and_e (and_e (and_e (and_e (and_e G.2.2.2.1).2).2).2).2).2).2).2).2).2).2).2).2).2).2).2).2).2).2).2).2).2).2).2).2).2).2).2).2).1))) rfl hasn)))))))))⟩
  rw [fld_at hS] at e1
  exact e1
def w_DELIVER (Z : State) : Addr := (((Term.field (Term.static "com/example/ispol/ispol/scoring/Label" "DELIVER" "Lcom/example/ispol/ispol/scoring/Label;") "com/example/ispol/ispol/scoring/Label" "word" "Ljava/lang/String;").eval #[] Z none [] Z).bind refO).getD 0
theorem wd_DELIVER {Z : State} {a0 : Array Value} (G : GH Z a0) : Fld Z Z.heap (s_DELIVER Z) "com/example/ispol/ispol/scoring/Label" "word" "Ljava/lang/String;" (.ref (w_DELIVER Z)) ∧ Str Z Z.heap (w_DELIVER Z) [(100 : Int32), (101 : Int32), (108 : Int32), (105 : Int32), (118 : Int32), (101 : Int32), (114 : Int32)] := by
  have hS := ev_ref ((and_e (and_e (and_e (and_e (and_e (and_e G.2.2.2.1).2).2).2).2).2).1)
  obtain ⟨y, e1⟩ := exa_v ((and_e (and_e (and_e (and_e (and_e (and_e (and_e (and_e (and_e (and_e (and_e (and_e (and_e (and_e G.2.2.2.1).2).2).2).2).2).2).2).2).2).2).2).2).2).1)
  have r : w_DELIVER Z = y := by
    unfold w_DELIVER
    rw [show (Term.field (Term.static "com/example/ispol/ispol/scoring/Label" "DELIVER" "Lcom/example/ispol/ispol/scoring/Label;") "com/example/ispol/ispol/scoring/Label" "word" "Ljava/lang/String;").eval #[] Z none [] Z = some (.ref y) from e1]
    rfl
  rw [r]
  refine ⟨Fld.start ?_, str_pin G.2.2.2.2 e1 ((and_e (and_e (and_e (and_e (and_e (and_e (and_e (and_e (and_e (and_e (and_e (and_e (and_e (and_e G.2.2.2.1).2).2).2).2).2).2).2).2).2).2).2).2).2).1) ((and_e (and_e (and_e (and_e (and_e (and_e (and_e (and_e (and_e (and_e (and_e (and_e (and_e (and_e (and_e G.2.2.2.1).2).2).2).2).2).2).2).2).2).2).2).2).2).2).1) ((and_e (and_e (and_e (and_e (and_e (and_e (and_e (and_e (and_e (and_e (and_e (and_e (and_e (and_e (and_e (and_e G.2.2.2.1).2).2).2).2).2).2).2).2).2).2).2).2).2).2).2).1) ((and_e (and_e (and_e (and_e (and_e (and_e (and_e (and_e (and_e (and_e (and_e (and_e (and_e (and_e (and_e (and_e (and_e G.2.2.2.1).2).2).2).2).2).2).2).2).2).2).2).2).2).2).2).2).1) (by decide) (vs := [(.int (100 : Int32)), (.int (101 : Int32)), (.int (108 : Int32)), (.int (105 : Int32)), (.int (118 : Int32)), (.int (101 : Int32)), (.int (114 : Int32))]) (by decide) rfl rfl (by decide) (by decide) (fun cl g => (hasc (g 0 _ (by decide) (eqv_i (Term.int_eval 100) ((and_e (and_e (and_e (and_e (and_e (and_e (and_e (and_e (and_e (and_e (and_e (and_e (and_e (and_e (and_e (and_e (and_e (and_e (and_e (and_e (and_e (and_e (and_e (and_e (and_e (and_e (and_e (and_e (and_e (and_e G.2.2.2.1).2).2).2).2).2).2).2).2).2).2).2).2).2).2).2).2).2).2).2).2).2).2).2).2).2).2).2).2).2).1))) rfl (hasc (g 1 _ (by decide) (eqv_i (Term.int_eval 101) ((and_e (and_e (and_e (and_e (and_e (and_e (and_e (and_e (and_e (and_e (and_e (and_e (and_e (and_e (and_e (and_e (and_e (and_e (and_e (and_e (and_e (and_e (and_e (and_e (and_e (and_e (and_e (and_e (and_e (and_e (and_e G.2.2.2.1).2).2).2).2).2).2).2).2).2).2).2).2).2).2).2).2).2).2).2).2).2).2).2).2).2).2).2).2).2).2).1))) rfl (hasc (g 2 _ (by decide) (eqv_i (Term.int_eval 108) ((and_e (and_e (and_e (and_e (and_e (and_e (and_e (and_e (and_e (and_e (and_e (and_e (and_e (and_e (and_e (and_e (and_e (and_e (and_e (and_e (and_e (and_e (and_e (and_e (and_e (and_e (and_e (and_e (and_e (and_e (and_e (and_e G.2.2.2.1).2).2).2).2).2).2).2).2).2).2).2).2).2).2).2).2).2).2).2).2).2).2).2).2).2).2).2).2).2).2).2).1))) rfl (hasc (g 3 _ (by decide) (eqv_i (Term.int_eval 105) ((and_e (and_e (and_e (and_e (and_e (and_e (and_e (and_e (and_e (and_e (and_e (and_e (and_e (and_e (and_e (and_e (and_e (and_e (and_e (and_e (and_e (and_e (and_e (and_e (and_e (and_e (and_e (and_e (and_e (and_e (and_e (and_e (and_e G.2.2.2.1).2).2).2).2).2).2).2).2).2).2).2).2).2).2).2).2).2).2).2).2).2).2).2).2).2).2).2).2).2).2).2).2).1))) rfl (hasc (g 4 _ (by decide) (eqv_i (Term.int_eval 118) ((and_e (and_e (and_e (and_e (and_e (and_e (and_e (and_e (and_e (and_e (and_e (and_e (and_e (and_e (and_e (and_e (and_e (and_e (and_e (and_e (and_e (and_e (and_e (and_e (and_e (and_e (and_e (and_e (and_e (and_e (and_e (and_e (and_e (and_e G.2.2.2.1).2).2).2).2).2).2).2).2).2).2).2).2).2).2).2).2).2).2).2).2).2).2).2).2).2).2).2).2).2).2).2).2).2).1))) rfl (hasc (g 5 _ (by decide) (eqv_i (Term.int_eval 101) ((and_e (and_e (and_e (and_e (and_e (and_e (and_e (and_e (and_e (and_e (and_e (and_e (and_e (and_e (and_e (and_e (and_e (and_e (and_e (and_e (and_e (and_e (and_e (and_e (and_e (and_e (and_e (and_e (and_e (and_e (and_e (and_e (and_e (and_e (and_e G.2.2.2.1).2).2).2).2).2).2).2).2).2).2).2).2).2).2).2).2).2).2).2).2).2).2).2).2).2).2).2).2).2).2).2).2).2).2).1))) rfl (hasc (g 6 _ (by decide) (eqv_i (Term.int_eval 114) ((and_e (and_e (and_e (and_e (and_e (and_e (and_e (and_e (and_e (and_e (and_e (and_e (and_e (and_e (and_e (and_e (and_e (and_e (and_e (and_e (and_e (and_e (and_e (and_e (and_e (and_e (and_e (and_e (and_e (and_e (and_e (and_e (and_e (and_e (and_e (and_e G.2.2.2.1).2).2).2).2).2).2).2).2).2).2).2).2).2).2).2).2).2).2).2).2).2).2).2).2).2).2).2).2).2).2).2).2).2).2).2).1))) rfl hasn))))))))⟩
  rw [fld_at hS] at e1
  exact e1
def w_DEPENDS (Z : State) : Addr := (((Term.field (Term.static "com/example/ispol/ispol/scoring/Label" "DEPENDS" "Lcom/example/ispol/ispol/scoring/Label;") "com/example/ispol/ispol/scoring/Label" "word" "Ljava/lang/String;").eval #[] Z none [] Z).bind refO).getD 0
theorem wd_DEPENDS {Z : State} {a0 : Array Value} (G : GH Z a0) : Fld Z Z.heap (s_DEPENDS Z) "com/example/ispol/ispol/scoring/Label" "word" "Ljava/lang/String;" (.ref (w_DEPENDS Z)) ∧ Str Z Z.heap (w_DEPENDS Z) [(100 : Int32), (101 : Int32), (112 : Int32), (101 : Int32), (110 : Int32), (100 : Int32), (115 : Int32)] := by
  have hS := ev_ref ((and_e (and_e (and_e (and_e (and_e (and_e (and_e (and_e G.2.2.2.1).2).2).2).2).2).2).2).1)
  obtain ⟨y, e1⟩ := exa_v ((and_e (and_e (and_e (and_e (and_e (and_e (and_e (and_e (and_e (and_e (and_e (and_e (and_e (and_e (and_e (and_e (and_e (and_e G.2.2.2.1).2).2).2).2).2).2).2).2).2).2).2).2).2).2).2).2).2).1)
  have r : w_DEPENDS Z = y := by
    unfold w_DEPENDS
    rw [show (Term.field (Term.static "com/example/ispol/ispol/scoring/Label" "DEPENDS" "Lcom/example/ispol/ispol/scoring/Label;") "com/example/ispol/ispol/scoring/Label" "word" "Ljava/lang/String;").eval #[] Z none [] Z = some (.ref y) from e1]
    rfl
  rw [r]
  refine ⟨Fld.start ?_, str_pin G.2.2.2.2 e1 ((and_e (and_e (and_e (and_e (and_e (and_e (and_e (and_e (and_e (and_e (and_e (and_e (and_e (and_e (and_e (and_e (and_e (and_e G.2.2.2.1).2).2).2).2).2).2).2).2).2).2).2).2).2).2).2).2).2).1) ((and_e (and_e (and_e (and_e (and_e (and_e (and_e (and_e (and_e (and_e (and_e (and_e (and_e (and_e (and_e (and_e (and_e (and_e (and_e G.2.2.2.1).2).2).2).2).2).2).2).2).2).2).2).2).2).2).2).2).2).2).1) ((and_e (and_e (and_e (and_e (and_e (and_e (and_e (and_e (and_e (and_e (and_e (and_e (and_e (and_e (and_e (and_e (and_e (and_e (and_e (and_e G.2.2.2.1).2).2).2).2).2).2).2).2).2).2).2).2).2).2).2).2).2).2).2).1) ((and_e (and_e (and_e (and_e (and_e (and_e (and_e (and_e (and_e (and_e (and_e (and_e (and_e (and_e (and_e (and_e (and_e (and_e (and_e (and_e (and_e G.2.2.2.1).2).2).2).2).2).2).2).2).2).2).2).2).2).2).2).2).2).2).2).2).1) (by decide) (vs := [(.int (100 : Int32)), (.int (101 : Int32)), (.int (112 : Int32)), (.int (101 : Int32)), (.int (110 : Int32)), (.int (100 : Int32)), (.int (115 : Int32))]) (by decide) rfl rfl (by decide) (by decide) (fun cl g => (hasc (g 0 _ (by decide) (eqv_i (Term.int_eval 100) ((and_e (and_e (and_e (and_e (and_e (and_e (and_e (and_e (and_e (and_e (and_e (and_e (and_e (and_e (and_e (and_e (and_e (and_e (and_e (and_e (and_e (and_e (and_e (and_e (and_e (and_e (and_e (and_e (and_e (and_e (and_e (and_e (and_e (and_e (and_e (and_e (and_e G.2.2.2.1).2).2).2).2).2).2).2).2).2).2).2).2).2).2).2).2).2).2).2).2).2).2).2).2).2).2).2).2).2).2).2).2).2).2).2).2).1))) rfl (hasc (g 1 _ (by decide) (eqv_i (Term.int_eval 101) ((and_e (and_e (and_e (and_e (and_e (and_e (and_e (and_e (and_e (and_e (and_e (and_e (and_e (and_e (and_e (and_e (and_e (and_e (and_e (and_e (and_e (and_e (and_e (and_e (and_e (and_e (and_e (and_e (and_e (and_e (and_e (and_e (and_e (and_e (and_e (and_e (and_e (and_e G.2.2.2.1).2).2).2).2).2).2).2).2).2).2).2).2).2).2).2).2).2).2).2).2).2).2).2).2).2).2).2).2).2).2).2).2).2).2).2).2).2).1))) rfl (hasc (g 2 _ (by decide) (eqv_i (Term.int_eval 112) ((and_e (and_e (and_e (and_e (and_e (and_e (and_e (and_e (and_e (and_e (and_e (and_e (and_e (and_e (and_e (and_e (and_e (and_e (and_e (and_e (and_e (and_e (and_e (and_e (and_e (and_e (and_e (and_e (and_e (and_e (and_e (and_e (and_e (and_e (and_e (and_e (and_e (and_e (and_e G.2.2.2.1).2).2).2).2).2).2).2).2).2).2).2).2).2).2).2).2).2).2).2).2).2).2).2).2).2).2).2).2).2).2).2).2).2).2).2).2).2).2).1))) rfl (hasc (g 3 _ (by decide) (eqv_i (Term.int_eval 101) ((and_e (and_e (and_e (and_e (and_e (and_e (and_e (and_e (and_e (and_e (and_e (and_e (and_e (and_e (and_e (and_e (and_e (and_e (and_e (and_e (and_e (and_e (and_e (and_e (and_e (and_e (and_e (and_e (and_e (and_e (and_e (and_e (and_e (and_e (and_e (and_e (and_e (and_e (and_e (and_e G.2.2.2.1).2).2).2).2).2).2).2).2).2).2).2).2).2).2).2).2).2).2).2).2).2).2).2).2).2).2).2).2).2).2).2).2).2).2).2).2).2).2).2).1))) rfl (hasc (g 4 _ (by decide) (eqv_i (Term.int_eval 110) ((and_e (and_e (and_e (and_e (and_e (and_e (and_e (and_e (and_e (and_e (and_e (and_e (and_e (and_e (and_e (and_e (and_e (and_e (and_e (and_e (and_e (and_e (and_e (and_e (and_e (and_e (and_e (and_e (and_e (and_e (and_e (and_e (and_e (and_e (and_e (and_e (and_e (and_e (and_e (and_e (and_e G.2.2.2.1).2).2).2).2).2).2).2).2).2).2).2).2).2).2).2).2).2).2).2).2).2).2).2).2).2).2).2).2).2).2).2).2).2).2).2).2).2).2).2).2).1))) rfl (hasc (g 5 _ (by decide) (eqv_i (Term.int_eval 100) ((and_e (and_e (and_e (and_e (and_e (and_e (and_e (and_e (and_e (and_e (and_e (and_e (and_e (and_e (and_e (and_e (and_e (and_e (and_e (and_e (and_e (and_e (and_e (and_e (and_e (and_e (and_e (and_e (and_e (and_e (and_e (and_e (and_e (and_e (and_e (and_e (and_e (and_e (and_e (and_e (and_e (and_e G.2.2.2.1).2).2).2).2).2).2).2).2).2).2).2).2).2).2).2).2).2).2).2).2).2).2).2).2).2).2).2).2).2).2).2).2).2).2).2).2).2).2).2).2).2).1))) rfl (hasc (g 6 _ (by decide) (eqv_i (Term.int_eval 115) ((and_e (and_e (and_e (and_e (and_e (and_e (and_e (and_e (and_e (and_e (and_e (and_e (and_e (and_e (and_e (and_e (and_e (and_e (and_e (and_e (and_e (and_e (and_e (and_e (and_e (and_e (and_e (and_e (and_e (and_e (and_e (and_e (and_e (and_e (and_e (and_e (and_e (and_e (and_e (and_e (and_e (and_e G.2.2.2.1).2).2).2).2).2).2).2).2).2).2).2).2).2).2).2).2).2).2).2).2).2).2).2).2).2).2).2).2).2).2).2).2).2).2).2).2).2).2).2).2).2).2))) rfl hasn))))))))⟩
  rw [fld_at hS] at e1
  exact e1
theorem ar_VALUES {Z : State} {a0 : Array Value} (G : GH Z a0) : ∃ k, Arv Z Z.heap (s__VALUES Z) k (.object "com/example/ispol/ispol/scoring/Label") (3 : Int32) [(.ref (s_WITHHOLD Z)), (.ref (s_DELIVER Z)), (.ref (s_DEPENDS Z))] .null :=
  arr_pin G.2.2.2.2 (ev_ref ((and_e (and_e (and_e G.2.2.2.1).2).2).1)) ((and_e (and_e G.2.2.2.1).2).1) ((and_e (and_e (and_e (and_e G.2.2.2.1).2).2).2).1) (by decide) rfl (fun cl g => (hasc (g 0 _ (by decide) (eqv_r (ev_ref ((and_e G.2.2.2.1).1)) ((and_e (and_e (and_e (and_e (and_e G.2.2.2.1).2).2).2).2).1))) rfl (hasc (g 1 _ (by decide) (eqv_r (ev_ref ((and_e (and_e (and_e (and_e (and_e (and_e G.2.2.2.1).2).2).2).2).2).1)) ((and_e (and_e (and_e (and_e (and_e (and_e (and_e G.2.2.2.1).2).2).2).2).2).2).1))) rfl (hasc (g 2 _ (by decide) (eqv_r (ev_ref ((and_e (and_e (and_e (and_e (and_e (and_e (and_e (and_e G.2.2.2.1).2).2).2).2).2).2).2).1)) ((and_e (and_e (and_e (and_e (and_e (and_e (and_e (and_e (and_e G.2.2.2.1).2).2).2).2).2).2).2).2).1))) rfl hasn))))
theorem and_nn (y k : Int32) (q : 0 ≤ k.toInt) : 0 ≤ (y &&& k).toInt := (c_and y k q).1
theorem rem7 (y : Int32) (q : 0 ≤ y.toInt) : y % (7 : Int32) = (0 : Int32) ∨ y % (7 : Int32) = (1 : Int32) ∨ y % (7 : Int32) = (2 : Int32) ∨ y % (7 : Int32) = (3 : Int32) ∨ y % (7 : Int32) = (4 : Int32) ∨ y % (7 : Int32) = (5 : Int32) ∨ y % (7 : Int32) = (6 : Int32) := by
  have r := (c_irem y 7 7 (by decide)).1 q
  have e0 : (0 : Int32).toInt = 0 := by decide
  have e1 : (1 : Int32).toInt = 1 := by decide
  have e2 : (2 : Int32).toInt = 2 := by decide
  have e3 : (3 : Int32).toInt = 3 := by decide
  have e4 : (4 : Int32).toInt = 4 := by decide
  have e5 : (5 : Int32).toInt = 5 := by decide
  have e6 : (6 : Int32).toInt = 6 := by decide
  have : (y % (7 : Int32)).toInt = 0 ∨ (y % (7 : Int32)).toInt = 1 ∨ (y % (7 : Int32)).toInt = 2 ∨ (y % (7 : Int32)).toInt = 3 ∨ (y % (7 : Int32)).toInt = 4 ∨ (y % (7 : Int32)).toInt = 5 ∨ (y % (7 : Int32)).toInt = 6 := by omega
  rcases this with h | h | h | h | h | h | h
  · exact (Or.inl (Int32.toInt_inj.mp (by rw [h, e0])))
  · exact (Or.inr (Or.inl (Int32.toInt_inj.mp (by rw [h, e1]))))
  · exact (Or.inr (Or.inr (Or.inl (Int32.toInt_inj.mp (by rw [h, e2])))))
  · exact (Or.inr (Or.inr (Or.inr (Or.inl (Int32.toInt_inj.mp (by rw [h, e3]))))))
  · exact (Or.inr (Or.inr (Or.inr (Or.inr (Or.inl (Int32.toInt_inj.mp (by rw [h, e4])))))))
  · exact (Or.inr (Or.inr (Or.inr (Or.inr (Or.inr (Or.inl (Int32.toInt_inj.mp (by rw [h, e5]))))))))
  · exact (Or.inr (Or.inr (Or.inr (Or.inr (Or.inr (Or.inr (Int32.toInt_inj.mp (by rw [h, e6]))))))))
theorem rem8 (y : Int32) (q : 0 ≤ y.toInt) : y % (8 : Int32) = (0 : Int32) ∨ y % (8 : Int32) = (1 : Int32) ∨ y % (8 : Int32) = (2 : Int32) ∨ y % (8 : Int32) = (3 : Int32) ∨ y % (8 : Int32) = (4 : Int32) ∨ y % (8 : Int32) = (5 : Int32) ∨ y % (8 : Int32) = (6 : Int32) ∨ y % (8 : Int32) = (7 : Int32) := by
  have r := (c_irem y 8 8 (by decide)).1 q
  have e0 : (0 : Int32).toInt = 0 := by decide
  have e1 : (1 : Int32).toInt = 1 := by decide
  have e2 : (2 : Int32).toInt = 2 := by decide
  have e3 : (3 : Int32).toInt = 3 := by decide
  have e4 : (4 : Int32).toInt = 4 := by decide
  have e5 : (5 : Int32).toInt = 5 := by decide
  have e6 : (6 : Int32).toInt = 6 := by decide
  have e7 : (7 : Int32).toInt = 7 := by decide
  have : (y % (8 : Int32)).toInt = 0 ∨ (y % (8 : Int32)).toInt = 1 ∨ (y % (8 : Int32)).toInt = 2 ∨ (y % (8 : Int32)).toInt = 3 ∨ (y % (8 : Int32)).toInt = 4 ∨ (y % (8 : Int32)).toInt = 5 ∨ (y % (8 : Int32)).toInt = 6 ∨ (y % (8 : Int32)).toInt = 7 := by omega
  rcases this with h | h | h | h | h | h | h | h
  · exact (Or.inl (Int32.toInt_inj.mp (by rw [h, e0])))
  · exact (Or.inr (Or.inl (Int32.toInt_inj.mp (by rw [h, e1]))))
  · exact (Or.inr (Or.inr (Or.inl (Int32.toInt_inj.mp (by rw [h, e2])))))
  · exact (Or.inr (Or.inr (Or.inr (Or.inl (Int32.toInt_inj.mp (by rw [h, e3]))))))
  · exact (Or.inr (Or.inr (Or.inr (Or.inr (Or.inl (Int32.toInt_inj.mp (by rw [h, e4])))))))
  · exact (Or.inr (Or.inr (Or.inr (Or.inr (Or.inr (Or.inl (Int32.toInt_inj.mp (by rw [h, e5]))))))))
  · exact (Or.inr (Or.inr (Or.inr (Or.inr (Or.inr (Or.inr (Or.inl (Int32.toInt_inj.mp (by rw [h, e6])))))))))
  · exact (Or.inr (Or.inr (Or.inr (Or.inr (Or.inr (Or.inr (Or.inr (Int32.toInt_inj.mp (by rw [h, e7])))))))))
theorem d1_0 : decode jdk_42_method_66_code 0 = .ok (.aload_n 0, 1) := by decide +kernel
theorem d1_1 : decode jdk_42_method_66_code 1 = .ok (.aload_n 1, 1) := by decide +kernel
theorem d1_2 : decode jdk_42_method_66_code 2 = .ok (.if_acmp .ne 5, 3) := by decide +kernel
theorem d1_5 : decode jdk_42_method_66_code 5 = .ok (.iconst 1, 1) := by decide +kernel
theorem d1_6 : decode jdk_42_method_66_code 6 = .ok (.ireturn, 1) := by decide +kernel
theorem pn1 : plainName "java/lang/String" = true := by first | (simp [plainName, overriddenIn]; done) | decide +kernel
theorem d1_7 : decode jdk_42_method_66_code 7 = .ok (.aload_n 1, 1) := by decide +kernel
theorem d1_8 : decode jdk_42_method_66_code 8 = .ok (.instanceof 10, 3) := by decide +kernel
theorem d1_11 : decode jdk_42_method_66_code 11 = .ok (.ifCond .eq 43, 3) := by decide +kernel
theorem d1_54 : decode jdk_42_method_66_code 54 = .ok (.iconst 0, 1) := by decide +kernel
theorem d1_55 : decode jdk_42_method_66_code 55 = .ok (.ireturn, 1) := by decide +kernel
theorem d2_0 : decode prog_20_method_1_code 0 = .ok (.getstatic 13, 3) := by decide +kernel
theorem d2_3 : decode prog_20_method_1_code 3 = .ok (.invokevirtual 17, 3) := by decide +kernel
theorem d2_6 : decode prog_20_method_1_code 6 = .ok (.checkcast 18, 3) := by decide +kernel
theorem d2_9 : decode prog_20_method_1_code 9 = .ok (.areturn, 1) := by decide +kernel
theorem pn2 : plainName "com/example/ispol/ispol/scoring/Label" = true := by first | (simp [plainName, overriddenIn]; done) | decide +kernel
theorem d3_0 : decode prog_20_method_4_code 0 = .ok (.aconst_null, 1) := by decide +kernel
theorem d3_1 : decode prog_20_method_4_code 1 = .ok (.astore_n 1, 1) := by decide +kernel
theorem pd1 : parseMethodDescriptor "()[Lcom/example/ispol/ispol/scoring/Label;" = some ⟨[], some (.array (.object "com/example/ispol/ispol/scoring/Label"))⟩ := by decide +kernel
theorem d3_2 : decode prog_20_method_4_code 2 = .ok (.invokestatic 36, 3) := by decide +kernel
theorem d3_5 : decode prog_20_method_4_code 5 = .ok (.astore_n 2, 1) := by decide +kernel
theorem d3_6 : decode prog_20_method_4_code 6 = .ok (.aload_n 2, 1) := by decide +kernel
theorem d3_7 : decode prog_20_method_4_code 7 = .ok (.arraylength, 1) := by decide +kernel
theorem d3_8 : decode prog_20_method_4_code 8 = .ok (.istore_n 3, 1) := by decide +kernel
theorem d3_9 : decode prog_20_method_4_code 9 = .ok (.iconst 0, 1) := by decide +kernel
theorem d3_10 : decode prog_20_method_4_code 10 = .ok (.istore 4, 2) := by decide +kernel
theorem d3_12 : decode prog_20_method_4_code 12 = .ok (.iload 4, 2) := by decide +kernel
theorem d3_14 : decode prog_20_method_4_code 14 = .ok (.iload_n 3, 1) := by decide +kernel
theorem d3_15 : decode prog_20_method_4_code 15 = .ok (.if_icmp .ge 30, 3) := by decide +kernel
theorem d3_18 : decode prog_20_method_4_code 18 = .ok (.aload_n 2, 1) := by decide +kernel
theorem d3_19 : decode prog_20_method_4_code 19 = .ok (.iload 4, 2) := by decide +kernel
theorem d3_21 : decode prog_20_method_4_code 21 = .ok (.aaload, 1) := by decide +kernel
theorem d3_22 : decode prog_20_method_4_code 22 = .ok (.astore 5, 2) := by decide +kernel
theorem d3_24 : decode prog_20_method_4_code 24 = .ok (.aload 5, 2) := by decide +kernel
theorem d3_26 : decode prog_20_method_4_code 26 = .ok (.getfield 32, 3) := by decide +kernel
theorem d3_29 : decode prog_20_method_4_code 29 = .ok (.aload_n 0, 1) := by decide +kernel
theorem pd2 : parseMethodDescriptor "(Ljava/lang/Object;)Z" = some ⟨[(.object "java/lang/Object")], some .boolean⟩ := by decide +kernel
theorem d3_30 : decode prog_20_method_4_code 30 = .ok (.invokevirtual 40, 3) := by decide +kernel
theorem d3_33 : decode prog_20_method_4_code 33 = .ok (.ifCond .eq 6, 3) := by decide +kernel
theorem d3_36 : decode prog_20_method_4_code 36 = .ok (.aload 5, 2) := by decide +kernel
theorem d3_38 : decode prog_20_method_4_code 38 = .ok (.astore_n 1, 1) := by decide +kernel
theorem d3_39 : decode prog_20_method_4_code 39 = .ok (.iinc 4 1, 3) := by decide +kernel
theorem d3_42 : decode prog_20_method_4_code 42 = .ok (.goto (-30), 3) := by decide +kernel
theorem d3_45 : decode prog_20_method_4_code 45 = .ok (.aload_n 1, 1) := by decide +kernel
theorem d3_46 : decode prog_20_method_4_code 46 = .ok (.areturn, 1) := by decide +kernel
theorem d4_0 : decode method_3_code 0 = .ok (.iload_n 0, 1) := by decide +kernel
theorem d4_1 : decode method_3_code 1 = .ok (.bipush 6, 2) := by decide +kernel
theorem d4_3 : decode method_3_code 3 = .ok (.if_icmp .ne 8, 3) := by decide +kernel
theorem d4_6 : decode method_3_code 6 = .ok (.bipush 6, 2) := by decide +kernel
theorem d4_8 : decode method_3_code 8 = .ok (.newarray .char, 2) := by decide +kernel
theorem d4_10 : decode method_3_code 10 = .ok (.areturn, 1) := by decide +kernel
theorem pn3 : plainName "com/example/ispol/ispol/scoring/LabelOfPinLaw" = true := by first | (simp [plainName, overriddenIn]; done) | decide +kernel
theorem d4_11 : decode method_3_code 11 = .ok (.iload_n 0, 1) := by decide +kernel
theorem d4_12 : decode method_3_code 12 = .ok (.bipush 7, 2) := by decide +kernel
theorem d4_14 : decode method_3_code 14 = .ok (.if_icmp .ne 8, 3) := by decide +kernel
theorem d4_17 : decode method_3_code 17 = .ok (.bipush 7, 2) := by decide +kernel
theorem d4_19 : decode method_3_code 19 = .ok (.newarray .char, 2) := by decide +kernel
theorem d4_21 : decode method_3_code 21 = .ok (.areturn, 1) := by decide +kernel
theorem d4_22 : decode method_3_code 22 = .ok (.iload_n 0, 1) := by decide +kernel
theorem d4_23 : decode method_3_code 23 = .ok (.bipush 8, 2) := by decide +kernel
theorem d4_25 : decode method_3_code 25 = .ok (.if_icmp .ne 8, 3) := by decide +kernel
theorem d4_28 : decode method_3_code 28 = .ok (.bipush 8, 2) := by decide +kernel
theorem d4_30 : decode method_3_code 30 = .ok (.newarray .char, 2) := by decide +kernel
theorem d4_32 : decode method_3_code 32 = .ok (.areturn, 1) := by decide +kernel
theorem d4_33 : decode method_3_code 33 = .ok (.bipush 9, 2) := by decide +kernel
theorem d4_35 : decode method_3_code 35 = .ok (.newarray .char, 2) := by decide +kernel
theorem d4_37 : decode method_3_code 37 = .ok (.areturn, 1) := by decide +kernel
theorem d5_0 : decode jdk_29_method_69_code 0 = .ok (.iload_n 0, 1) := by decide +kernel
theorem d5_1 : decode jdk_29_method_69_code 1 = .ok (.iload_n 1, 1) := by decide +kernel
theorem d5_2 : decode jdk_29_method_69_code 2 = .ok (.if_icmp .gt 7, 3) := by decide +kernel
theorem d5_5 : decode jdk_29_method_69_code 5 = .ok (.iload_n 0, 1) := by decide +kernel
theorem d5_6 : decode jdk_29_method_69_code 6 = .ok (.goto 4, 3) := by decide +kernel
theorem d5_10 : decode jdk_29_method_69_code 10 = .ok (.ireturn, 1) := by decide +kernel
theorem d5_9 : decode jdk_29_method_69_code 9 = .ok (.iload_n 1, 1) := by decide +kernel
theorem d6_0 : decode method_4_code 0 = .ok (.aload_n 0, 1) := by decide +kernel
theorem d6_1 : decode method_4_code 1 = .ok (.arraylength, 1) := by decide +kernel
theorem d6_2 : decode method_4_code 2 = .ok (.aload_n 1, 1) := by decide +kernel
theorem pd3 : parseMethodDescriptor "()I" = some ⟨[], some .int⟩ := by decide +kernel
theorem d6_3 : decode method_4_code 3 = .ok (.invokevirtual 26, 3) := by decide +kernel
theorem pd4 : parseMethodDescriptor "(II)I" = some ⟨[.int, .int], some .int⟩ := by decide +kernel
theorem d6_6 : decode method_4_code 6 = .ok (.invokestatic 55, 3) := by decide +kernel
theorem d6_9 : decode method_4_code 9 = .ok (.istore_n 2, 1) := by decide +kernel
theorem d6_10 : decode method_4_code 10 = .ok (.iload_n 2, 1) := by decide +kernel
theorem d6_11 : decode method_4_code 11 = .ok (.ifCond .le 11, 3) := by decide +kernel
theorem d6_14 : decode method_4_code 14 = .ok (.aload_n 0, 1) := by decide +kernel
theorem d6_15 : decode method_4_code 15 = .ok (.iconst 0, 1) := by decide +kernel
theorem d6_16 : decode method_4_code 16 = .ok (.aload_n 1, 1) := by decide +kernel
theorem d6_17 : decode method_4_code 17 = .ok (.iconst 0, 1) := by decide +kernel
theorem pd5 : parseMethodDescriptor "(I)C" = some ⟨[.int], some .char⟩ := by decide +kernel
theorem d6_18 : decode method_4_code 18 = .ok (.invokevirtual 42, 3) := by decide +kernel
theorem d6_21 : decode method_4_code 21 = .ok (.castore, 1) := by decide +kernel
theorem d6_22 : decode method_4_code 22 = .ok (.iload_n 2, 1) := by decide +kernel
theorem d6_23 : decode method_4_code 23 = .ok (.iconst 1, 1) := by decide +kernel
theorem d6_24 : decode method_4_code 24 = .ok (.if_icmp .le 11, 3) := by decide +kernel
theorem d6_27 : decode method_4_code 27 = .ok (.aload_n 0, 1) := by decide +kernel
theorem d6_28 : decode method_4_code 28 = .ok (.iconst 1, 1) := by decide +kernel
theorem d6_29 : decode method_4_code 29 = .ok (.aload_n 1, 1) := by decide +kernel
theorem d6_30 : decode method_4_code 30 = .ok (.iconst 1, 1) := by decide +kernel
theorem d6_31 : decode method_4_code 31 = .ok (.invokevirtual 42, 3) := by decide +kernel
theorem d6_34 : decode method_4_code 34 = .ok (.castore, 1) := by decide +kernel
theorem d6_35 : decode method_4_code 35 = .ok (.iload_n 2, 1) := by decide +kernel
theorem d6_36 : decode method_4_code 36 = .ok (.iconst 2, 1) := by decide +kernel
theorem d6_37 : decode method_4_code 37 = .ok (.if_icmp .le 11, 3) := by decide +kernel
theorem d6_40 : decode method_4_code 40 = .ok (.aload_n 0, 1) := by decide +kernel
theorem d6_41 : decode method_4_code 41 = .ok (.iconst 2, 1) := by decide +kernel
theorem d6_42 : decode method_4_code 42 = .ok (.aload_n 1, 1) := by decide +kernel
theorem d6_43 : decode method_4_code 43 = .ok (.iconst 2, 1) := by decide +kernel
theorem d6_44 : decode method_4_code 44 = .ok (.invokevirtual 42, 3) := by decide +kernel
theorem d6_47 : decode method_4_code 47 = .ok (.castore, 1) := by decide +kernel
theorem d6_48 : decode method_4_code 48 = .ok (.iload_n 2, 1) := by decide +kernel
theorem d6_49 : decode method_4_code 49 = .ok (.iconst 3, 1) := by decide +kernel
theorem d6_50 : decode method_4_code 50 = .ok (.if_icmp .le 11, 3) := by decide +kernel
theorem d6_53 : decode method_4_code 53 = .ok (.aload_n 0, 1) := by decide +kernel
theorem d6_54 : decode method_4_code 54 = .ok (.iconst 3, 1) := by decide +kernel
theorem d6_55 : decode method_4_code 55 = .ok (.aload_n 1, 1) := by decide +kernel
theorem d6_56 : decode method_4_code 56 = .ok (.iconst 3, 1) := by decide +kernel
theorem d6_57 : decode method_4_code 57 = .ok (.invokevirtual 42, 3) := by decide +kernel
theorem d6_60 : decode method_4_code 60 = .ok (.castore, 1) := by decide +kernel
theorem d6_61 : decode method_4_code 61 = .ok (.iload_n 2, 1) := by decide +kernel
theorem d6_62 : decode method_4_code 62 = .ok (.iconst 4, 1) := by decide +kernel
theorem d6_63 : decode method_4_code 63 = .ok (.if_icmp .le 11, 3) := by decide +kernel
theorem d6_66 : decode method_4_code 66 = .ok (.aload_n 0, 1) := by decide +kernel
theorem d6_67 : decode method_4_code 67 = .ok (.iconst 4, 1) := by decide +kernel
theorem d6_68 : decode method_4_code 68 = .ok (.aload_n 1, 1) := by decide +kernel
theorem d6_69 : decode method_4_code 69 = .ok (.iconst 4, 1) := by decide +kernel
theorem d6_70 : decode method_4_code 70 = .ok (.invokevirtual 42, 3) := by decide +kernel
theorem d6_73 : decode method_4_code 73 = .ok (.castore, 1) := by decide +kernel
theorem d6_74 : decode method_4_code 74 = .ok (.iload_n 2, 1) := by decide +kernel
theorem d6_75 : decode method_4_code 75 = .ok (.iconst 5, 1) := by decide +kernel
theorem d6_76 : decode method_4_code 76 = .ok (.if_icmp .le 11, 3) := by decide +kernel
theorem d6_79 : decode method_4_code 79 = .ok (.aload_n 0, 1) := by decide +kernel
theorem d6_80 : decode method_4_code 80 = .ok (.iconst 5, 1) := by decide +kernel
theorem d6_81 : decode method_4_code 81 = .ok (.aload_n 1, 1) := by decide +kernel
theorem d6_82 : decode method_4_code 82 = .ok (.iconst 5, 1) := by decide +kernel
theorem d6_83 : decode method_4_code 83 = .ok (.invokevirtual 42, 3) := by decide +kernel
theorem d6_86 : decode method_4_code 86 = .ok (.castore, 1) := by decide +kernel
theorem d6_87 : decode method_4_code 87 = .ok (.iload_n 2, 1) := by decide +kernel
theorem d6_88 : decode method_4_code 88 = .ok (.bipush 6, 2) := by decide +kernel
theorem d6_90 : decode method_4_code 90 = .ok (.if_icmp .le 13, 3) := by decide +kernel
theorem d6_93 : decode method_4_code 93 = .ok (.aload_n 0, 1) := by decide +kernel
theorem d6_94 : decode method_4_code 94 = .ok (.bipush 6, 2) := by decide +kernel
theorem d6_96 : decode method_4_code 96 = .ok (.aload_n 1, 1) := by decide +kernel
theorem d6_97 : decode method_4_code 97 = .ok (.bipush 6, 2) := by decide +kernel
theorem d6_99 : decode method_4_code 99 = .ok (.invokevirtual 42, 3) := by decide +kernel
theorem d6_102 : decode method_4_code 102 = .ok (.castore, 1) := by decide +kernel
theorem d6_103 : decode method_4_code 103 = .ok (.iload_n 2, 1) := by decide +kernel
theorem d6_104 : decode method_4_code 104 = .ok (.bipush 7, 2) := by decide +kernel
theorem d6_106 : decode method_4_code 106 = .ok (.if_icmp .le 13, 3) := by decide +kernel
theorem d6_109 : decode method_4_code 109 = .ok (.aload_n 0, 1) := by decide +kernel
theorem d6_110 : decode method_4_code 110 = .ok (.bipush 7, 2) := by decide +kernel
theorem d6_112 : decode method_4_code 112 = .ok (.aload_n 1, 1) := by decide +kernel
theorem d6_113 : decode method_4_code 113 = .ok (.bipush 7, 2) := by decide +kernel
theorem d6_115 : decode method_4_code 115 = .ok (.invokevirtual 42, 3) := by decide +kernel
theorem d6_118 : decode method_4_code 118 = .ok (.castore, 1) := by decide +kernel
theorem d6_119 : decode method_4_code 119 = .ok (.return_, 1) := by decide +kernel
theorem pd6 : parseMethodDescriptor "(I)[C" = some ⟨[.int], some (.array .char)⟩ := by decide +kernel
theorem pd7 : parseMethodDescriptor "([CLjava/lang/String;)V" = some ⟨[(.array .char), (.object "java/lang/String")], none⟩ := by decide +kernel
theorem pd8 : parseMethodDescriptor "([C)V" = some ⟨[(.array .char)], none⟩ := by decide +kernel
theorem pd9 : parseMethodDescriptor "(Ljava/lang/String;)Lcom/example/ispol/ispol/scoring/Label;" = some ⟨[(.object "java/lang/String")], some (.object "com/example/ispol/ispol/scoring/Label")⟩ := by decide +kernel
theorem ef_eqsame (m : MethodId) (a : Addr)  : entryFrame m #[(.ref a), (.ref a)] 3 = mkF m 0 #[.val (.ref a), .val (.ref a), .unset] [] := by first | (simp [entryFrame, mkF, argsToLocals, Value.category]; done) | rfl
def Q_eqsame (Z : State) (a : Addr)  (h0 : Heap) (xv : Value) (h : Heap) : Prop := (.int (1 : Int32)) = xv ∧ h0 = h
set_option maxRecDepth 65536 in
set_option maxHeartbeats 40000000 in
theorem c_eqsame (l : Launch) {Z : State} {a0 : Array Value} (G : GH Z a0) (a : Addr)  (h0 : Heap) (O0 : Old Z Z.heap.size h0)  : Con false [] l Z (⟨"java/lang/String", "equals", "(Ljava/lang/Object;)Z"⟩ : MethodName) jdk_42_method_66_code 3 (some .boolean) [] ({ frames := 0, cells := 0, slots := 0, locals := 0 } : Room) #[(.ref a), (.ref a)] h0 [] (rvl (Q_eqsame Z a h0)) := by
  refine con_of (a0 := a0) (plainFor_of_name pn1) (fun q => rfl) EW.nil O0 (fun m => ef_eqsame m a) ?_
  intro p_ e_ s_ m_ below_ meth_ c_ hby hml hret hlk hnm
  refine go_aload_n (pc' := 1) (hb hby d1_0) rfl rfl rfl ?_
  refine go_aload_n (pc' := 2) (hb hby d1_1) rfl rfl rfl ?_
  refine go_acF (pc' := 5) (hb hby d1_2) rfl rfl rfl (XT.aa_ne_f rfl) ?_
  refine go_iconst (pc' := 6) (v := 1) (hb hby d1_5) rfl rfl ?_
  refine go_ireturn hret hlk rfl (by simp) (hb hby d1_6) (by decide) (by decide) ⟨_, rfl, ⟨rfl, rfl⟩⟩ (Keep.refl h0 [])
theorem ef_eqnull (m : MethodId) (a : Addr)  : entryFrame m #[(.ref a), .null] 3 = mkF m 0 #[.val (.ref a), .val .null, .unset] [] := by first | (simp [entryFrame, mkF, argsToLocals, Value.category]; done) | rfl
def Q_eqnull (Z : State) (a : Addr)  (h0 : Heap) (xv : Value) (h : Heap) : Prop := (.int (0 : Int32)) = xv ∧ h0 = h
set_option maxRecDepth 65536 in
set_option maxHeartbeats 40000000 in
theorem c_eqnull (l : Launch) {Z : State} {a0 : Array Value} (G : GH Z a0) (a : Addr)  (h0 : Heap) (O0 : Old Z Z.heap.size h0)  : Con false [] l Z (⟨"java/lang/String", "equals", "(Ljava/lang/Object;)Z"⟩ : MethodName) jdk_42_method_66_code 3 (some .boolean) [] ({ frames := 0, cells := 0, slots := 0, locals := 0 } : Room) #[(.ref a), .null] h0 [] (rvl (Q_eqnull Z a h0)) := by
  refine con_of (a0 := a0) (plainFor_of_name pn1) (fun q => rfl) EW.nil O0 (fun m => ef_eqnull m a) ?_
  intro p_ e_ s_ m_ below_ meth_ c_ hby hml hret hlk hnm
  refine go_aload_n (pc' := 1) (hb hby d1_0) rfl rfl rfl ?_
  refine go_aload_n (pc' := 2) (hb hby d1_1) rfl rfl rfl ?_
  refine go_acT (pc' := 7) (hb hby d1_2) (by decide) rfl rfl rfl (XT.aa_ne_t (by simp)) ?_
  refine go_aload_n (pc' := 8) (hb hby d1_7) rfl rfl rfl ?_
  refine go_instNull (pc' := 11) (hb hby d1_8) rfl ?_
  refine go_ifT (pc' := 54) (hb hby d1_11) (by decide) rfl (by decide) ?_
  refine go_iconst (pc' := 55) (v := 0) (hb hby d1_54) rfl rfl ?_
  refine go_ireturn hret hlk rfl (by simp) (hb hby d1_55) (by decide) (by decide) ⟨_, rfl, ⟨rfl, rfl⟩⟩ (Keep.refl h0 [])
theorem ef_values (m : MethodId)   : entryFrame m #[] 0 = mkF m 0 #[] [] := by first | (simp [entryFrame, mkF, argsToLocals, Value.category]; done) | rfl
def Q_values (Z : State)   (h0 : Heap) (xv : Value) (h : Heap) : Prop := ∃ (r : Addr) (k : ClassId), (.ref r) = xv ∧ h0.size ≤ r ∧ Arv Z h r k (.object "com/example/ispol/ispol/scoring/Label") (3 : Int32) [(.ref (s_WITHHOLD Z)), (.ref (s_DELIVER Z)), (.ref (s_DEPENDS Z))] (.null)
set_option maxRecDepth 65536 in
set_option maxHeartbeats 40000000 in
theorem c_values (l : Launch) {Z : State} {a0 : Array Value} (G : GH Z a0)   (h0 : Heap) (O0 : Old Z Z.heap.size h0)  : Con false [] l Z (⟨"com/example/ispol/ispol/scoring/Label", "values", "()[Lcom/example/ispol/ispol/scoring/Label;"⟩ : MethodName) prog_20_method_1_code 0 (some (.array (.object "com/example/ispol/ispol/scoring/Label"))) [] ({ frames := 1, cells := 1, slots := 3, locals := 14 } : Room) #[] h0 [] (rvl (Q_values Z h0)) := by
  refine con_of (a0 := a0) (plainFor_of_name pn2) (fun q => rfl) EW.nil O0 (fun m => ef_values m ) ?_
  intro p_ e_ s_ m_ below_ meth_ c_ hby hml hret hlk hnm
  obtain ⟨k1, A2⟩ := ar_VALUES G
  refine go_getS (pc' := 3) (wk G 32 rfl) ((se__VALUES G).1.ext O0.2) (hb hby d2_0) rfl ?_
  have Z3 := A2.ext O0.2
  have Z4 := (se__VALUES G).2.ext O0.2
  refine go_clone (ad := "[Lcom/example/ispol/ispol/scoring/Label;") (pc' := 6) (cells' := 1) (slots' := 3) (Wd := 0) (cap := 3) (wk G 34 rfl) (wk G 35 rfl) (wk G 39 rfl) (wk G 37 rfl) (wk G 38 rfl) (wk G 40 rfl) Z3 Z4 (by rw [hml]; rfl) (by decide) (by decide) (by decide) rfl (hb hby d2_3) rfl rfl rfl (by decide) (by decide) (fun h5 a6 g7 X8 A9 E10 => ?_)
  refine go_cast (pc' := 9) (wk G 44 rfl) (Ins.self E10) (hb hby d2_6) rfl ?_
  have K11 : Keep h0 h5 [] := ((Keep.refl h0 []).ext X8)
  refine go_areturn hret hlk rfl rfl (hb hby d2_9) (by decide) (by decide) ⟨_, rfl, ⟨a6, k1, rfl, (Nat.le_of_eq g7), A9⟩⟩ K11
theorem ef_of (m : MethodId) (a : Addr)  : entryFrame m #[(.ref a)] 6 = mkF m 0 #[.val (.ref a), .unset, .unset, .unset, .unset, .unset] [] := by first | (simp [entryFrame, mkF, argsToLocals, Value.category]; done) | rfl
def Q_of (Z : State) (a : Addr) (cs : List Int32) (h0 : Heap) (xv : Value) (h : Heap) : Prop := ((.ref (s_WITHHOLD Z)) = xv ∧ [(119 : Int32), (105 : Int32), (116 : Int32), (104 : Int32), (104 : Int32), (111 : Int32), (108 : Int32), (100 : Int32)] = cs) ∨ ((.ref (s_DELIVER Z)) = xv ∧ [(100 : Int32), (101 : Int32), (108 : Int32), (105 : Int32), (118 : Int32), (101 : Int32), (114 : Int32)] = cs) ∨ ((.ref (s_DEPENDS Z)) = xv ∧ [(100 : Int32), (101 : Int32), (112 : Int32), (101 : Int32), (110 : Int32), (100 : Int32), (115 : Int32)] = cs) ∨ (.null = xv ∧ ¬ [(119 : Int32), (105 : Int32), (116 : Int32), (104 : Int32), (104 : Int32), (111 : Int32), (108 : Int32), (100 : Int32)] = cs ∧ ¬ [(100 : Int32), (101 : Int32), (108 : Int32), (105 : Int32), (118 : Int32), (101 : Int32), (114 : Int32)] = cs ∧ ¬ [(100 : Int32), (101 : Int32), (112 : Int32), (101 : Int32), (110 : Int32), (100 : Int32), (115 : Int32)] = cs)
set_option maxRecDepth 65536 in
set_option maxHeartbeats 40000000 in
theorem c_of (l : Launch) {Z : State} {a0 : Array Value} (G : GH Z a0) (a : Addr) (cs : List Int32) (h0 : Heap) (O0 : Old Z Z.heap.size h0) (p1 : Str Z h0 a cs) : Con false [] l Z (⟨"com/example/ispol/ispol/scoring/Label", "of", "(Ljava/lang/String;)Lcom/example/ispol/ispol/scoring/Label;"⟩ : MethodName) prog_20_method_4_code 6 (some (.object "com/example/ispol/ispol/scoring/Label")) [] ({ frames := 2, cells := 1, slots := 3, locals := 28 } : Room) #[(.ref a)] h0 [] (rvl (Q_of Z a cs h0)) := by
  refine con_of (a0 := a0) (plainFor_of_name pn2) (fun q => rfl) EW.nil O0 (fun m => ef_of m a) ?_
  intro p_ e_ s_ m_ below_ meth_ c_ hby hml hret hlk hnm
  refine go_aconst_null (pc' := 1) (hb hby d3_0) rfl ?_
  refine go_astore_n (pc' := 2) (ls' := #[.val (.ref a), .val .null, .unset, .unset, .unset, .unset]) (hb hby d3_1) rfl rfl rfl ?_
  refine callS0 (cells' := 1) (slots' := 3) (Wd := 0) (argsL := []) (rest := []) (pay_of (a0 := a0) (c_values l G  h0 O0 ) (wk G 31 rfl) (wk G 10 rfl) (by decide) (by decide)) (wk G 29 rfl) (wk G 30 rfl) (wk G 10 rfl) (wk G 31 rfl) (by decide) pd1 rfl rfl (by rw [hml]; rfl) (Nat.le_of_ble_eq_true rfl) rfl rfl (by decide) (by decide) all0 (fun _ _ => sf0) (hb hby d3_2) (k_v (pc' := 5) rfl ?_)
  rintro _ h1 ⟨r3, r4, rfl, f5, f6⟩ K2
  refine go_astore_n (pc' := 6) (ls' := #[.val (.ref a), .val .null, .val (.ref r3), .unset, .unset, .unset]) (hb hby d3_5) rfl rfl rfl ?_
  refine go_aload_n (pc' := 7) (hb hby d3_6) rfl rfl rfl ?_
  refine go_arraylength (pc' := 8) f6 (hb hby d3_7) rfl ?_
  refine go_istore_n (pc' := 9) (ls' := #[.val (.ref a), .val .null, .val (.ref r3), .val (.int (3 : Int32)), .unset, .unset]) (hb hby d3_8) rfl rfl ?_
  refine go_iconst (pc' := 10) (v := 0) (hb hby d3_9) rfl rfl ?_
  refine go_istore (pc' := 12) (ls' := #[.val (.ref a), .val .null, .val (.ref r3), .val (.int (3 : Int32)), .val (.int (0 : Int32)), .unset]) (hb hby d3_10) rfl rfl ?_
  refine go_iload (pc' := 14) (hb hby d3_12) rfl rfl ?_
  refine go_iload_n (pc' := 15) (hb hby d3_14) rfl rfl ?_
  refine go_icF (pc' := 18) (hb hby d3_15) rfl (by decide) ?_
  refine go_aload_n (pc' := 19) (hb hby d3_18) rfl rfl rfl ?_
  refine go_iload (pc' := 21) (hb hby d3_19) rfl rfl ?_
  refine go_aaload (pc' := 22) (i := 0) (v := (.ref (s_WITHHOLD Z))) f6 rfl (by decide) (by decide) rfl rfl (hb hby d3_21) rfl ?_
  refine go_astore (pc' := 24) (ls' := #[.val (.ref a), .val .null, .val (.ref r3), .val (.int (3 : Int32)), .val (.int (0 : Int32)), .val (.ref (s_WITHHOLD Z))]) (hb hby d3_22) rfl rfl rfl ?_
  refine go_aload (pc' := 26) (hb hby d3_24) rfl rfl rfl ?_
  refine go_old (fun O8 => ?_)
  have Z7 := (wd_WITHHOLD G).1.ext O8.2
  refine go_getF (pc' := 29) (wk G 46 rfl) Via.refl Z7 (hb hby d3_26) rfl ?_
  refine go_aload_n (pc' := 30) (hb hby d3_29) rfl rfl rfl ?_
  have Z9 := (wd_WITHHOLD G).2.ext O8.2
  have K10 : Keep h0 h1 [] := ((Keep.refl h0 []).trans K2 all0)
  have S11 := (p1.keep K10)
  have Z12 := (wd_WITHHOLD G).2.exa.ext O8.2
  refine callV0 (cells' := 1) (slots' := 3) (Wd := 0) (argsL := [(.ref a)]) (rest := []) (pay_eq G O8 Z9 S11 (by decide) (by decide)) Z12 (wk G 48 rfl) (wk G 49 rfl) (wk G 51 rfl) (wk G 51 rfl) (wk G 50 rfl) (by decide) pd2 rfl rfl (by rw [hml]; rfl) (Nat.le_of_ble_eq_true rfl) rfl rfl (by decide) (by decide) all0 (fun _ _ => sf0) (hb hby d3_30) (k_v (pc' := 33) rfl ?_)
  rintro _ _ (⟨rfl, q13, rfl⟩ | ⟨rfl, q13, rfl⟩) -
  · refine go_ifF (pc' := 36) (hb hby d3_33) rfl (by decide) ?_
    refine go_aload (pc' := 38) (hb hby d3_36) rfl rfl rfl ?_
    refine go_astore_n (pc' := 39) (ls' := #[.val (.ref a), .val (.ref (s_WITHHOLD Z)), .val (.ref r3), .val (.int (3 : Int32)), .val (.int (0 : Int32)), .val (.ref (s_WITHHOLD Z))]) (hb hby d3_38) rfl rfl rfl ?_
    refine go_iinc (pc' := 42) (ls' := #[.val (.ref a), .val (.ref (s_WITHHOLD Z)), .val (.ref r3), .val (.int (3 : Int32)), .val (.int (1 : Int32)), .val (.ref (s_WITHHOLD Z))]) (y := (1 : Int32)) (hb hby d3_39) rfl rfl rfl rfl ?_
    refine go_goto (pc' := 12) (hb hby d3_42) (by decide) rfl ?_
    refine go_iload (pc' := 14) (hb hby d3_12) rfl rfl ?_
    refine go_iload_n (pc' := 15) (hb hby d3_14) rfl rfl ?_
    refine go_icF (pc' := 18) (hb hby d3_15) rfl (by decide) ?_
    refine go_aload_n (pc' := 19) (hb hby d3_18) rfl rfl rfl ?_
    refine go_iload (pc' := 21) (hb hby d3_19) rfl rfl ?_
    refine go_aaload (pc' := 22) (i := 1) (v := (.ref (s_DELIVER Z))) f6 rfl (by decide) (by decide) rfl rfl (hb hby d3_21) rfl ?_
    refine go_astore (pc' := 24) (ls' := #[.val (.ref a), .val (.ref (s_WITHHOLD Z)), .val (.ref r3), .val (.int (3 : Int32)), .val (.int (1 : Int32)), .val (.ref (s_DELIVER Z))]) (hb hby d3_22) rfl rfl rfl ?_
    refine go_aload (pc' := 26) (hb hby d3_24) rfl rfl rfl ?_
    have Z14 := (wd_DELIVER G).1.ext O8.2
    refine go_getF (pc' := 29) (wk G 46 rfl) Via.refl Z14 (hb hby d3_26) rfl ?_
    refine go_aload_n (pc' := 30) (hb hby d3_29) rfl rfl rfl ?_
    have Z15 := (wd_DELIVER G).2.ext O8.2
    have Z16 := (wd_DELIVER G).2.exa.ext O8.2
    refine callV0 (cells' := 1) (slots' := 3) (Wd := 0) (argsL := [(.ref a)]) (rest := []) (pay_eq G O8 Z15 S11 (by decide) (by decide)) Z16 (wk G 48 rfl) (wk G 49 rfl) (wk G 51 rfl) (wk G 51 rfl) (wk G 50 rfl) (by decide) pd2 rfl rfl (by rw [hml]; rfl) (Nat.le_of_ble_eq_true rfl) rfl rfl (by decide) (by decide) all0 (fun _ _ => sf0) (hb hby d3_30) (k_v (pc' := 33) rfl ?_)
    rintro _ _ (⟨rfl, q17, rfl⟩ | ⟨rfl, q17, rfl⟩) -
    · exact absurd (q13.trans q17.symm) (by decide)
    · refine go_ifT (pc' := 39) (hb hby d3_33) (by decide) rfl (by decide) ?_
      refine go_iinc (pc' := 42) (ls' := #[.val (.ref a), .val (.ref (s_WITHHOLD Z)), .val (.ref r3), .val (.int (3 : Int32)), .val (.int (2 : Int32)), .val (.ref (s_DELIVER Z))]) (y := (2 : Int32)) (hb hby d3_39) rfl rfl rfl rfl ?_
      refine go_goto (pc' := 12) (hb hby d3_42) (by decide) rfl ?_
      refine go_iload (pc' := 14) (hb hby d3_12) rfl rfl ?_
      refine go_iload_n (pc' := 15) (hb hby d3_14) rfl rfl ?_
      refine go_icF (pc' := 18) (hb hby d3_15) rfl (by decide) ?_
      refine go_aload_n (pc' := 19) (hb hby d3_18) rfl rfl rfl ?_
      refine go_iload (pc' := 21) (hb hby d3_19) rfl rfl ?_
      refine go_aaload (pc' := 22) (i := 2) (v := (.ref (s_DEPENDS Z))) f6 rfl (by decide) (by decide) rfl rfl (hb hby d3_21) rfl ?_
      refine go_astore (pc' := 24) (ls' := #[.val (.ref a), .val (.ref (s_WITHHOLD Z)), .val (.ref r3), .val (.int (3 : Int32)), .val (.int (2 : Int32)), .val (.ref (s_DEPENDS Z))]) (hb hby d3_22) rfl rfl rfl ?_
      refine go_aload (pc' := 26) (hb hby d3_24) rfl rfl rfl ?_
      have Z18 := (wd_DEPENDS G).1.ext O8.2
      refine go_getF (pc' := 29) (wk G 46 rfl) Via.refl Z18 (hb hby d3_26) rfl ?_
      refine go_aload_n (pc' := 30) (hb hby d3_29) rfl rfl rfl ?_
      have Z19 := (wd_DEPENDS G).2.ext O8.2
      have Z20 := (wd_DEPENDS G).2.exa.ext O8.2
      refine callV0 (cells' := 1) (slots' := 3) (Wd := 0) (argsL := [(.ref a)]) (rest := []) (pay_eq G O8 Z19 S11 (by decide) (by decide)) Z20 (wk G 48 rfl) (wk G 49 rfl) (wk G 51 rfl) (wk G 51 rfl) (wk G 50 rfl) (by decide) pd2 rfl rfl (by rw [hml]; rfl) (Nat.le_of_ble_eq_true rfl) rfl rfl (by decide) (by decide) all0 (fun _ _ => sf0) (hb hby d3_30) (k_v (pc' := 33) rfl ?_)
      rintro _ _ (⟨rfl, q21, rfl⟩ | ⟨rfl, q21, rfl⟩) -
      · exact absurd (q13.trans q21.symm) (by decide)
      · refine go_ifT (pc' := 39) (hb hby d3_33) (by decide) rfl (by decide) ?_
        refine go_iinc (pc' := 42) (ls' := #[.val (.ref a), .val (.ref (s_WITHHOLD Z)), .val (.ref r3), .val (.int (3 : Int32)), .val (.int (3 : Int32)), .val (.ref (s_DEPENDS Z))]) (y := (3 : Int32)) (hb hby d3_39) rfl rfl rfl rfl ?_
        refine go_goto (pc' := 12) (hb hby d3_42) (by decide) rfl ?_
        refine go_iload (pc' := 14) (hb hby d3_12) rfl rfl ?_
        refine go_iload_n (pc' := 15) (hb hby d3_14) rfl rfl ?_
        refine go_icT (pc' := 45) (hb hby d3_15) (by decide) rfl (by decide) ?_
        refine go_aload_n (pc' := 46) (hb hby d3_45) rfl rfl rfl ?_
        refine go_areturn hret hlk rfl rfl (hb hby d3_46) (by decide) (by decide) ⟨_, rfl, (Or.inl ⟨rfl, q13⟩)⟩ K10
  · refine go_ifT (pc' := 39) (hb hby d3_33) (by decide) rfl (by decide) ?_
    refine go_iinc (pc' := 42) (ls' := #[.val (.ref a), .val .null, .val (.ref r3), .val (.int (3 : Int32)), .val (.int (1 : Int32)), .val (.ref (s_WITHHOLD Z))]) (y := (1 : Int32)) (hb hby d3_39) rfl rfl rfl rfl ?_
    refine go_goto (pc' := 12) (hb hby d3_42) (by decide) rfl ?_
    refine go_iload (pc' := 14) (hb hby d3_12) rfl rfl ?_
    refine go_iload_n (pc' := 15) (hb hby d3_14) rfl rfl ?_
    refine go_icF (pc' := 18) (hb hby d3_15) rfl (by decide) ?_
    refine go_aload_n (pc' := 19) (hb hby d3_18) rfl rfl rfl ?_
    refine go_iload (pc' := 21) (hb hby d3_19) rfl rfl ?_
    refine go_aaload (pc' := 22) (i := 1) (v := (.ref (s_DELIVER Z))) f6 rfl (by decide) (by decide) rfl rfl (hb hby d3_21) rfl ?_
    refine go_astore (pc' := 24) (ls' := #[.val (.ref a), .val .null, .val (.ref r3), .val (.int (3 : Int32)), .val (.int (1 : Int32)), .val (.ref (s_DELIVER Z))]) (hb hby d3_22) rfl rfl rfl ?_
    refine go_aload (pc' := 26) (hb hby d3_24) rfl rfl rfl ?_
    have Z22 := (wd_DELIVER G).1.ext O8.2
    refine go_getF (pc' := 29) (wk G 46 rfl) Via.refl Z22 (hb hby d3_26) rfl ?_
    refine go_aload_n (pc' := 30) (hb hby d3_29) rfl rfl rfl ?_
    have Z23 := (wd_DELIVER G).2.ext O8.2
    have Z24 := (wd_DELIVER G).2.exa.ext O8.2
    refine callV0 (cells' := 1) (slots' := 3) (Wd := 0) (argsL := [(.ref a)]) (rest := []) (pay_eq G O8 Z23 S11 (by decide) (by decide)) Z24 (wk G 48 rfl) (wk G 49 rfl) (wk G 51 rfl) (wk G 51 rfl) (wk G 50 rfl) (by decide) pd2 rfl rfl (by rw [hml]; rfl) (Nat.le_of_ble_eq_true rfl) rfl rfl (by decide) (by decide) all0 (fun _ _ => sf0) (hb hby d3_30) (k_v (pc' := 33) rfl ?_)
    rintro _ _ (⟨rfl, q25, rfl⟩ | ⟨rfl, q25, rfl⟩) -
    · refine go_ifF (pc' := 36) (hb hby d3_33) rfl (by decide) ?_
      refine go_aload (pc' := 38) (hb hby d3_36) rfl rfl rfl ?_
      refine go_astore_n (pc' := 39) (ls' := #[.val (.ref a), .val (.ref (s_DELIVER Z)), .val (.ref r3), .val (.int (3 : Int32)), .val (.int (1 : Int32)), .val (.ref (s_DELIVER Z))]) (hb hby d3_38) rfl rfl rfl ?_
      refine go_iinc (pc' := 42) (ls' := #[.val (.ref a), .val (.ref (s_DELIVER Z)), .val (.ref r3), .val (.int (3 : Int32)), .val (.int (2 : Int32)), .val (.ref (s_DELIVER Z))]) (y := (2 : Int32)) (hb hby d3_39) rfl rfl rfl rfl ?_
      refine go_goto (pc' := 12) (hb hby d3_42) (by decide) rfl ?_
      refine go_iload (pc' := 14) (hb hby d3_12) rfl rfl ?_
      refine go_iload_n (pc' := 15) (hb hby d3_14) rfl rfl ?_
      refine go_icF (pc' := 18) (hb hby d3_15) rfl (by decide) ?_
      refine go_aload_n (pc' := 19) (hb hby d3_18) rfl rfl rfl ?_
      refine go_iload (pc' := 21) (hb hby d3_19) rfl rfl ?_
      refine go_aaload (pc' := 22) (i := 2) (v := (.ref (s_DEPENDS Z))) f6 rfl (by decide) (by decide) rfl rfl (hb hby d3_21) rfl ?_
      refine go_astore (pc' := 24) (ls' := #[.val (.ref a), .val (.ref (s_DELIVER Z)), .val (.ref r3), .val (.int (3 : Int32)), .val (.int (2 : Int32)), .val (.ref (s_DEPENDS Z))]) (hb hby d3_22) rfl rfl rfl ?_
      refine go_aload (pc' := 26) (hb hby d3_24) rfl rfl rfl ?_
      have Z26 := (wd_DEPENDS G).1.ext O8.2
      refine go_getF (pc' := 29) (wk G 46 rfl) Via.refl Z26 (hb hby d3_26) rfl ?_
      refine go_aload_n (pc' := 30) (hb hby d3_29) rfl rfl rfl ?_
      have Z27 := (wd_DEPENDS G).2.ext O8.2
      have Z28 := (wd_DEPENDS G).2.exa.ext O8.2
      refine callV0 (cells' := 1) (slots' := 3) (Wd := 0) (argsL := [(.ref a)]) (rest := []) (pay_eq G O8 Z27 S11 (by decide) (by decide)) Z28 (wk G 48 rfl) (wk G 49 rfl) (wk G 51 rfl) (wk G 51 rfl) (wk G 50 rfl) (by decide) pd2 rfl rfl (by rw [hml]; rfl) (Nat.le_of_ble_eq_true rfl) rfl rfl (by decide) (by decide) all0 (fun _ _ => sf0) (hb hby d3_30) (k_v (pc' := 33) rfl ?_)
      rintro _ _ (⟨rfl, q29, rfl⟩ | ⟨rfl, q29, rfl⟩) -
      · exact absurd (q25.trans q29.symm) (by decide)
      · refine go_ifT (pc' := 39) (hb hby d3_33) (by decide) rfl (by decide) ?_
        refine go_iinc (pc' := 42) (ls' := #[.val (.ref a), .val (.ref (s_DELIVER Z)), .val (.ref r3), .val (.int (3 : Int32)), .val (.int (3 : Int32)), .val (.ref (s_DEPENDS Z))]) (y := (3 : Int32)) (hb hby d3_39) rfl rfl rfl rfl ?_
        refine go_goto (pc' := 12) (hb hby d3_42) (by decide) rfl ?_
        refine go_iload (pc' := 14) (hb hby d3_12) rfl rfl ?_
        refine go_iload_n (pc' := 15) (hb hby d3_14) rfl rfl ?_
        refine go_icT (pc' := 45) (hb hby d3_15) (by decide) rfl (by decide) ?_
        refine go_aload_n (pc' := 46) (hb hby d3_45) rfl rfl rfl ?_
        refine go_areturn hret hlk rfl rfl (hb hby d3_46) (by decide) (by decide) ⟨_, rfl, (Or.inr (Or.inl ⟨rfl, q25⟩))⟩ K10
    · refine go_ifT (pc' := 39) (hb hby d3_33) (by decide) rfl (by decide) ?_
      refine go_iinc (pc' := 42) (ls' := #[.val (.ref a), .val .null, .val (.ref r3), .val (.int (3 : Int32)), .val (.int (2 : Int32)), .val (.ref (s_DELIVER Z))]) (y := (2 : Int32)) (hb hby d3_39) rfl rfl rfl rfl ?_
      refine go_goto (pc' := 12) (hb hby d3_42) (by decide) rfl ?_
      refine go_iload (pc' := 14) (hb hby d3_12) rfl rfl ?_
      refine go_iload_n (pc' := 15) (hb hby d3_14) rfl rfl ?_
      refine go_icF (pc' := 18) (hb hby d3_15) rfl (by decide) ?_
      refine go_aload_n (pc' := 19) (hb hby d3_18) rfl rfl rfl ?_
      refine go_iload (pc' := 21) (hb hby d3_19) rfl rfl ?_
      refine go_aaload (pc' := 22) (i := 2) (v := (.ref (s_DEPENDS Z))) f6 rfl (by decide) (by decide) rfl rfl (hb hby d3_21) rfl ?_
      refine go_astore (pc' := 24) (ls' := #[.val (.ref a), .val .null, .val (.ref r3), .val (.int (3 : Int32)), .val (.int (2 : Int32)), .val (.ref (s_DEPENDS Z))]) (hb hby d3_22) rfl rfl rfl ?_
      refine go_aload (pc' := 26) (hb hby d3_24) rfl rfl rfl ?_
      have Z30 := (wd_DEPENDS G).1.ext O8.2
      refine go_getF (pc' := 29) (wk G 46 rfl) Via.refl Z30 (hb hby d3_26) rfl ?_
      refine go_aload_n (pc' := 30) (hb hby d3_29) rfl rfl rfl ?_
      have Z31 := (wd_DEPENDS G).2.ext O8.2
      have Z32 := (wd_DEPENDS G).2.exa.ext O8.2
      refine callV0 (cells' := 1) (slots' := 3) (Wd := 0) (argsL := [(.ref a)]) (rest := []) (pay_eq G O8 Z31 S11 (by decide) (by decide)) Z32 (wk G 48 rfl) (wk G 49 rfl) (wk G 51 rfl) (wk G 51 rfl) (wk G 50 rfl) (by decide) pd2 rfl rfl (by rw [hml]; rfl) (Nat.le_of_ble_eq_true rfl) rfl rfl (by decide) (by decide) all0 (fun _ _ => sf0) (hb hby d3_30) (k_v (pc' := 33) rfl ?_)
      rintro _ _ (⟨rfl, q33, rfl⟩ | ⟨rfl, q33, rfl⟩) -
      · refine go_ifF (pc' := 36) (hb hby d3_33) rfl (by decide) ?_
        refine go_aload (pc' := 38) (hb hby d3_36) rfl rfl rfl ?_
        refine go_astore_n (pc' := 39) (ls' := #[.val (.ref a), .val (.ref (s_DEPENDS Z)), .val (.ref r3), .val (.int (3 : Int32)), .val (.int (2 : Int32)), .val (.ref (s_DEPENDS Z))]) (hb hby d3_38) rfl rfl rfl ?_
        refine go_iinc (pc' := 42) (ls' := #[.val (.ref a), .val (.ref (s_DEPENDS Z)), .val (.ref r3), .val (.int (3 : Int32)), .val (.int (3 : Int32)), .val (.ref (s_DEPENDS Z))]) (y := (3 : Int32)) (hb hby d3_39) rfl rfl rfl rfl ?_
        refine go_goto (pc' := 12) (hb hby d3_42) (by decide) rfl ?_
        refine go_iload (pc' := 14) (hb hby d3_12) rfl rfl ?_
        refine go_iload_n (pc' := 15) (hb hby d3_14) rfl rfl ?_
        refine go_icT (pc' := 45) (hb hby d3_15) (by decide) rfl (by decide) ?_
        refine go_aload_n (pc' := 46) (hb hby d3_45) rfl rfl rfl ?_
        refine go_areturn hret hlk rfl rfl (hb hby d3_46) (by decide) (by decide) ⟨_, rfl, (Or.inr (Or.inr (Or.inl ⟨rfl, q33⟩)))⟩ K10
      · refine go_ifT (pc' := 39) (hb hby d3_33) (by decide) rfl (by decide) ?_
        refine go_iinc (pc' := 42) (ls' := #[.val (.ref a), .val .null, .val (.ref r3), .val (.int (3 : Int32)), .val (.int (3 : Int32)), .val (.ref (s_DEPENDS Z))]) (y := (3 : Int32)) (hb hby d3_39) rfl rfl rfl rfl ?_
        refine go_goto (pc' := 12) (hb hby d3_42) (by decide) rfl ?_
        refine go_iload (pc' := 14) (hb hby d3_12) rfl rfl ?_
        refine go_iload_n (pc' := 15) (hb hby d3_14) rfl rfl ?_
        refine go_icT (pc' := 45) (hb hby d3_15) (by decide) rfl (by decide) ?_
        refine go_aload_n (pc' := 46) (hb hby d3_45) rfl rfl rfl ?_
        refine go_areturn hret hlk rfl rfl (hb hby d3_46) (by decide) (by decide) ⟨_, rfl, (Or.inr (Or.inr (Or.inr (⟨rfl, q13, q25, q33⟩))))⟩ K10
theorem ef_ofnull (m : MethodId)   : entryFrame m #[.null] 6 = mkF m 0 #[.val .null, .unset, .unset, .unset, .unset, .unset] [] := by first | (simp [entryFrame, mkF, argsToLocals, Value.category]; done) | rfl
def Q_ofnull (Z : State)   (h0 : Heap) (xv : Value) (h : Heap) : Prop := .null = xv
set_option maxRecDepth 65536 in
set_option maxHeartbeats 40000000 in
theorem c_ofnull (l : Launch) {Z : State} {a0 : Array Value} (G : GH Z a0)   (h0 : Heap) (O0 : Old Z Z.heap.size h0)  : Con false [] l Z (⟨"com/example/ispol/ispol/scoring/Label", "of", "(Ljava/lang/String;)Lcom/example/ispol/ispol/scoring/Label;"⟩ : MethodName) prog_20_method_4_code 6 (some (.object "com/example/ispol/ispol/scoring/Label")) [] ({ frames := 2, cells := 1, slots := 3, locals := 25 } : Room) #[.null] h0 [] (rvl (Q_ofnull Z h0)) := by
  refine con_of (a0 := a0) (plainFor_of_name pn2) (fun q => rfl) EW.nil O0 (fun m => ef_ofnull m ) ?_
  intro p_ e_ s_ m_ below_ meth_ c_ hby hml hret hlk hnm
  refine go_aconst_null (pc' := 1) (hb hby d3_0) rfl ?_
  refine go_astore_n (pc' := 2) (ls' := #[.val .null, .val .null, .unset, .unset, .unset, .unset]) (hb hby d3_1) rfl rfl rfl ?_
  refine callS0 (cells' := 1) (slots' := 3) (Wd := 0) (argsL := []) (rest := []) (pay_of (a0 := a0) (c_values l G  h0 O0 ) (wk G 31 rfl) (wk G 10 rfl) (by decide) (by decide)) (wk G 29 rfl) (wk G 30 rfl) (wk G 10 rfl) (wk G 31 rfl) (by decide) pd1 rfl rfl (by rw [hml]; rfl) (Nat.le_of_ble_eq_true rfl) rfl rfl (by decide) (by decide) all0 (fun _ _ => sf0) (hb hby d3_2) (k_v (pc' := 5) rfl ?_)
  rintro _ h1 ⟨r3, r4, rfl, f5, f6⟩ K2
  refine go_astore_n (pc' := 6) (ls' := #[.val .null, .val .null, .val (.ref r3), .unset, .unset, .unset]) (hb hby d3_5) rfl rfl rfl ?_
  refine go_aload_n (pc' := 7) (hb hby d3_6) rfl rfl rfl ?_
  refine go_arraylength (pc' := 8) f6 (hb hby d3_7) rfl ?_
  refine go_istore_n (pc' := 9) (ls' := #[.val .null, .val .null, .val (.ref r3), .val (.int (3 : Int32)), .unset, .unset]) (hb hby d3_8) rfl rfl ?_
  refine go_iconst (pc' := 10) (v := 0) (hb hby d3_9) rfl rfl ?_
  refine go_istore (pc' := 12) (ls' := #[.val .null, .val .null, .val (.ref r3), .val (.int (3 : Int32)), .val (.int (0 : Int32)), .unset]) (hb hby d3_10) rfl rfl ?_
  refine go_iload (pc' := 14) (hb hby d3_12) rfl rfl ?_
  refine go_iload_n (pc' := 15) (hb hby d3_14) rfl rfl ?_
  refine go_icF (pc' := 18) (hb hby d3_15) rfl (by decide) ?_
  refine go_aload_n (pc' := 19) (hb hby d3_18) rfl rfl rfl ?_
  refine go_iload (pc' := 21) (hb hby d3_19) rfl rfl ?_
  refine go_aaload (pc' := 22) (i := 0) (v := (.ref (s_WITHHOLD Z))) f6 rfl (by decide) (by decide) rfl rfl (hb hby d3_21) rfl ?_
  refine go_astore (pc' := 24) (ls' := #[.val .null, .val .null, .val (.ref r3), .val (.int (3 : Int32)), .val (.int (0 : Int32)), .val (.ref (s_WITHHOLD Z))]) (hb hby d3_22) rfl rfl rfl ?_
  refine go_aload (pc' := 26) (hb hby d3_24) rfl rfl rfl ?_
  refine go_old (fun O8 => ?_)
  have Z7 := (wd_WITHHOLD G).1.ext O8.2
  refine go_getF (pc' := 29) (wk G 46 rfl) Via.refl Z7 (hb hby d3_26) rfl ?_
  refine go_aload_n (pc' := 30) (hb hby d3_29) rfl rfl rfl ?_
  have Z9 := (wd_WITHHOLD G).2.exa.ext O8.2
  refine callV0 (cells' := 1) (slots' := 3) (Wd := 0) (argsL := [.null]) (rest := []) (pay_of (a0 := a0) (c_eqnull l G (w_WITHHOLD Z) h1 O8 ) (wk G 52 rfl) (wk G 2 rfl) (by decide) (by decide)) Z9 (wk G 48 rfl) (wk G 49 rfl) (wk G 51 rfl) (wk G 51 rfl) (wk G 50 rfl) (by decide) pd2 rfl rfl (by rw [hml]; rfl) (Nat.le_of_ble_eq_true rfl) rfl rfl (by decide) (by decide) all0 (fun _ _ => sf0) (hb hby d3_30) (k_v (pc' := 33) rfl ?_)
  rintro _ h10 ⟨rfl, rfl⟩ K11
  refine go_ifT (pc' := 39) (hb hby d3_33) (by decide) rfl (by decide) ?_
  refine go_iinc (pc' := 42) (ls' := #[.val .null, .val .null, .val (.ref r3), .val (.int (3 : Int32)), .val (.int (1 : Int32)), .val (.ref (s_WITHHOLD Z))]) (y := (1 : Int32)) (hb hby d3_39) rfl rfl rfl rfl ?_
  refine go_goto (pc' := 12) (hb hby d3_42) (by decide) rfl ?_
  refine go_iload (pc' := 14) (hb hby d3_12) rfl rfl ?_
  refine go_iload_n (pc' := 15) (hb hby d3_14) rfl rfl ?_
  refine go_icF (pc' := 18) (hb hby d3_15) rfl (by decide) ?_
  refine go_aload_n (pc' := 19) (hb hby d3_18) rfl rfl rfl ?_
  refine go_iload (pc' := 21) (hb hby d3_19) rfl rfl ?_
  refine go_aaload (pc' := 22) (i := 1) (v := (.ref (s_DELIVER Z))) f6 rfl (by decide) (by decide) rfl rfl (hb hby d3_21) rfl ?_
  refine go_astore (pc' := 24) (ls' := #[.val .null, .val .null, .val (.ref r3), .val (.int (3 : Int32)), .val (.int (1 : Int32)), .val (.ref (s_DELIVER Z))]) (hb hby d3_22) rfl rfl rfl ?_
  refine go_aload (pc' := 26) (hb hby d3_24) rfl rfl rfl ?_
  have Z12 := (wd_DELIVER G).1.ext O8.2
  refine go_getF (pc' := 29) (wk G 46 rfl) Via.refl Z12 (hb hby d3_26) rfl ?_
  refine go_aload_n (pc' := 30) (hb hby d3_29) rfl rfl rfl ?_
  have Z13 := (wd_DELIVER G).2.exa.ext O8.2
  refine callV0 (cells' := 1) (slots' := 3) (Wd := 0) (argsL := [.null]) (rest := []) (pay_of (a0 := a0) (c_eqnull l G (w_DELIVER Z) h1 O8 ) (wk G 52 rfl) (wk G 2 rfl) (by decide) (by decide)) Z13 (wk G 48 rfl) (wk G 49 rfl) (wk G 51 rfl) (wk G 51 rfl) (wk G 50 rfl) (by decide) pd2 rfl rfl (by rw [hml]; rfl) (Nat.le_of_ble_eq_true rfl) rfl rfl (by decide) (by decide) all0 (fun _ _ => sf0) (hb hby d3_30) (k_v (pc' := 33) rfl ?_)
  rintro _ h14 ⟨rfl, rfl⟩ K15
  refine go_ifT (pc' := 39) (hb hby d3_33) (by decide) rfl (by decide) ?_
  refine go_iinc (pc' := 42) (ls' := #[.val .null, .val .null, .val (.ref r3), .val (.int (3 : Int32)), .val (.int (2 : Int32)), .val (.ref (s_DELIVER Z))]) (y := (2 : Int32)) (hb hby d3_39) rfl rfl rfl rfl ?_
  refine go_goto (pc' := 12) (hb hby d3_42) (by decide) rfl ?_
  refine go_iload (pc' := 14) (hb hby d3_12) rfl rfl ?_
  refine go_iload_n (pc' := 15) (hb hby d3_14) rfl rfl ?_
  refine go_icF (pc' := 18) (hb hby d3_15) rfl (by decide) ?_
  refine go_aload_n (pc' := 19) (hb hby d3_18) rfl rfl rfl ?_
  refine go_iload (pc' := 21) (hb hby d3_19) rfl rfl ?_
  refine go_aaload (pc' := 22) (i := 2) (v := (.ref (s_DEPENDS Z))) f6 rfl (by decide) (by decide) rfl rfl (hb hby d3_21) rfl ?_
  refine go_astore (pc' := 24) (ls' := #[.val .null, .val .null, .val (.ref r3), .val (.int (3 : Int32)), .val (.int (2 : Int32)), .val (.ref (s_DEPENDS Z))]) (hb hby d3_22) rfl rfl rfl ?_
  refine go_aload (pc' := 26) (hb hby d3_24) rfl rfl rfl ?_
  have Z16 := (wd_DEPENDS G).1.ext O8.2
  refine go_getF (pc' := 29) (wk G 46 rfl) Via.refl Z16 (hb hby d3_26) rfl ?_
  refine go_aload_n (pc' := 30) (hb hby d3_29) rfl rfl rfl ?_
  have Z17 := (wd_DEPENDS G).2.exa.ext O8.2
  refine callV0 (cells' := 1) (slots' := 3) (Wd := 0) (argsL := [.null]) (rest := []) (pay_of (a0 := a0) (c_eqnull l G (w_DEPENDS Z) h1 O8 ) (wk G 52 rfl) (wk G 2 rfl) (by decide) (by decide)) Z17 (wk G 48 rfl) (wk G 49 rfl) (wk G 51 rfl) (wk G 51 rfl) (wk G 50 rfl) (by decide) pd2 rfl rfl (by rw [hml]; rfl) (Nat.le_of_ble_eq_true rfl) rfl rfl (by decide) (by decide) all0 (fun _ _ => sf0) (hb hby d3_30) (k_v (pc' := 33) rfl ?_)
  rintro _ h18 ⟨rfl, rfl⟩ K19
  refine go_ifT (pc' := 39) (hb hby d3_33) (by decide) rfl (by decide) ?_
  refine go_iinc (pc' := 42) (ls' := #[.val .null, .val .null, .val (.ref r3), .val (.int (3 : Int32)), .val (.int (3 : Int32)), .val (.ref (s_DEPENDS Z))]) (y := (3 : Int32)) (hb hby d3_39) rfl rfl rfl rfl ?_
  refine go_goto (pc' := 12) (hb hby d3_42) (by decide) rfl ?_
  refine go_iload (pc' := 14) (hb hby d3_12) rfl rfl ?_
  refine go_iload_n (pc' := 15) (hb hby d3_14) rfl rfl ?_
  refine go_icT (pc' := 45) (hb hby d3_15) (by decide) rfl (by decide) ?_
  refine go_aload_n (pc' := 46) (hb hby d3_45) rfl rfl rfl ?_
  have K20 : Keep h0 h1 [] := ((Keep.refl h0 []).trans K2 all0)
  refine go_areturn hret hlk rfl rfl (hb hby d3_46) (by decide) (by decide) ⟨_, rfl, rfl⟩ K20
theorem ef_sized6 (m : MethodId)   : entryFrame m #[(.int (6 : Int32))] 1 = mkF m 0 #[.val (.int (6 : Int32))] [] := by first | (simp [entryFrame, mkF, argsToLocals, Value.category]; done) | rfl
def Q_sized6 (Z : State)   (h0 : Heap) (xv : Value) (h : Heap) : Prop := ∃ (r : Addr) (k : ClassId), (.ref r) = xv ∧ h0.size ≤ r ∧ Arv Z h r k (.char) (6 : Int32) [(.int (0 : Int32)), (.int (0 : Int32)), (.int (0 : Int32)), (.int (0 : Int32)), (.int (0 : Int32)), (.int (0 : Int32))] (.int 0)
set_option maxRecDepth 65536 in
set_option maxHeartbeats 40000000 in
theorem c_sized6 (l : Launch) {Z : State} {a0 : Array Value} (G : GH Z a0)   (h0 : Heap) (O0 : Old Z Z.heap.size h0)  : Con false [] l Z (⟨"com/example/ispol/ispol/scoring/LabelOfPinLaw", "sized", "(I)[C"⟩ : MethodName) method_3_code 1 (some (.array .char)) [] ({ frames := 0, cells := 1, slots := 6, locals := 0 } : Room) #[(.int (6 : Int32))] h0 [] (rvl (Q_sized6 Z h0)) := by
  refine con_of (a0 := a0) (plainFor_of_name pn3) (fun q => rfl) EW.nil O0 (fun m => ef_sized6 m ) ?_
  intro p_ e_ s_ m_ below_ meth_ c_ hby hml hret hlk hnm
  refine go_iload_n (pc' := 1) (hb hby d4_0) rfl rfl ?_
  refine go_bipush (pc' := 3) (v := 6) (hb hby d4_1) rfl rfl ?_
  refine go_icF (pc' := 6) (hb hby d4_3) rfl (by decide) ?_
  refine go_bipush (pc' := 8) (v := 6) (hb hby d4_6) rfl rfl ?_
  refine go_newP (pc' := 10) (cells' := 1) (slots' := 6) (cap := 6) (vs := [(.int (0 : Int32)), (.int (0 : Int32)), (.int (0 : Int32)), (.int (0 : Int32)), (.int (0 : Int32)), (.int (0 : Int32))]) (ty := .char) (dv := .int 0) (wk G 65 rfl) rfl rfl (hb hby d4_8) rfl (by decide) rfl (by decide) rfl rfl rfl (by decide) (by decide) (fun h1 a2 k6 g3 X4 A5 => ?_)
  have K7 : Keep h0 h1 [] := ((Keep.refl h0 []).ext X4)
  refine go_areturn hret hlk rfl rfl (hb hby d4_10) (by decide) (by decide) ⟨_, rfl, ⟨a2, k6, rfl, (Nat.le_of_eq g3), A5⟩⟩ K7
theorem ef_sized7 (m : MethodId)   : entryFrame m #[(.int (7 : Int32))] 1 = mkF m 0 #[.val (.int (7 : Int32))] [] := by first | (simp [entryFrame, mkF, argsToLocals, Value.category]; done) | rfl
def Q_sized7 (Z : State)   (h0 : Heap) (xv : Value) (h : Heap) : Prop := ∃ (r : Addr) (k : ClassId), (.ref r) = xv ∧ h0.size ≤ r ∧ Arv Z h r k (.char) (7 : Int32) [(.int (0 : Int32)), (.int (0 : Int32)), (.int (0 : Int32)), (.int (0 : Int32)), (.int (0 : Int32)), (.int (0 : Int32)), (.int (0 : Int32))] (.int 0)
set_option maxRecDepth 65536 in
set_option maxHeartbeats 40000000 in
theorem c_sized7 (l : Launch) {Z : State} {a0 : Array Value} (G : GH Z a0)   (h0 : Heap) (O0 : Old Z Z.heap.size h0)  : Con false [] l Z (⟨"com/example/ispol/ispol/scoring/LabelOfPinLaw", "sized", "(I)[C"⟩ : MethodName) method_3_code 1 (some (.array .char)) [] ({ frames := 0, cells := 1, slots := 7, locals := 0 } : Room) #[(.int (7 : Int32))] h0 [] (rvl (Q_sized7 Z h0)) := by
  refine con_of (a0 := a0) (plainFor_of_name pn3) (fun q => rfl) EW.nil O0 (fun m => ef_sized7 m ) ?_
  intro p_ e_ s_ m_ below_ meth_ c_ hby hml hret hlk hnm
  refine go_iload_n (pc' := 1) (hb hby d4_0) rfl rfl ?_
  refine go_bipush (pc' := 3) (v := 6) (hb hby d4_1) rfl rfl ?_
  refine go_icT (pc' := 11) (hb hby d4_3) (by decide) rfl (by decide) ?_
  refine go_iload_n (pc' := 12) (hb hby d4_11) rfl rfl ?_
  refine go_bipush (pc' := 14) (v := 7) (hb hby d4_12) rfl rfl ?_
  refine go_icF (pc' := 17) (hb hby d4_14) rfl (by decide) ?_
  refine go_bipush (pc' := 19) (v := 7) (hb hby d4_17) rfl rfl ?_
  refine go_newP (pc' := 21) (cells' := 1) (slots' := 7) (cap := 7) (vs := [(.int (0 : Int32)), (.int (0 : Int32)), (.int (0 : Int32)), (.int (0 : Int32)), (.int (0 : Int32)), (.int (0 : Int32)), (.int (0 : Int32))]) (ty := .char) (dv := .int 0) (wk G 65 rfl) rfl rfl (hb hby d4_19) rfl (by decide) rfl (by decide) rfl rfl rfl (by decide) (by decide) (fun h1 a2 k6 g3 X4 A5 => ?_)
  have K7 : Keep h0 h1 [] := ((Keep.refl h0 []).ext X4)
  refine go_areturn hret hlk rfl rfl (hb hby d4_21) (by decide) (by decide) ⟨_, rfl, ⟨a2, k6, rfl, (Nat.le_of_eq g3), A5⟩⟩ K7
theorem ef_sized8 (m : MethodId)   : entryFrame m #[(.int (8 : Int32))] 1 = mkF m 0 #[.val (.int (8 : Int32))] [] := by first | (simp [entryFrame, mkF, argsToLocals, Value.category]; done) | rfl
def Q_sized8 (Z : State)   (h0 : Heap) (xv : Value) (h : Heap) : Prop := ∃ (r : Addr) (k : ClassId), (.ref r) = xv ∧ h0.size ≤ r ∧ Arv Z h r k (.char) (8 : Int32) [(.int (0 : Int32)), (.int (0 : Int32)), (.int (0 : Int32)), (.int (0 : Int32)), (.int (0 : Int32)), (.int (0 : Int32)), (.int (0 : Int32)), (.int (0 : Int32))] (.int 0)
set_option maxRecDepth 65536 in
set_option maxHeartbeats 40000000 in
theorem c_sized8 (l : Launch) {Z : State} {a0 : Array Value} (G : GH Z a0)   (h0 : Heap) (O0 : Old Z Z.heap.size h0)  : Con false [] l Z (⟨"com/example/ispol/ispol/scoring/LabelOfPinLaw", "sized", "(I)[C"⟩ : MethodName) method_3_code 1 (some (.array .char)) [] ({ frames := 0, cells := 1, slots := 8, locals := 0 } : Room) #[(.int (8 : Int32))] h0 [] (rvl (Q_sized8 Z h0)) := by
  refine con_of (a0 := a0) (plainFor_of_name pn3) (fun q => rfl) EW.nil O0 (fun m => ef_sized8 m ) ?_
  intro p_ e_ s_ m_ below_ meth_ c_ hby hml hret hlk hnm
  refine go_iload_n (pc' := 1) (hb hby d4_0) rfl rfl ?_
  refine go_bipush (pc' := 3) (v := 6) (hb hby d4_1) rfl rfl ?_
  refine go_icT (pc' := 11) (hb hby d4_3) (by decide) rfl (by decide) ?_
  refine go_iload_n (pc' := 12) (hb hby d4_11) rfl rfl ?_
  refine go_bipush (pc' := 14) (v := 7) (hb hby d4_12) rfl rfl ?_
  refine go_icT (pc' := 22) (hb hby d4_14) (by decide) rfl (by decide) ?_
  refine go_iload_n (pc' := 23) (hb hby d4_22) rfl rfl ?_
  refine go_bipush (pc' := 25) (v := 8) (hb hby d4_23) rfl rfl ?_
  refine go_icF (pc' := 28) (hb hby d4_25) rfl (by decide) ?_
  refine go_bipush (pc' := 30) (v := 8) (hb hby d4_28) rfl rfl ?_
  refine go_newP (pc' := 32) (cells' := 1) (slots' := 8) (cap := 8) (vs := [(.int (0 : Int32)), (.int (0 : Int32)), (.int (0 : Int32)), (.int (0 : Int32)), (.int (0 : Int32)), (.int (0 : Int32)), (.int (0 : Int32)), (.int (0 : Int32))]) (ty := .char) (dv := .int 0) (wk G 65 rfl) rfl rfl (hb hby d4_30) rfl (by decide) rfl (by decide) rfl rfl rfl (by decide) (by decide) (fun h1 a2 k6 g3 X4 A5 => ?_)
  have K7 : Keep h0 h1 [] := ((Keep.refl h0 []).ext X4)
  refine go_areturn hret hlk rfl rfl (hb hby d4_32) (by decide) (by decide) ⟨_, rfl, ⟨a2, k6, rfl, (Nat.le_of_eq g3), A5⟩⟩ K7
theorem ef_sized9 (m : MethodId)   : entryFrame m #[(.int (9 : Int32))] 1 = mkF m 0 #[.val (.int (9 : Int32))] [] := by first | (simp [entryFrame, mkF, argsToLocals, Value.category]; done) | rfl
def Q_sized9 (Z : State)   (h0 : Heap) (xv : Value) (h : Heap) : Prop := ∃ (r : Addr) (k : ClassId), (.ref r) = xv ∧ h0.size ≤ r ∧ Arv Z h r k (.char) (9 : Int32) [(.int (0 : Int32)), (.int (0 : Int32)), (.int (0 : Int32)), (.int (0 : Int32)), (.int (0 : Int32)), (.int (0 : Int32)), (.int (0 : Int32)), (.int (0 : Int32)), (.int (0 : Int32))] (.int 0)
set_option maxRecDepth 65536 in
set_option maxHeartbeats 40000000 in
theorem c_sized9 (l : Launch) {Z : State} {a0 : Array Value} (G : GH Z a0)   (h0 : Heap) (O0 : Old Z Z.heap.size h0)  : Con false [] l Z (⟨"com/example/ispol/ispol/scoring/LabelOfPinLaw", "sized", "(I)[C"⟩ : MethodName) method_3_code 1 (some (.array .char)) [] ({ frames := 0, cells := 1, slots := 9, locals := 0 } : Room) #[(.int (9 : Int32))] h0 [] (rvl (Q_sized9 Z h0)) := by
  refine con_of (a0 := a0) (plainFor_of_name pn3) (fun q => rfl) EW.nil O0 (fun m => ef_sized9 m ) ?_
  intro p_ e_ s_ m_ below_ meth_ c_ hby hml hret hlk hnm
  refine go_iload_n (pc' := 1) (hb hby d4_0) rfl rfl ?_
  refine go_bipush (pc' := 3) (v := 6) (hb hby d4_1) rfl rfl ?_
  refine go_icT (pc' := 11) (hb hby d4_3) (by decide) rfl (by decide) ?_
  refine go_iload_n (pc' := 12) (hb hby d4_11) rfl rfl ?_
  refine go_bipush (pc' := 14) (v := 7) (hb hby d4_12) rfl rfl ?_
  refine go_icT (pc' := 22) (hb hby d4_14) (by decide) rfl (by decide) ?_
  refine go_iload_n (pc' := 23) (hb hby d4_22) rfl rfl ?_
  refine go_bipush (pc' := 25) (v := 8) (hb hby d4_23) rfl rfl ?_
  refine go_icT (pc' := 33) (hb hby d4_25) (by decide) rfl (by decide) ?_
  refine go_bipush (pc' := 35) (v := 9) (hb hby d4_33) rfl rfl ?_
  refine go_newP (pc' := 37) (cells' := 1) (slots' := 9) (cap := 9) (vs := [(.int (0 : Int32)), (.int (0 : Int32)), (.int (0 : Int32)), (.int (0 : Int32)), (.int (0 : Int32)), (.int (0 : Int32)), (.int (0 : Int32)), (.int (0 : Int32)), (.int (0 : Int32))]) (ty := .char) (dv := .int 0) (wk G 65 rfl) rfl rfl (hb hby d4_35) rfl (by decide) rfl (by decide) rfl rfl rfl (by decide) (by decide) (fun h1 a2 k6 g3 X4 A5 => ?_)
  have K7 : Keep h0 h1 [] := ((Keep.refl h0 []).ext X4)
  refine go_areturn hret hlk rfl rfl (hb hby d4_37) (by decide) (by decide) ⟨_, rfl, ⟨a2, k6, rfl, (Nat.le_of_eq g3), A5⟩⟩ K7
theorem ef_min88 (m : MethodId)   : entryFrame m #[(.int (8 : Int32)), (.int (8 : Int32))] 2 = mkF m 0 #[.val (.int (8 : Int32)), .val (.int (8 : Int32))] [] := by first | (simp [entryFrame, mkF, argsToLocals, Value.category]; done) | rfl
def Q_min88 (Z : State)   (h0 : Heap) (xv : Value) (h : Heap) : Prop := (.int (8 : Int32)) = xv ∧ h0 = h
set_option maxRecDepth 65536 in
set_option maxHeartbeats 40000000 in
theorem c_min88 (l : Launch) {Z : State} {a0 : Array Value} (G : GH Z a0)   (h0 : Heap) (O0 : Old Z Z.heap.size h0)  : Con false [] l Z (⟨"java/lang/Math", "min", "(II)I"⟩ : MethodName) jdk_29_method_69_code 2 (some .int) [] ({ frames := 0, cells := 0, slots := 0, locals := 0 } : Room) #[(.int (8 : Int32)), (.int (8 : Int32))] h0 [] (rvl (Q_min88 Z h0)) := by
  refine con_of (a0 := a0) (Jvm.Free.JP.mathPlain rfl (by decide)) (fun q => rfl) EW.nil O0 (fun m => ef_min88 m ) ?_
  intro p_ e_ s_ m_ below_ meth_ c_ hby hml hret hlk hnm
  refine go_iload_n (pc' := 1) (hb hby d5_0) rfl rfl ?_
  refine go_iload_n (pc' := 2) (hb hby d5_1) rfl rfl ?_
  refine go_icF (pc' := 5) (hb hby d5_2) rfl (by decide) ?_
  refine go_iload_n (pc' := 6) (hb hby d5_5) rfl rfl ?_
  refine go_goto (pc' := 10) (hb hby d5_6) (by decide) rfl ?_
  refine go_ireturn hret hlk rfl (by simp) (hb hby d5_10) (by decide) (by decide) ⟨_, rfl, ⟨rfl, rfl⟩⟩ (Keep.refl h0 [])
theorem ef_min78 (m : MethodId)   : entryFrame m #[(.int (7 : Int32)), (.int (8 : Int32))] 2 = mkF m 0 #[.val (.int (7 : Int32)), .val (.int (8 : Int32))] [] := by first | (simp [entryFrame, mkF, argsToLocals, Value.category]; done) | rfl
def Q_min78 (Z : State)   (h0 : Heap) (xv : Value) (h : Heap) : Prop := (.int (7 : Int32)) = xv ∧ h0 = h
set_option maxRecDepth 65536 in
set_option maxHeartbeats 40000000 in
theorem c_min78 (l : Launch) {Z : State} {a0 : Array Value} (G : GH Z a0)   (h0 : Heap) (O0 : Old Z Z.heap.size h0)  : Con false [] l Z (⟨"java/lang/Math", "min", "(II)I"⟩ : MethodName) jdk_29_method_69_code 2 (some .int) [] ({ frames := 0, cells := 0, slots := 0, locals := 0 } : Room) #[(.int (7 : Int32)), (.int (8 : Int32))] h0 [] (rvl (Q_min78 Z h0)) := by
  refine con_of (a0 := a0) (Jvm.Free.JP.mathPlain rfl (by decide)) (fun q => rfl) EW.nil O0 (fun m => ef_min78 m ) ?_
  intro p_ e_ s_ m_ below_ meth_ c_ hby hml hret hlk hnm
  refine go_iload_n (pc' := 1) (hb hby d5_0) rfl rfl ?_
  refine go_iload_n (pc' := 2) (hb hby d5_1) rfl rfl ?_
  refine go_icF (pc' := 5) (hb hby d5_2) rfl (by decide) ?_
  refine go_iload_n (pc' := 6) (hb hby d5_5) rfl rfl ?_
  refine go_goto (pc' := 10) (hb hby d5_6) (by decide) rfl ?_
  refine go_ireturn hret hlk rfl (by simp) (hb hby d5_10) (by decide) (by decide) ⟨_, rfl, ⟨rfl, rfl⟩⟩ (Keep.refl h0 [])
theorem ef_min98 (m : MethodId)   : entryFrame m #[(.int (9 : Int32)), (.int (8 : Int32))] 2 = mkF m 0 #[.val (.int (9 : Int32)), .val (.int (8 : Int32))] [] := by first | (simp [entryFrame, mkF, argsToLocals, Value.category]; done) | rfl
def Q_min98 (Z : State)   (h0 : Heap) (xv : Value) (h : Heap) : Prop := (.int (8 : Int32)) = xv ∧ h0 = h
set_option maxRecDepth 65536 in
set_option maxHeartbeats 40000000 in
theorem c_min98 (l : Launch) {Z : State} {a0 : Array Value} (G : GH Z a0)   (h0 : Heap) (O0 : Old Z Z.heap.size h0)  : Con false [] l Z (⟨"java/lang/Math", "min", "(II)I"⟩ : MethodName) jdk_29_method_69_code 2 (some .int) [] ({ frames := 0, cells := 0, slots := 0, locals := 0 } : Room) #[(.int (9 : Int32)), (.int (8 : Int32))] h0 [] (rvl (Q_min98 Z h0)) := by
  refine con_of (a0 := a0) (Jvm.Free.JP.mathPlain rfl (by decide)) (fun q => rfl) EW.nil O0 (fun m => ef_min98 m ) ?_
  intro p_ e_ s_ m_ below_ meth_ c_ hby hml hret hlk hnm
  refine go_iload_n (pc' := 1) (hb hby d5_0) rfl rfl ?_
  refine go_iload_n (pc' := 2) (hb hby d5_1) rfl rfl ?_
  refine go_icT (pc' := 9) (hb hby d5_2) (by decide) rfl (by decide) ?_
  refine go_iload_n (pc' := 10) (hb hby d5_9) rfl rfl ?_
  refine go_ireturn hret hlk rfl (by simp) (hb hby d5_10) (by decide) (by decide) ⟨_, rfl, ⟨rfl, rfl⟩⟩ (Keep.refl h0 [])
theorem ef_min77 (m : MethodId)   : entryFrame m #[(.int (7 : Int32)), (.int (7 : Int32))] 2 = mkF m 0 #[.val (.int (7 : Int32)), .val (.int (7 : Int32))] [] := by first | (simp [entryFrame, mkF, argsToLocals, Value.category]; done) | rfl
def Q_min77 (Z : State)   (h0 : Heap) (xv : Value) (h : Heap) : Prop := (.int (7 : Int32)) = xv ∧ h0 = h
set_option maxRecDepth 65536 in
set_option maxHeartbeats 40000000 in
theorem c_min77 (l : Launch) {Z : State} {a0 : Array Value} (G : GH Z a0)   (h0 : Heap) (O0 : Old Z Z.heap.size h0)  : Con false [] l Z (⟨"java/lang/Math", "min", "(II)I"⟩ : MethodName) jdk_29_method_69_code 2 (some .int) [] ({ frames := 0, cells := 0, slots := 0, locals := 0 } : Room) #[(.int (7 : Int32)), (.int (7 : Int32))] h0 [] (rvl (Q_min77 Z h0)) := by
  refine con_of (a0 := a0) (Jvm.Free.JP.mathPlain rfl (by decide)) (fun q => rfl) EW.nil O0 (fun m => ef_min77 m ) ?_
  intro p_ e_ s_ m_ below_ meth_ c_ hby hml hret hlk hnm
  refine go_iload_n (pc' := 1) (hb hby d5_0) rfl rfl ?_
  refine go_iload_n (pc' := 2) (hb hby d5_1) rfl rfl ?_
  refine go_icF (pc' := 5) (hb hby d5_2) rfl (by decide) ?_
  refine go_iload_n (pc' := 6) (hb hby d5_5) rfl rfl ?_
  refine go_goto (pc' := 10) (hb hby d5_6) (by decide) rfl ?_
  refine go_ireturn hret hlk rfl (by simp) (hb hby d5_10) (by decide) (by decide) ⟨_, rfl, ⟨rfl, rfl⟩⟩ (Keep.refl h0 [])
theorem ef_min67 (m : MethodId)   : entryFrame m #[(.int (6 : Int32)), (.int (7 : Int32))] 2 = mkF m 0 #[.val (.int (6 : Int32)), .val (.int (7 : Int32))] [] := by first | (simp [entryFrame, mkF, argsToLocals, Value.category]; done) | rfl
def Q_min67 (Z : State)   (h0 : Heap) (xv : Value) (h : Heap) : Prop := (.int (6 : Int32)) = xv ∧ h0 = h
set_option maxRecDepth 65536 in
set_option maxHeartbeats 40000000 in
theorem c_min67 (l : Launch) {Z : State} {a0 : Array Value} (G : GH Z a0)   (h0 : Heap) (O0 : Old Z Z.heap.size h0)  : Con false [] l Z (⟨"java/lang/Math", "min", "(II)I"⟩ : MethodName) jdk_29_method_69_code 2 (some .int) [] ({ frames := 0, cells := 0, slots := 0, locals := 0 } : Room) #[(.int (6 : Int32)), (.int (7 : Int32))] h0 [] (rvl (Q_min67 Z h0)) := by
  refine con_of (a0 := a0) (Jvm.Free.JP.mathPlain rfl (by decide)) (fun q => rfl) EW.nil O0 (fun m => ef_min67 m ) ?_
  intro p_ e_ s_ m_ below_ meth_ c_ hby hml hret hlk hnm
  refine go_iload_n (pc' := 1) (hb hby d5_0) rfl rfl ?_
  refine go_iload_n (pc' := 2) (hb hby d5_1) rfl rfl ?_
  refine go_icF (pc' := 5) (hb hby d5_2) rfl (by decide) ?_
  refine go_iload_n (pc' := 6) (hb hby d5_5) rfl rfl ?_
  refine go_goto (pc' := 10) (hb hby d5_6) (by decide) rfl ?_
  refine go_ireturn hret hlk rfl (by simp) (hb hby d5_10) (by decide) (by decide) ⟨_, rfl, ⟨rfl, rfl⟩⟩ (Keep.refl h0 [])
theorem ef_min87 (m : MethodId)   : entryFrame m #[(.int (8 : Int32)), (.int (7 : Int32))] 2 = mkF m 0 #[.val (.int (8 : Int32)), .val (.int (7 : Int32))] [] := by first | (simp [entryFrame, mkF, argsToLocals, Value.category]; done) | rfl
def Q_min87 (Z : State)   (h0 : Heap) (xv : Value) (h : Heap) : Prop := (.int (7 : Int32)) = xv ∧ h0 = h
set_option maxRecDepth 65536 in
set_option maxHeartbeats 40000000 in
theorem c_min87 (l : Launch) {Z : State} {a0 : Array Value} (G : GH Z a0)   (h0 : Heap) (O0 : Old Z Z.heap.size h0)  : Con false [] l Z (⟨"java/lang/Math", "min", "(II)I"⟩ : MethodName) jdk_29_method_69_code 2 (some .int) [] ({ frames := 0, cells := 0, slots := 0, locals := 0 } : Room) #[(.int (8 : Int32)), (.int (7 : Int32))] h0 [] (rvl (Q_min87 Z h0)) := by
  refine con_of (a0 := a0) (Jvm.Free.JP.mathPlain rfl (by decide)) (fun q => rfl) EW.nil O0 (fun m => ef_min87 m ) ?_
  intro p_ e_ s_ m_ below_ meth_ c_ hby hml hret hlk hnm
  refine go_iload_n (pc' := 1) (hb hby d5_0) rfl rfl ?_
  refine go_iload_n (pc' := 2) (hb hby d5_1) rfl rfl ?_
  refine go_icT (pc' := 9) (hb hby d5_2) (by decide) rfl (by decide) ?_
  refine go_iload_n (pc' := 10) (hb hby d5_9) rfl rfl ?_
  refine go_ireturn hret hlk rfl (by simp) (hb hby d5_10) (by decide) (by decide) ⟨_, rfl, ⟨rfl, rfl⟩⟩ (Keep.refl h0 [])
theorem ef_fill88 (m : MethodId) (a : Addr) (b : Addr)  : entryFrame m #[(.ref a), (.ref b)] 3 = mkF m 0 #[.val (.ref a), .val (.ref b), .unset] [] := by first | (simp [entryFrame, mkF, argsToLocals, Value.category]; done) | rfl
def Q_fill88 (Z : State) (a : Addr) (b : Addr) (k : ClassId) (c0 : Int32) (c1 : Int32) (c2 : Int32) (c3 : Int32) (c4 : Int32) (c5 : Int32) (c6 : Int32) (c7 : Int32) (h0 : Heap) (h : Heap) : Prop := Arv Z h a k (.char) (8 : Int32) [(.int c0), (.int c1), (.int c2), (.int c3), (.int c4), (.int c5), (.int c6), (.int c7)] (.int 0)
set_option maxRecDepth 65536 in
set_option maxHeartbeats 40000000 in
theorem c_fill88 (l : Launch) {Z : State} {a0 : Array Value} (G : GH Z a0) (a : Addr) (b : Addr) (k : ClassId) (c0 : Int32) (c1 : Int32) (c2 : Int32) (c3 : Int32) (c4 : Int32) (c5 : Int32) (c6 : Int32) (c7 : Int32) (h0 : Heap) (O0 : Old Z Z.heap.size h0) (p1 : Z.heap.size ≤ a) (p2 : Arv Z h0 a k (.char) (8 : Int32) [(.int (0 : Int32)), (.int (0 : Int32)), (.int (0 : Int32)), (.int (0 : Int32)), (.int (0 : Int32)), (.int (0 : Int32)), (.int (0 : Int32)), (.int (0 : Int32))] (.int 0)) (p3 : Str Z h0 b [c0, c1, c2, c3, c4, c5, c6, c7]) : Con false [] l Z (⟨"com/example/ispol/ispol/scoring/LabelOfPinLaw", "fill", "([CLjava/lang/String;)V"⟩ : MethodName) method_4_code 3 none [] ({ frames := 4, cells := 0, slots := 0, locals := 55 } : Room) #[(.ref a), (.ref b)] h0 [a] (rno (Q_fill88 Z a b k c0 c1 c2 c3 c4 c5 c6 c7 h0)) := by
  refine con_of (a0 := a0) (plainFor_of_name pn3) (fun q => rfl) EW.nil O0 (fun m => ef_fill88 m a b) ?_
  intro p_ e_ s_ m_ below_ meth_ c_ hby hml hret hlk hnm
  refine go_aload_n (pc' := 1) (hb hby d6_0) rfl rfl rfl ?_
  refine go_arraylength (pc' := 2) p2 (hb hby d6_1) rfl ?_
  refine go_aload_n (pc' := 3) (hb hby d6_2) rfl rfl rfl ?_
  refine callV0 (cells' := 0) (slots' := 0) (Wd := 1) (argsL := []) (rest := [(.int (8 : Int32))]) (pay_len G O0 (n := (8 : Int32)) p3 rfl (by decide) (by decide)) p3.exa (wk G 12 rfl) (wk G 13 rfl) (wk G 15 rfl) (wk G 15 rfl) (wk G 14 rfl) (by decide) pd3 rfl rfl (by rw [hml]; rfl) (Nat.le_of_ble_eq_true rfl) rfl rfl (by decide) (by decide) all0 (fun _ _ => sf0) (hb hby d6_3) (k_v (pc' := 6) rfl ?_)
  rintro _ _ ⟨rfl, rfl⟩ -
  refine callS0 (cells' := 0) (slots' := 0) (Wd := 0) (argsL := [(.int (8 : Int32)), (.int (8 : Int32))]) (rest := []) (pay_of (a0 := a0) (c_min88 l G  h0 O0 ) (wk G 72 rfl) (wk G 71 rfl) (by decide) (by decide)) (wk G 69 rfl) (wk G 70 rfl) (wk G 71 rfl) (wk G 72 rfl) (by decide) pd4 rfl rfl (by rw [hml]; rfl) (Nat.le_of_ble_eq_true rfl) rfl rfl (by decide) (by decide) all0 (fun _ _ => sf0) (hb hby d6_6) (k_v (pc' := 9) rfl ?_)
  rintro _ h1 ⟨rfl, rfl⟩ K2
  refine go_istore_n (pc' := 10) (ls' := #[.val (.ref a), .val (.ref b), .val (.int (8 : Int32))]) (hb hby d6_9) rfl rfl ?_
  refine go_iload_n (pc' := 11) (hb hby d6_10) rfl rfl ?_
  refine go_ifF (pc' := 14) (hb hby d6_11) rfl (by decide) ?_
  refine go_aload_n (pc' := 15) (hb hby d6_14) rfl rfl rfl ?_
  refine go_iconst (pc' := 16) (v := 0) (hb hby d6_15) rfl rfl ?_
  refine go_aload_n (pc' := 17) (hb hby d6_16) rfl rfl rfl ?_
  refine go_iconst (pc' := 18) (v := 0) (hb hby d6_17) rfl rfl ?_
  have q3 : C8 c0 := by obtain ⟨_, _, _, _, _, _, q, _⟩ := id p3; exact q _ (by simp)
  refine callV0 (cells' := 0) (slots' := 0) (Wd := 2) (argsL := [(.int (0 : Int32))]) (rest := [(.int (0 : Int32)), (.ref a)]) (pay_chr G O0 (i := 0) (c := c0) p3 rfl (Nat.le_of_ble_eq_true rfl) rfl (by decide) (by decide)) p3.exa (wk G 73 rfl) (wk G 74 rfl) (wk G 76 rfl) (wk G 76 rfl) (wk G 75 rfl) (by decide) pd5 rfl rfl (by rw [hml]; rfl) (Nat.le_of_ble_eq_true rfl) rfl rfl (by decide) (by decide) all0 (fun _ _ => sf0) (hb hby d6_18) (k_v (pc' := 21) rfl ?_)
  rintro _ _ ⟨rfl, rfl⟩ -
  refine go_stC (pc' := 22) (i := 0) (x' := c0) (vs' := [(.int c0), (.int (0 : Int32)), (.int (0 : Int32)), (.int (0 : Int32)), (.int (0 : Int32)), (.int (0 : Int32)), (.int (0 : Int32)), (.int (0 : Int32))]) p2 p1 (by decide) (by decide) rfl (Nat.le_of_ble_eq_true rfl) (i2c_c8 q3) rfl (hb hby d6_21) rfl (fun h4 W5 A6 => ?_)
  refine go_iload_n (pc' := 23) (hb hby d6_22) rfl rfl ?_
  refine go_iconst (pc' := 24) (v := 1) (hb hby d6_23) rfl rfl ?_
  refine go_icF (pc' := 27) (hb hby d6_24) rfl (by decide) ?_
  refine go_aload_n (pc' := 28) (hb hby d6_27) rfl rfl rfl ?_
  refine go_iconst (pc' := 29) (v := 1) (hb hby d6_28) rfl rfl ?_
  refine go_aload_n (pc' := 30) (hb hby d6_29) rfl rfl rfl ?_
  refine go_iconst (pc' := 31) (v := 1) (hb hby d6_30) rfl rfl ?_
  have S7 := (p3.keepA (Keep.of_wr W5) p2 (by decide) (wk G 3 rfl))
  refine go_old (fun O8 => ?_)
  have q9 : C8 c1 := by obtain ⟨_, _, _, _, _, _, q, _⟩ := id S7; exact q _ (by simp)
  have E10 := (p3.exa.wr W5)
  refine callV0 (cells' := 0) (slots' := 0) (Wd := 2) (argsL := [(.int (1 : Int32))]) (rest := [(.int (1 : Int32)), (.ref a)]) (pay_chr G O8 (i := 1) (c := c1) S7 rfl (Nat.le_of_ble_eq_true rfl) rfl (by decide) (by decide)) E10 (wk G 73 rfl) (wk G 74 rfl) (wk G 76 rfl) (wk G 76 rfl) (wk G 75 rfl) (by decide) pd5 rfl rfl (by rw [hml]; rfl) (Nat.le_of_ble_eq_true rfl) rfl rfl (by decide) (by decide) all0 (fun _ _ => sf0) (hb hby d6_31) (k_v (pc' := 34) rfl ?_)
  rintro _ _ ⟨rfl, rfl⟩ -
  refine go_stC (pc' := 35) (i := 1) (x' := c1) (vs' := [(.int c0), (.int c1), (.int (0 : Int32)), (.int (0 : Int32)), (.int (0 : Int32)), (.int (0 : Int32)), (.int (0 : Int32)), (.int (0 : Int32))]) A6 p1 (by decide) (by decide) rfl (Nat.le_of_ble_eq_true rfl) (i2c_c8 q9) rfl (hb hby d6_34) rfl (fun h11 W12 A13 => ?_)
  refine go_iload_n (pc' := 36) (hb hby d6_35) rfl rfl ?_
  refine go_iconst (pc' := 37) (v := 2) (hb hby d6_36) rfl rfl ?_
  refine go_icF (pc' := 40) (hb hby d6_37) rfl (by decide) ?_
  refine go_aload_n (pc' := 41) (hb hby d6_40) rfl rfl rfl ?_
  refine go_iconst (pc' := 42) (v := 2) (hb hby d6_41) rfl rfl ?_
  refine go_aload_n (pc' := 43) (hb hby d6_42) rfl rfl rfl ?_
  refine go_iconst (pc' := 44) (v := 2) (hb hby d6_43) rfl rfl ?_
  have S14 := (S7.keepA (Keep.of_wr W12) A6 (by decide) (wk G 3 rfl))
  refine go_old (fun O15 => ?_)
  have q16 : C8 c2 := by obtain ⟨_, _, _, _, _, _, q, _⟩ := id S14; exact q _ (by simp)
  have E17 := (E10.wr W12)
  refine callV0 (cells' := 0) (slots' := 0) (Wd := 2) (argsL := [(.int (2 : Int32))]) (rest := [(.int (2 : Int32)), (.ref a)]) (pay_chr G O15 (i := 2) (c := c2) S14 rfl (Nat.le_of_ble_eq_true rfl) rfl (by decide) (by decide)) E17 (wk G 73 rfl) (wk G 74 rfl) (wk G 76 rfl) (wk G 76 rfl) (wk G 75 rfl) (by decide) pd5 rfl rfl (by rw [hml]; rfl) (Nat.le_of_ble_eq_true rfl) rfl rfl (by decide) (by decide) all0 (fun _ _ => sf0) (hb hby d6_44) (k_v (pc' := 47) rfl ?_)
  rintro _ _ ⟨rfl, rfl⟩ -
  refine go_stC (pc' := 48) (i := 2) (x' := c2) (vs' := [(.int c0), (.int c1), (.int c2), (.int (0 : Int32)), (.int (0 : Int32)), (.int (0 : Int32)), (.int (0 : Int32)), (.int (0 : Int32))]) A13 p1 (by decide) (by decide) rfl (Nat.le_of_ble_eq_true rfl) (i2c_c8 q16) rfl (hb hby d6_47) rfl (fun h18 W19 A20 => ?_)
  refine go_iload_n (pc' := 49) (hb hby d6_48) rfl rfl ?_
  refine go_iconst (pc' := 50) (v := 3) (hb hby d6_49) rfl rfl ?_
  refine go_icF (pc' := 53) (hb hby d6_50) rfl (by decide) ?_
  refine go_aload_n (pc' := 54) (hb hby d6_53) rfl rfl rfl ?_
  refine go_iconst (pc' := 55) (v := 3) (hb hby d6_54) rfl rfl ?_
  refine go_aload_n (pc' := 56) (hb hby d6_55) rfl rfl rfl ?_
  refine go_iconst (pc' := 57) (v := 3) (hb hby d6_56) rfl rfl ?_
  have S21 := (S14.keepA (Keep.of_wr W19) A13 (by decide) (wk G 3 rfl))
  refine go_old (fun O22 => ?_)
  have q23 : C8 c3 := by obtain ⟨_, _, _, _, _, _, q, _⟩ := id S21; exact q _ (by simp)
  have E24 := (E17.wr W19)
  refine callV0 (cells' := 0) (slots' := 0) (Wd := 2) (argsL := [(.int (3 : Int32))]) (rest := [(.int (3 : Int32)), (.ref a)]) (pay_chr G O22 (i := 3) (c := c3) S21 rfl (Nat.le_of_ble_eq_true rfl) rfl (by decide) (by decide)) E24 (wk G 73 rfl) (wk G 74 rfl) (wk G 76 rfl) (wk G 76 rfl) (wk G 75 rfl) (by decide) pd5 rfl rfl (by rw [hml]; rfl) (Nat.le_of_ble_eq_true rfl) rfl rfl (by decide) (by decide) all0 (fun _ _ => sf0) (hb hby d6_57) (k_v (pc' := 60) rfl ?_)
  rintro _ _ ⟨rfl, rfl⟩ -
  refine go_stC (pc' := 61) (i := 3) (x' := c3) (vs' := [(.int c0), (.int c1), (.int c2), (.int c3), (.int (0 : Int32)), (.int (0 : Int32)), (.int (0 : Int32)), (.int (0 : Int32))]) A20 p1 (by decide) (by decide) rfl (Nat.le_of_ble_eq_true rfl) (i2c_c8 q23) rfl (hb hby d6_60) rfl (fun h25 W26 A27 => ?_)
  refine go_iload_n (pc' := 62) (hb hby d6_61) rfl rfl ?_
  refine go_iconst (pc' := 63) (v := 4) (hb hby d6_62) rfl rfl ?_
  refine go_icF (pc' := 66) (hb hby d6_63) rfl (by decide) ?_
  refine go_aload_n (pc' := 67) (hb hby d6_66) rfl rfl rfl ?_
  refine go_iconst (pc' := 68) (v := 4) (hb hby d6_67) rfl rfl ?_
  refine go_aload_n (pc' := 69) (hb hby d6_68) rfl rfl rfl ?_
  refine go_iconst (pc' := 70) (v := 4) (hb hby d6_69) rfl rfl ?_
  have S28 := (S21.keepA (Keep.of_wr W26) A20 (by decide) (wk G 3 rfl))
  refine go_old (fun O29 => ?_)
  have q30 : C8 c4 := by obtain ⟨_, _, _, _, _, _, q, _⟩ := id S28; exact q _ (by simp)
  have E31 := (E24.wr W26)
  refine callV0 (cells' := 0) (slots' := 0) (Wd := 2) (argsL := [(.int (4 : Int32))]) (rest := [(.int (4 : Int32)), (.ref a)]) (pay_chr G O29 (i := 4) (c := c4) S28 rfl (Nat.le_of_ble_eq_true rfl) rfl (by decide) (by decide)) E31 (wk G 73 rfl) (wk G 74 rfl) (wk G 76 rfl) (wk G 76 rfl) (wk G 75 rfl) (by decide) pd5 rfl rfl (by rw [hml]; rfl) (Nat.le_of_ble_eq_true rfl) rfl rfl (by decide) (by decide) all0 (fun _ _ => sf0) (hb hby d6_70) (k_v (pc' := 73) rfl ?_)
  rintro _ _ ⟨rfl, rfl⟩ -
  refine go_stC (pc' := 74) (i := 4) (x' := c4) (vs' := [(.int c0), (.int c1), (.int c2), (.int c3), (.int c4), (.int (0 : Int32)), (.int (0 : Int32)), (.int (0 : Int32))]) A27 p1 (by decide) (by decide) rfl (Nat.le_of_ble_eq_true rfl) (i2c_c8 q30) rfl (hb hby d6_73) rfl (fun h32 W33 A34 => ?_)
  refine go_iload_n (pc' := 75) (hb hby d6_74) rfl rfl ?_
  refine go_iconst (pc' := 76) (v := 5) (hb hby d6_75) rfl rfl ?_
  refine go_icF (pc' := 79) (hb hby d6_76) rfl (by decide) ?_
  refine go_aload_n (pc' := 80) (hb hby d6_79) rfl rfl rfl ?_
  refine go_iconst (pc' := 81) (v := 5) (hb hby d6_80) rfl rfl ?_
  refine go_aload_n (pc' := 82) (hb hby d6_81) rfl rfl rfl ?_
  refine go_iconst (pc' := 83) (v := 5) (hb hby d6_82) rfl rfl ?_
  have S35 := (S28.keepA (Keep.of_wr W33) A27 (by decide) (wk G 3 rfl))
  refine go_old (fun O36 => ?_)
  have q37 : C8 c5 := by obtain ⟨_, _, _, _, _, _, q, _⟩ := id S35; exact q _ (by simp)
  have E38 := (E31.wr W33)
  refine callV0 (cells' := 0) (slots' := 0) (Wd := 2) (argsL := [(.int (5 : Int32))]) (rest := [(.int (5 : Int32)), (.ref a)]) (pay_chr G O36 (i := 5) (c := c5) S35 rfl (Nat.le_of_ble_eq_true rfl) rfl (by decide) (by decide)) E38 (wk G 73 rfl) (wk G 74 rfl) (wk G 76 rfl) (wk G 76 rfl) (wk G 75 rfl) (by decide) pd5 rfl rfl (by rw [hml]; rfl) (Nat.le_of_ble_eq_true rfl) rfl rfl (by decide) (by decide) all0 (fun _ _ => sf0) (hb hby d6_83) (k_v (pc' := 86) rfl ?_)
  rintro _ _ ⟨rfl, rfl⟩ -
  refine go_stC (pc' := 87) (i := 5) (x' := c5) (vs' := [(.int c0), (.int c1), (.int c2), (.int c3), (.int c4), (.int c5), (.int (0 : Int32)), (.int (0 : Int32))]) A34 p1 (by decide) (by decide) rfl (Nat.le_of_ble_eq_true rfl) (i2c_c8 q37) rfl (hb hby d6_86) rfl (fun h39 W40 A41 => ?_)
  refine go_iload_n (pc' := 88) (hb hby d6_87) rfl rfl ?_
  refine go_bipush (pc' := 90) (v := 6) (hb hby d6_88) rfl rfl ?_
  refine go_icF (pc' := 93) (hb hby d6_90) rfl (by decide) ?_
  refine go_aload_n (pc' := 94) (hb hby d6_93) rfl rfl rfl ?_
  refine go_bipush (pc' := 96) (v := 6) (hb hby d6_94) rfl rfl ?_
  refine go_aload_n (pc' := 97) (hb hby d6_96) rfl rfl rfl ?_
  refine go_bipush (pc' := 99) (v := 6) (hb hby d6_97) rfl rfl ?_
  have S42 := (S35.keepA (Keep.of_wr W40) A34 (by decide) (wk G 3 rfl))
  refine go_old (fun O43 => ?_)
  have q44 : C8 c6 := by obtain ⟨_, _, _, _, _, _, q, _⟩ := id S42; exact q _ (by simp)
  have E45 := (E38.wr W40)
  refine callV0 (cells' := 0) (slots' := 0) (Wd := 2) (argsL := [(.int (6 : Int32))]) (rest := [(.int (6 : Int32)), (.ref a)]) (pay_chr G O43 (i := 6) (c := c6) S42 rfl (Nat.le_of_ble_eq_true rfl) rfl (by decide) (by decide)) E45 (wk G 73 rfl) (wk G 74 rfl) (wk G 76 rfl) (wk G 76 rfl) (wk G 75 rfl) (by decide) pd5 rfl rfl (by rw [hml]; rfl) (Nat.le_of_ble_eq_true rfl) rfl rfl (by decide) (by decide) all0 (fun _ _ => sf0) (hb hby d6_99) (k_v (pc' := 102) rfl ?_)
  rintro _ _ ⟨rfl, rfl⟩ -
  refine go_stC (pc' := 103) (i := 6) (x' := c6) (vs' := [(.int c0), (.int c1), (.int c2), (.int c3), (.int c4), (.int c5), (.int c6), (.int (0 : Int32))]) A41 p1 (by decide) (by decide) rfl (Nat.le_of_ble_eq_true rfl) (i2c_c8 q44) rfl (hb hby d6_102) rfl (fun h46 W47 A48 => ?_)
  refine go_iload_n (pc' := 104) (hb hby d6_103) rfl rfl ?_
  refine go_bipush (pc' := 106) (v := 7) (hb hby d6_104) rfl rfl ?_
  refine go_icF (pc' := 109) (hb hby d6_106) rfl (by decide) ?_
  refine go_aload_n (pc' := 110) (hb hby d6_109) rfl rfl rfl ?_
  refine go_bipush (pc' := 112) (v := 7) (hb hby d6_110) rfl rfl ?_
  refine go_aload_n (pc' := 113) (hb hby d6_112) rfl rfl rfl ?_
  refine go_bipush (pc' := 115) (v := 7) (hb hby d6_113) rfl rfl ?_
  have S49 := (S42.keepA (Keep.of_wr W47) A41 (by decide) (wk G 3 rfl))
  refine go_old (fun O50 => ?_)
  have q51 : C8 c7 := by obtain ⟨_, _, _, _, _, _, q, _⟩ := id S49; exact q _ (by simp)
  have E52 := (E45.wr W47)
  refine callV0 (cells' := 0) (slots' := 0) (Wd := 2) (argsL := [(.int (7 : Int32))]) (rest := [(.int (7 : Int32)), (.ref a)]) (pay_chr G O50 (i := 7) (c := c7) S49 rfl (Nat.le_of_ble_eq_true rfl) rfl (by decide) (by decide)) E52 (wk G 73 rfl) (wk G 74 rfl) (wk G 76 rfl) (wk G 76 rfl) (wk G 75 rfl) (by decide) pd5 rfl rfl (by rw [hml]; rfl) (Nat.le_of_ble_eq_true rfl) rfl rfl (by decide) (by decide) all0 (fun _ _ => sf0) (hb hby d6_115) (k_v (pc' := 118) rfl ?_)
  rintro _ _ ⟨rfl, rfl⟩ -
  refine go_stC (pc' := 119) (i := 7) (x' := c7) (vs' := [(.int c0), (.int c1), (.int c2), (.int c3), (.int c4), (.int c5), (.int c6), (.int c7)]) A48 p1 (by decide) (by decide) rfl (Nat.le_of_ble_eq_true rfl) (i2c_c8 q51) rfl (hb hby d6_118) rfl (fun h53 W54 A55 => ?_)
  have K56 : Keep h0 h4 [a] := ((Keep.refl h0 [a]).wr W5 (Or.inl (by simp)))
  have K57 : Keep h0 h11 [a] := (K56.wr W12 (Or.inl (by simp)))
  have K58 : Keep h0 h18 [a] := (K57.wr W19 (Or.inl (by simp)))
  have K59 : Keep h0 h25 [a] := (K58.wr W26 (Or.inl (by simp)))
  have K60 : Keep h0 h32 [a] := (K59.wr W33 (Or.inl (by simp)))
  have K61 : Keep h0 h39 [a] := (K60.wr W40 (Or.inl (by simp)))
  have K62 : Keep h0 h46 [a] := (K61.wr W47 (Or.inl (by simp)))
  have K63 : Keep h0 h53 [a] := (K62.wr W54 (Or.inl (by simp)))
  refine go_return hret hlk (hb hby d6_119) (by decide) (by decide) ⟨rfl, A55⟩ K63
theorem ef_fill78 (m : MethodId) (a : Addr) (b : Addr)  : entryFrame m #[(.ref a), (.ref b)] 3 = mkF m 0 #[.val (.ref a), .val (.ref b), .unset] [] := by first | (simp [entryFrame, mkF, argsToLocals, Value.category]; done) | rfl
def Q_fill78 (Z : State) (a : Addr) (b : Addr) (k : ClassId) (c0 : Int32) (c1 : Int32) (c2 : Int32) (c3 : Int32) (c4 : Int32) (c5 : Int32) (c6 : Int32) (c7 : Int32) (h0 : Heap) (h : Heap) : Prop := Arv Z h a k (.char) (7 : Int32) [(.int c0), (.int c1), (.int c2), (.int c3), (.int c4), (.int c5), (.int c6)] (.int 0)
set_option maxRecDepth 65536 in
set_option maxHeartbeats 40000000 in
theorem c_fill78 (l : Launch) {Z : State} {a0 : Array Value} (G : GH Z a0) (a : Addr) (b : Addr) (k : ClassId) (c0 : Int32) (c1 : Int32) (c2 : Int32) (c3 : Int32) (c4 : Int32) (c5 : Int32) (c6 : Int32) (c7 : Int32) (h0 : Heap) (O0 : Old Z Z.heap.size h0) (p1 : Z.heap.size ≤ a) (p2 : Arv Z h0 a k (.char) (7 : Int32) [(.int (0 : Int32)), (.int (0 : Int32)), (.int (0 : Int32)), (.int (0 : Int32)), (.int (0 : Int32)), (.int (0 : Int32)), (.int (0 : Int32))] (.int 0)) (p3 : Str Z h0 b [c0, c1, c2, c3, c4, c5, c6, c7]) : Con false [] l Z (⟨"com/example/ispol/ispol/scoring/LabelOfPinLaw", "fill", "([CLjava/lang/String;)V"⟩ : MethodName) method_4_code 3 none [] ({ frames := 4, cells := 0, slots := 0, locals := 55 } : Room) #[(.ref a), (.ref b)] h0 [a] (rno (Q_fill78 Z a b k c0 c1 c2 c3 c4 c5 c6 c7 h0)) := by
  refine con_of (a0 := a0) (plainFor_of_name pn3) (fun q => rfl) EW.nil O0 (fun m => ef_fill78 m a b) ?_
  intro p_ e_ s_ m_ below_ meth_ c_ hby hml hret hlk hnm
  refine go_aload_n (pc' := 1) (hb hby d6_0) rfl rfl rfl ?_
  refine go_arraylength (pc' := 2) p2 (hb hby d6_1) rfl ?_
  refine go_aload_n (pc' := 3) (hb hby d6_2) rfl rfl rfl ?_
  refine callV0 (cells' := 0) (slots' := 0) (Wd := 1) (argsL := []) (rest := [(.int (7 : Int32))]) (pay_len G O0 (n := (8 : Int32)) p3 rfl (by decide) (by decide)) p3.exa (wk G 12 rfl) (wk G 13 rfl) (wk G 15 rfl) (wk G 15 rfl) (wk G 14 rfl) (by decide) pd3 rfl rfl (by rw [hml]; rfl) (Nat.le_of_ble_eq_true rfl) rfl rfl (by decide) (by decide) all0 (fun _ _ => sf0) (hb hby d6_3) (k_v (pc' := 6) rfl ?_)
  rintro _ _ ⟨rfl, rfl⟩ -
  refine callS0 (cells' := 0) (slots' := 0) (Wd := 0) (argsL := [(.int (7 : Int32)), (.int (8 : Int32))]) (rest := []) (pay_of (a0 := a0) (c_min78 l G  h0 O0 ) (wk G 72 rfl) (wk G 71 rfl) (by decide) (by decide)) (wk G 69 rfl) (wk G 70 rfl) (wk G 71 rfl) (wk G 72 rfl) (by decide) pd4 rfl rfl (by rw [hml]; rfl) (Nat.le_of_ble_eq_true rfl) rfl rfl (by decide) (by decide) all0 (fun _ _ => sf0) (hb hby d6_6) (k_v (pc' := 9) rfl ?_)
  rintro _ h1 ⟨rfl, rfl⟩ K2
  refine go_istore_n (pc' := 10) (ls' := #[.val (.ref a), .val (.ref b), .val (.int (7 : Int32))]) (hb hby d6_9) rfl rfl ?_
  refine go_iload_n (pc' := 11) (hb hby d6_10) rfl rfl ?_
  refine go_ifF (pc' := 14) (hb hby d6_11) rfl (by decide) ?_
  refine go_aload_n (pc' := 15) (hb hby d6_14) rfl rfl rfl ?_
  refine go_iconst (pc' := 16) (v := 0) (hb hby d6_15) rfl rfl ?_
  refine go_aload_n (pc' := 17) (hb hby d6_16) rfl rfl rfl ?_
  refine go_iconst (pc' := 18) (v := 0) (hb hby d6_17) rfl rfl ?_
  have q3 : C8 c0 := by obtain ⟨_, _, _, _, _, _, q, _⟩ := id p3; exact q _ (by simp)
  refine callV0 (cells' := 0) (slots' := 0) (Wd := 2) (argsL := [(.int (0 : Int32))]) (rest := [(.int (0 : Int32)), (.ref a)]) (pay_chr G O0 (i := 0) (c := c0) p3 rfl (Nat.le_of_ble_eq_true rfl) rfl (by decide) (by decide)) p3.exa (wk G 73 rfl) (wk G 74 rfl) (wk G 76 rfl) (wk G 76 rfl) (wk G 75 rfl) (by decide) pd5 rfl rfl (by rw [hml]; rfl) (Nat.le_of_ble_eq_true rfl) rfl rfl (by decide) (by decide) all0 (fun _ _ => sf0) (hb hby d6_18) (k_v (pc' := 21) rfl ?_)
  rintro _ _ ⟨rfl, rfl⟩ -
  refine go_stC (pc' := 22) (i := 0) (x' := c0) (vs' := [(.int c0), (.int (0 : Int32)), (.int (0 : Int32)), (.int (0 : Int32)), (.int (0 : Int32)), (.int (0 : Int32)), (.int (0 : Int32))]) p2 p1 (by decide) (by decide) rfl (Nat.le_of_ble_eq_true rfl) (i2c_c8 q3) rfl (hb hby d6_21) rfl (fun h4 W5 A6 => ?_)
  refine go_iload_n (pc' := 23) (hb hby d6_22) rfl rfl ?_
  refine go_iconst (pc' := 24) (v := 1) (hb hby d6_23) rfl rfl ?_
  refine go_icF (pc' := 27) (hb hby d6_24) rfl (by decide) ?_
  refine go_aload_n (pc' := 28) (hb hby d6_27) rfl rfl rfl ?_
  refine go_iconst (pc' := 29) (v := 1) (hb hby d6_28) rfl rfl ?_
  refine go_aload_n (pc' := 30) (hb hby d6_29) rfl rfl rfl ?_
  refine go_iconst (pc' := 31) (v := 1) (hb hby d6_30) rfl rfl ?_
  have S7 := (p3.keepA (Keep.of_wr W5) p2 (by decide) (wk G 3 rfl))
  refine go_old (fun O8 => ?_)
  have q9 : C8 c1 := by obtain ⟨_, _, _, _, _, _, q, _⟩ := id S7; exact q _ (by simp)
  have E10 := (p3.exa.wr W5)
  refine callV0 (cells' := 0) (slots' := 0) (Wd := 2) (argsL := [(.int (1 : Int32))]) (rest := [(.int (1 : Int32)), (.ref a)]) (pay_chr G O8 (i := 1) (c := c1) S7 rfl (Nat.le_of_ble_eq_true rfl) rfl (by decide) (by decide)) E10 (wk G 73 rfl) (wk G 74 rfl) (wk G 76 rfl) (wk G 76 rfl) (wk G 75 rfl) (by decide) pd5 rfl rfl (by rw [hml]; rfl) (Nat.le_of_ble_eq_true rfl) rfl rfl (by decide) (by decide) all0 (fun _ _ => sf0) (hb hby d6_31) (k_v (pc' := 34) rfl ?_)
  rintro _ _ ⟨rfl, rfl⟩ -
  refine go_stC (pc' := 35) (i := 1) (x' := c1) (vs' := [(.int c0), (.int c1), (.int (0 : Int32)), (.int (0 : Int32)), (.int (0 : Int32)), (.int (0 : Int32)), (.int (0 : Int32))]) A6 p1 (by decide) (by decide) rfl (Nat.le_of_ble_eq_true rfl) (i2c_c8 q9) rfl (hb hby d6_34) rfl (fun h11 W12 A13 => ?_)
  refine go_iload_n (pc' := 36) (hb hby d6_35) rfl rfl ?_
  refine go_iconst (pc' := 37) (v := 2) (hb hby d6_36) rfl rfl ?_
  refine go_icF (pc' := 40) (hb hby d6_37) rfl (by decide) ?_
  refine go_aload_n (pc' := 41) (hb hby d6_40) rfl rfl rfl ?_
  refine go_iconst (pc' := 42) (v := 2) (hb hby d6_41) rfl rfl ?_
  refine go_aload_n (pc' := 43) (hb hby d6_42) rfl rfl rfl ?_
  refine go_iconst (pc' := 44) (v := 2) (hb hby d6_43) rfl rfl ?_
  have S14 := (S7.keepA (Keep.of_wr W12) A6 (by decide) (wk G 3 rfl))
  refine go_old (fun O15 => ?_)
  have q16 : C8 c2 := by obtain ⟨_, _, _, _, _, _, q, _⟩ := id S14; exact q _ (by simp)
  have E17 := (E10.wr W12)
  refine callV0 (cells' := 0) (slots' := 0) (Wd := 2) (argsL := [(.int (2 : Int32))]) (rest := [(.int (2 : Int32)), (.ref a)]) (pay_chr G O15 (i := 2) (c := c2) S14 rfl (Nat.le_of_ble_eq_true rfl) rfl (by decide) (by decide)) E17 (wk G 73 rfl) (wk G 74 rfl) (wk G 76 rfl) (wk G 76 rfl) (wk G 75 rfl) (by decide) pd5 rfl rfl (by rw [hml]; rfl) (Nat.le_of_ble_eq_true rfl) rfl rfl (by decide) (by decide) all0 (fun _ _ => sf0) (hb hby d6_44) (k_v (pc' := 47) rfl ?_)
  rintro _ _ ⟨rfl, rfl⟩ -
  refine go_stC (pc' := 48) (i := 2) (x' := c2) (vs' := [(.int c0), (.int c1), (.int c2), (.int (0 : Int32)), (.int (0 : Int32)), (.int (0 : Int32)), (.int (0 : Int32))]) A13 p1 (by decide) (by decide) rfl (Nat.le_of_ble_eq_true rfl) (i2c_c8 q16) rfl (hb hby d6_47) rfl (fun h18 W19 A20 => ?_)
  refine go_iload_n (pc' := 49) (hb hby d6_48) rfl rfl ?_
  refine go_iconst (pc' := 50) (v := 3) (hb hby d6_49) rfl rfl ?_
  refine go_icF (pc' := 53) (hb hby d6_50) rfl (by decide) ?_
  refine go_aload_n (pc' := 54) (hb hby d6_53) rfl rfl rfl ?_
  refine go_iconst (pc' := 55) (v := 3) (hb hby d6_54) rfl rfl ?_
  refine go_aload_n (pc' := 56) (hb hby d6_55) rfl rfl rfl ?_
  refine go_iconst (pc' := 57) (v := 3) (hb hby d6_56) rfl rfl ?_
  have S21 := (S14.keepA (Keep.of_wr W19) A13 (by decide) (wk G 3 rfl))
  refine go_old (fun O22 => ?_)
  have q23 : C8 c3 := by obtain ⟨_, _, _, _, _, _, q, _⟩ := id S21; exact q _ (by simp)
  have E24 := (E17.wr W19)
  refine callV0 (cells' := 0) (slots' := 0) (Wd := 2) (argsL := [(.int (3 : Int32))]) (rest := [(.int (3 : Int32)), (.ref a)]) (pay_chr G O22 (i := 3) (c := c3) S21 rfl (Nat.le_of_ble_eq_true rfl) rfl (by decide) (by decide)) E24 (wk G 73 rfl) (wk G 74 rfl) (wk G 76 rfl) (wk G 76 rfl) (wk G 75 rfl) (by decide) pd5 rfl rfl (by rw [hml]; rfl) (Nat.le_of_ble_eq_true rfl) rfl rfl (by decide) (by decide) all0 (fun _ _ => sf0) (hb hby d6_57) (k_v (pc' := 60) rfl ?_)
  rintro _ _ ⟨rfl, rfl⟩ -
  refine go_stC (pc' := 61) (i := 3) (x' := c3) (vs' := [(.int c0), (.int c1), (.int c2), (.int c3), (.int (0 : Int32)), (.int (0 : Int32)), (.int (0 : Int32))]) A20 p1 (by decide) (by decide) rfl (Nat.le_of_ble_eq_true rfl) (i2c_c8 q23) rfl (hb hby d6_60) rfl (fun h25 W26 A27 => ?_)
  refine go_iload_n (pc' := 62) (hb hby d6_61) rfl rfl ?_
  refine go_iconst (pc' := 63) (v := 4) (hb hby d6_62) rfl rfl ?_
  refine go_icF (pc' := 66) (hb hby d6_63) rfl (by decide) ?_
  refine go_aload_n (pc' := 67) (hb hby d6_66) rfl rfl rfl ?_
  refine go_iconst (pc' := 68) (v := 4) (hb hby d6_67) rfl rfl ?_
  refine go_aload_n (pc' := 69) (hb hby d6_68) rfl rfl rfl ?_
  refine go_iconst (pc' := 70) (v := 4) (hb hby d6_69) rfl rfl ?_
  have S28 := (S21.keepA (Keep.of_wr W26) A20 (by decide) (wk G 3 rfl))
  refine go_old (fun O29 => ?_)
  have q30 : C8 c4 := by obtain ⟨_, _, _, _, _, _, q, _⟩ := id S28; exact q _ (by simp)
  have E31 := (E24.wr W26)
  refine callV0 (cells' := 0) (slots' := 0) (Wd := 2) (argsL := [(.int (4 : Int32))]) (rest := [(.int (4 : Int32)), (.ref a)]) (pay_chr G O29 (i := 4) (c := c4) S28 rfl (Nat.le_of_ble_eq_true rfl) rfl (by decide) (by decide)) E31 (wk G 73 rfl) (wk G 74 rfl) (wk G 76 rfl) (wk G 76 rfl) (wk G 75 rfl) (by decide) pd5 rfl rfl (by rw [hml]; rfl) (Nat.le_of_ble_eq_true rfl) rfl rfl (by decide) (by decide) all0 (fun _ _ => sf0) (hb hby d6_70) (k_v (pc' := 73) rfl ?_)
  rintro _ _ ⟨rfl, rfl⟩ -
  refine go_stC (pc' := 74) (i := 4) (x' := c4) (vs' := [(.int c0), (.int c1), (.int c2), (.int c3), (.int c4), (.int (0 : Int32)), (.int (0 : Int32))]) A27 p1 (by decide) (by decide) rfl (Nat.le_of_ble_eq_true rfl) (i2c_c8 q30) rfl (hb hby d6_73) rfl (fun h32 W33 A34 => ?_)
  refine go_iload_n (pc' := 75) (hb hby d6_74) rfl rfl ?_
  refine go_iconst (pc' := 76) (v := 5) (hb hby d6_75) rfl rfl ?_
  refine go_icF (pc' := 79) (hb hby d6_76) rfl (by decide) ?_
  refine go_aload_n (pc' := 80) (hb hby d6_79) rfl rfl rfl ?_
  refine go_iconst (pc' := 81) (v := 5) (hb hby d6_80) rfl rfl ?_
  refine go_aload_n (pc' := 82) (hb hby d6_81) rfl rfl rfl ?_
  refine go_iconst (pc' := 83) (v := 5) (hb hby d6_82) rfl rfl ?_
  have S35 := (S28.keepA (Keep.of_wr W33) A27 (by decide) (wk G 3 rfl))
  refine go_old (fun O36 => ?_)
  have q37 : C8 c5 := by obtain ⟨_, _, _, _, _, _, q, _⟩ := id S35; exact q _ (by simp)
  have E38 := (E31.wr W33)
  refine callV0 (cells' := 0) (slots' := 0) (Wd := 2) (argsL := [(.int (5 : Int32))]) (rest := [(.int (5 : Int32)), (.ref a)]) (pay_chr G O36 (i := 5) (c := c5) S35 rfl (Nat.le_of_ble_eq_true rfl) rfl (by decide) (by decide)) E38 (wk G 73 rfl) (wk G 74 rfl) (wk G 76 rfl) (wk G 76 rfl) (wk G 75 rfl) (by decide) pd5 rfl rfl (by rw [hml]; rfl) (Nat.le_of_ble_eq_true rfl) rfl rfl (by decide) (by decide) all0 (fun _ _ => sf0) (hb hby d6_83) (k_v (pc' := 86) rfl ?_)
  rintro _ _ ⟨rfl, rfl⟩ -
  refine go_stC (pc' := 87) (i := 5) (x' := c5) (vs' := [(.int c0), (.int c1), (.int c2), (.int c3), (.int c4), (.int c5), (.int (0 : Int32))]) A34 p1 (by decide) (by decide) rfl (Nat.le_of_ble_eq_true rfl) (i2c_c8 q37) rfl (hb hby d6_86) rfl (fun h39 W40 A41 => ?_)
  refine go_iload_n (pc' := 88) (hb hby d6_87) rfl rfl ?_
  refine go_bipush (pc' := 90) (v := 6) (hb hby d6_88) rfl rfl ?_
  refine go_icF (pc' := 93) (hb hby d6_90) rfl (by decide) ?_
  refine go_aload_n (pc' := 94) (hb hby d6_93) rfl rfl rfl ?_
  refine go_bipush (pc' := 96) (v := 6) (hb hby d6_94) rfl rfl ?_
  refine go_aload_n (pc' := 97) (hb hby d6_96) rfl rfl rfl ?_
  refine go_bipush (pc' := 99) (v := 6) (hb hby d6_97) rfl rfl ?_
  have S42 := (S35.keepA (Keep.of_wr W40) A34 (by decide) (wk G 3 rfl))
  refine go_old (fun O43 => ?_)
  have q44 : C8 c6 := by obtain ⟨_, _, _, _, _, _, q, _⟩ := id S42; exact q _ (by simp)
  have E45 := (E38.wr W40)
  refine callV0 (cells' := 0) (slots' := 0) (Wd := 2) (argsL := [(.int (6 : Int32))]) (rest := [(.int (6 : Int32)), (.ref a)]) (pay_chr G O43 (i := 6) (c := c6) S42 rfl (Nat.le_of_ble_eq_true rfl) rfl (by decide) (by decide)) E45 (wk G 73 rfl) (wk G 74 rfl) (wk G 76 rfl) (wk G 76 rfl) (wk G 75 rfl) (by decide) pd5 rfl rfl (by rw [hml]; rfl) (Nat.le_of_ble_eq_true rfl) rfl rfl (by decide) (by decide) all0 (fun _ _ => sf0) (hb hby d6_99) (k_v (pc' := 102) rfl ?_)
  rintro _ _ ⟨rfl, rfl⟩ -
  refine go_stC (pc' := 103) (i := 6) (x' := c6) (vs' := [(.int c0), (.int c1), (.int c2), (.int c3), (.int c4), (.int c5), (.int c6)]) A41 p1 (by decide) (by decide) rfl (Nat.le_of_ble_eq_true rfl) (i2c_c8 q44) rfl (hb hby d6_102) rfl (fun h46 W47 A48 => ?_)
  refine go_iload_n (pc' := 104) (hb hby d6_103) rfl rfl ?_
  refine go_bipush (pc' := 106) (v := 7) (hb hby d6_104) rfl rfl ?_
  refine go_icT (pc' := 119) (hb hby d6_106) (by decide) rfl (by decide) ?_
  have K49 : Keep h0 h4 [a] := ((Keep.refl h0 [a]).wr W5 (Or.inl (by simp)))
  have K50 : Keep h0 h11 [a] := (K49.wr W12 (Or.inl (by simp)))
  have K51 : Keep h0 h18 [a] := (K50.wr W19 (Or.inl (by simp)))
  have K52 : Keep h0 h25 [a] := (K51.wr W26 (Or.inl (by simp)))
  have K53 : Keep h0 h32 [a] := (K52.wr W33 (Or.inl (by simp)))
  have K54 : Keep h0 h39 [a] := (K53.wr W40 (Or.inl (by simp)))
  have K55 : Keep h0 h46 [a] := (K54.wr W47 (Or.inl (by simp)))
  refine go_return hret hlk (hb hby d6_119) (by decide) (by decide) ⟨rfl, A48⟩ K55
theorem ef_fill98 (m : MethodId) (a : Addr) (b : Addr)  : entryFrame m #[(.ref a), (.ref b)] 3 = mkF m 0 #[.val (.ref a), .val (.ref b), .unset] [] := by first | (simp [entryFrame, mkF, argsToLocals, Value.category]; done) | rfl
def Q_fill98 (Z : State) (a : Addr) (b : Addr) (k : ClassId) (c0 : Int32) (c1 : Int32) (c2 : Int32) (c3 : Int32) (c4 : Int32) (c5 : Int32) (c6 : Int32) (c7 : Int32) (h0 : Heap) (h : Heap) : Prop := Arv Z h a k (.char) (9 : Int32) [(.int c0), (.int c1), (.int c2), (.int c3), (.int c4), (.int c5), (.int c6), (.int c7), (.int (0 : Int32))] (.int 0)
set_option maxRecDepth 65536 in
set_option maxHeartbeats 40000000 in
theorem c_fill98 (l : Launch) {Z : State} {a0 : Array Value} (G : GH Z a0) (a : Addr) (b : Addr) (k : ClassId) (c0 : Int32) (c1 : Int32) (c2 : Int32) (c3 : Int32) (c4 : Int32) (c5 : Int32) (c6 : Int32) (c7 : Int32) (h0 : Heap) (O0 : Old Z Z.heap.size h0) (p1 : Z.heap.size ≤ a) (p2 : Arv Z h0 a k (.char) (9 : Int32) [(.int (0 : Int32)), (.int (0 : Int32)), (.int (0 : Int32)), (.int (0 : Int32)), (.int (0 : Int32)), (.int (0 : Int32)), (.int (0 : Int32)), (.int (0 : Int32)), (.int (0 : Int32))] (.int 0)) (p3 : Str Z h0 b [c0, c1, c2, c3, c4, c5, c6, c7]) : Con false [] l Z (⟨"com/example/ispol/ispol/scoring/LabelOfPinLaw", "fill", "([CLjava/lang/String;)V"⟩ : MethodName) method_4_code 3 none [] ({ frames := 4, cells := 0, slots := 0, locals := 55 } : Room) #[(.ref a), (.ref b)] h0 [a] (rno (Q_fill98 Z a b k c0 c1 c2 c3 c4 c5 c6 c7 h0)) := by
  refine con_of (a0 := a0) (plainFor_of_name pn3) (fun q => rfl) EW.nil O0 (fun m => ef_fill98 m a b) ?_
  intro p_ e_ s_ m_ below_ meth_ c_ hby hml hret hlk hnm
  refine go_aload_n (pc' := 1) (hb hby d6_0) rfl rfl rfl ?_
  refine go_arraylength (pc' := 2) p2 (hb hby d6_1) rfl ?_
  refine go_aload_n (pc' := 3) (hb hby d6_2) rfl rfl rfl ?_
  refine callV0 (cells' := 0) (slots' := 0) (Wd := 1) (argsL := []) (rest := [(.int (9 : Int32))]) (pay_len G O0 (n := (8 : Int32)) p3 rfl (by decide) (by decide)) p3.exa (wk G 12 rfl) (wk G 13 rfl) (wk G 15 rfl) (wk G 15 rfl) (wk G 14 rfl) (by decide) pd3 rfl rfl (by rw [hml]; rfl) (Nat.le_of_ble_eq_true rfl) rfl rfl (by decide) (by decide) all0 (fun _ _ => sf0) (hb hby d6_3) (k_v (pc' := 6) rfl ?_)
  rintro _ _ ⟨rfl, rfl⟩ -
  refine callS0 (cells' := 0) (slots' := 0) (Wd := 0) (argsL := [(.int (9 : Int32)), (.int (8 : Int32))]) (rest := []) (pay_of (a0 := a0) (c_min98 l G  h0 O0 ) (wk G 72 rfl) (wk G 71 rfl) (by decide) (by decide)) (wk G 69 rfl) (wk G 70 rfl) (wk G 71 rfl) (wk G 72 rfl) (by decide) pd4 rfl rfl (by rw [hml]; rfl) (Nat.le_of_ble_eq_true rfl) rfl rfl (by decide) (by decide) all0 (fun _ _ => sf0) (hb hby d6_6) (k_v (pc' := 9) rfl ?_)
  rintro _ h1 ⟨rfl, rfl⟩ K2
  refine go_istore_n (pc' := 10) (ls' := #[.val (.ref a), .val (.ref b), .val (.int (8 : Int32))]) (hb hby d6_9) rfl rfl ?_
  refine go_iload_n (pc' := 11) (hb hby d6_10) rfl rfl ?_
  refine go_ifF (pc' := 14) (hb hby d6_11) rfl (by decide) ?_
  refine go_aload_n (pc' := 15) (hb hby d6_14) rfl rfl rfl ?_
  refine go_iconst (pc' := 16) (v := 0) (hb hby d6_15) rfl rfl ?_
  refine go_aload_n (pc' := 17) (hb hby d6_16) rfl rfl rfl ?_
  refine go_iconst (pc' := 18) (v := 0) (hb hby d6_17) rfl rfl ?_
  have q3 : C8 c0 := by obtain ⟨_, _, _, _, _, _, q, _⟩ := id p3; exact q _ (by simp)
  refine callV0 (cells' := 0) (slots' := 0) (Wd := 2) (argsL := [(.int (0 : Int32))]) (rest := [(.int (0 : Int32)), (.ref a)]) (pay_chr G O0 (i := 0) (c := c0) p3 rfl (Nat.le_of_ble_eq_true rfl) rfl (by decide) (by decide)) p3.exa (wk G 73 rfl) (wk G 74 rfl) (wk G 76 rfl) (wk G 76 rfl) (wk G 75 rfl) (by decide) pd5 rfl rfl (by rw [hml]; rfl) (Nat.le_of_ble_eq_true rfl) rfl rfl (by decide) (by decide) all0 (fun _ _ => sf0) (hb hby d6_18) (k_v (pc' := 21) rfl ?_)
  rintro _ _ ⟨rfl, rfl⟩ -
  refine go_stC (pc' := 22) (i := 0) (x' := c0) (vs' := [(.int c0), (.int (0 : Int32)), (.int (0 : Int32)), (.int (0 : Int32)), (.int (0 : Int32)), (.int (0 : Int32)), (.int (0 : Int32)), (.int (0 : Int32)), (.int (0 : Int32))]) p2 p1 (by decide) (by decide) rfl (Nat.le_of_ble_eq_true rfl) (i2c_c8 q3) rfl (hb hby d6_21) rfl (fun h4 W5 A6 => ?_)
  refine go_iload_n (pc' := 23) (hb hby d6_22) rfl rfl ?_
  refine go_iconst (pc' := 24) (v := 1) (hb hby d6_23) rfl rfl ?_
  refine go_icF (pc' := 27) (hb hby d6_24) rfl (by decide) ?_
  refine go_aload_n (pc' := 28) (hb hby d6_27) rfl rfl rfl ?_
  refine go_iconst (pc' := 29) (v := 1) (hb hby d6_28) rfl rfl ?_
  refine go_aload_n (pc' := 30) (hb hby d6_29) rfl rfl rfl ?_
  refine go_iconst (pc' := 31) (v := 1) (hb hby d6_30) rfl rfl ?_
  have S7 := (p3.keepA (Keep.of_wr W5) p2 (by decide) (wk G 3 rfl))
  refine go_old (fun O8 => ?_)
  have q9 : C8 c1 := by obtain ⟨_, _, _, _, _, _, q, _⟩ := id S7; exact q _ (by simp)
  have E10 := (p3.exa.wr W5)
  refine callV0 (cells' := 0) (slots' := 0) (Wd := 2) (argsL := [(.int (1 : Int32))]) (rest := [(.int (1 : Int32)), (.ref a)]) (pay_chr G O8 (i := 1) (c := c1) S7 rfl (Nat.le_of_ble_eq_true rfl) rfl (by decide) (by decide)) E10 (wk G 73 rfl) (wk G 74 rfl) (wk G 76 rfl) (wk G 76 rfl) (wk G 75 rfl) (by decide) pd5 rfl rfl (by rw [hml]; rfl) (Nat.le_of_ble_eq_true rfl) rfl rfl (by decide) (by decide) all0 (fun _ _ => sf0) (hb hby d6_31) (k_v (pc' := 34) rfl ?_)
  rintro _ _ ⟨rfl, rfl⟩ -
  refine go_stC (pc' := 35) (i := 1) (x' := c1) (vs' := [(.int c0), (.int c1), (.int (0 : Int32)), (.int (0 : Int32)), (.int (0 : Int32)), (.int (0 : Int32)), (.int (0 : Int32)), (.int (0 : Int32)), (.int (0 : Int32))]) A6 p1 (by decide) (by decide) rfl (Nat.le_of_ble_eq_true rfl) (i2c_c8 q9) rfl (hb hby d6_34) rfl (fun h11 W12 A13 => ?_)
  refine go_iload_n (pc' := 36) (hb hby d6_35) rfl rfl ?_
  refine go_iconst (pc' := 37) (v := 2) (hb hby d6_36) rfl rfl ?_
  refine go_icF (pc' := 40) (hb hby d6_37) rfl (by decide) ?_
  refine go_aload_n (pc' := 41) (hb hby d6_40) rfl rfl rfl ?_
  refine go_iconst (pc' := 42) (v := 2) (hb hby d6_41) rfl rfl ?_
  refine go_aload_n (pc' := 43) (hb hby d6_42) rfl rfl rfl ?_
  refine go_iconst (pc' := 44) (v := 2) (hb hby d6_43) rfl rfl ?_
  have S14 := (S7.keepA (Keep.of_wr W12) A6 (by decide) (wk G 3 rfl))
  refine go_old (fun O15 => ?_)
  have q16 : C8 c2 := by obtain ⟨_, _, _, _, _, _, q, _⟩ := id S14; exact q _ (by simp)
  have E17 := (E10.wr W12)
  refine callV0 (cells' := 0) (slots' := 0) (Wd := 2) (argsL := [(.int (2 : Int32))]) (rest := [(.int (2 : Int32)), (.ref a)]) (pay_chr G O15 (i := 2) (c := c2) S14 rfl (Nat.le_of_ble_eq_true rfl) rfl (by decide) (by decide)) E17 (wk G 73 rfl) (wk G 74 rfl) (wk G 76 rfl) (wk G 76 rfl) (wk G 75 rfl) (by decide) pd5 rfl rfl (by rw [hml]; rfl) (Nat.le_of_ble_eq_true rfl) rfl rfl (by decide) (by decide) all0 (fun _ _ => sf0) (hb hby d6_44) (k_v (pc' := 47) rfl ?_)
  rintro _ _ ⟨rfl, rfl⟩ -
  refine go_stC (pc' := 48) (i := 2) (x' := c2) (vs' := [(.int c0), (.int c1), (.int c2), (.int (0 : Int32)), (.int (0 : Int32)), (.int (0 : Int32)), (.int (0 : Int32)), (.int (0 : Int32)), (.int (0 : Int32))]) A13 p1 (by decide) (by decide) rfl (Nat.le_of_ble_eq_true rfl) (i2c_c8 q16) rfl (hb hby d6_47) rfl (fun h18 W19 A20 => ?_)
  refine go_iload_n (pc' := 49) (hb hby d6_48) rfl rfl ?_
  refine go_iconst (pc' := 50) (v := 3) (hb hby d6_49) rfl rfl ?_
  refine go_icF (pc' := 53) (hb hby d6_50) rfl (by decide) ?_
  refine go_aload_n (pc' := 54) (hb hby d6_53) rfl rfl rfl ?_
  refine go_iconst (pc' := 55) (v := 3) (hb hby d6_54) rfl rfl ?_
  refine go_aload_n (pc' := 56) (hb hby d6_55) rfl rfl rfl ?_
  refine go_iconst (pc' := 57) (v := 3) (hb hby d6_56) rfl rfl ?_
  have S21 := (S14.keepA (Keep.of_wr W19) A13 (by decide) (wk G 3 rfl))
  refine go_old (fun O22 => ?_)
  have q23 : C8 c3 := by obtain ⟨_, _, _, _, _, _, q, _⟩ := id S21; exact q _ (by simp)
  have E24 := (E17.wr W19)
  refine callV0 (cells' := 0) (slots' := 0) (Wd := 2) (argsL := [(.int (3 : Int32))]) (rest := [(.int (3 : Int32)), (.ref a)]) (pay_chr G O22 (i := 3) (c := c3) S21 rfl (Nat.le_of_ble_eq_true rfl) rfl (by decide) (by decide)) E24 (wk G 73 rfl) (wk G 74 rfl) (wk G 76 rfl) (wk G 76 rfl) (wk G 75 rfl) (by decide) pd5 rfl rfl (by rw [hml]; rfl) (Nat.le_of_ble_eq_true rfl) rfl rfl (by decide) (by decide) all0 (fun _ _ => sf0) (hb hby d6_57) (k_v (pc' := 60) rfl ?_)
  rintro _ _ ⟨rfl, rfl⟩ -
  refine go_stC (pc' := 61) (i := 3) (x' := c3) (vs' := [(.int c0), (.int c1), (.int c2), (.int c3), (.int (0 : Int32)), (.int (0 : Int32)), (.int (0 : Int32)), (.int (0 : Int32)), (.int (0 : Int32))]) A20 p1 (by decide) (by decide) rfl (Nat.le_of_ble_eq_true rfl) (i2c_c8 q23) rfl (hb hby d6_60) rfl (fun h25 W26 A27 => ?_)
  refine go_iload_n (pc' := 62) (hb hby d6_61) rfl rfl ?_
  refine go_iconst (pc' := 63) (v := 4) (hb hby d6_62) rfl rfl ?_
  refine go_icF (pc' := 66) (hb hby d6_63) rfl (by decide) ?_
  refine go_aload_n (pc' := 67) (hb hby d6_66) rfl rfl rfl ?_
  refine go_iconst (pc' := 68) (v := 4) (hb hby d6_67) rfl rfl ?_
  refine go_aload_n (pc' := 69) (hb hby d6_68) rfl rfl rfl ?_
  refine go_iconst (pc' := 70) (v := 4) (hb hby d6_69) rfl rfl ?_
  have S28 := (S21.keepA (Keep.of_wr W26) A20 (by decide) (wk G 3 rfl))
  refine go_old (fun O29 => ?_)
  have q30 : C8 c4 := by obtain ⟨_, _, _, _, _, _, q, _⟩ := id S28; exact q _ (by simp)
  have E31 := (E24.wr W26)
  refine callV0 (cells' := 0) (slots' := 0) (Wd := 2) (argsL := [(.int (4 : Int32))]) (rest := [(.int (4 : Int32)), (.ref a)]) (pay_chr G O29 (i := 4) (c := c4) S28 rfl (Nat.le_of_ble_eq_true rfl) rfl (by decide) (by decide)) E31 (wk G 73 rfl) (wk G 74 rfl) (wk G 76 rfl) (wk G 76 rfl) (wk G 75 rfl) (by decide) pd5 rfl rfl (by rw [hml]; rfl) (Nat.le_of_ble_eq_true rfl) rfl rfl (by decide) (by decide) all0 (fun _ _ => sf0) (hb hby d6_70) (k_v (pc' := 73) rfl ?_)
  rintro _ _ ⟨rfl, rfl⟩ -
  refine go_stC (pc' := 74) (i := 4) (x' := c4) (vs' := [(.int c0), (.int c1), (.int c2), (.int c3), (.int c4), (.int (0 : Int32)), (.int (0 : Int32)), (.int (0 : Int32)), (.int (0 : Int32))]) A27 p1 (by decide) (by decide) rfl (Nat.le_of_ble_eq_true rfl) (i2c_c8 q30) rfl (hb hby d6_73) rfl (fun h32 W33 A34 => ?_)
  refine go_iload_n (pc' := 75) (hb hby d6_74) rfl rfl ?_
  refine go_iconst (pc' := 76) (v := 5) (hb hby d6_75) rfl rfl ?_
  refine go_icF (pc' := 79) (hb hby d6_76) rfl (by decide) ?_
  refine go_aload_n (pc' := 80) (hb hby d6_79) rfl rfl rfl ?_
  refine go_iconst (pc' := 81) (v := 5) (hb hby d6_80) rfl rfl ?_
  refine go_aload_n (pc' := 82) (hb hby d6_81) rfl rfl rfl ?_
  refine go_iconst (pc' := 83) (v := 5) (hb hby d6_82) rfl rfl ?_
  have S35 := (S28.keepA (Keep.of_wr W33) A27 (by decide) (wk G 3 rfl))
  refine go_old (fun O36 => ?_)
  have q37 : C8 c5 := by obtain ⟨_, _, _, _, _, _, q, _⟩ := id S35; exact q _ (by simp)
  have E38 := (E31.wr W33)
  refine callV0 (cells' := 0) (slots' := 0) (Wd := 2) (argsL := [(.int (5 : Int32))]) (rest := [(.int (5 : Int32)), (.ref a)]) (pay_chr G O36 (i := 5) (c := c5) S35 rfl (Nat.le_of_ble_eq_true rfl) rfl (by decide) (by decide)) E38 (wk G 73 rfl) (wk G 74 rfl) (wk G 76 rfl) (wk G 76 rfl) (wk G 75 rfl) (by decide) pd5 rfl rfl (by rw [hml]; rfl) (Nat.le_of_ble_eq_true rfl) rfl rfl (by decide) (by decide) all0 (fun _ _ => sf0) (hb hby d6_83) (k_v (pc' := 86) rfl ?_)
  rintro _ _ ⟨rfl, rfl⟩ -
  refine go_stC (pc' := 87) (i := 5) (x' := c5) (vs' := [(.int c0), (.int c1), (.int c2), (.int c3), (.int c4), (.int c5), (.int (0 : Int32)), (.int (0 : Int32)), (.int (0 : Int32))]) A34 p1 (by decide) (by decide) rfl (Nat.le_of_ble_eq_true rfl) (i2c_c8 q37) rfl (hb hby d6_86) rfl (fun h39 W40 A41 => ?_)
  refine go_iload_n (pc' := 88) (hb hby d6_87) rfl rfl ?_
  refine go_bipush (pc' := 90) (v := 6) (hb hby d6_88) rfl rfl ?_
  refine go_icF (pc' := 93) (hb hby d6_90) rfl (by decide) ?_
  refine go_aload_n (pc' := 94) (hb hby d6_93) rfl rfl rfl ?_
  refine go_bipush (pc' := 96) (v := 6) (hb hby d6_94) rfl rfl ?_
  refine go_aload_n (pc' := 97) (hb hby d6_96) rfl rfl rfl ?_
  refine go_bipush (pc' := 99) (v := 6) (hb hby d6_97) rfl rfl ?_
  have S42 := (S35.keepA (Keep.of_wr W40) A34 (by decide) (wk G 3 rfl))
  refine go_old (fun O43 => ?_)
  have q44 : C8 c6 := by obtain ⟨_, _, _, _, _, _, q, _⟩ := id S42; exact q _ (by simp)
  have E45 := (E38.wr W40)
  refine callV0 (cells' := 0) (slots' := 0) (Wd := 2) (argsL := [(.int (6 : Int32))]) (rest := [(.int (6 : Int32)), (.ref a)]) (pay_chr G O43 (i := 6) (c := c6) S42 rfl (Nat.le_of_ble_eq_true rfl) rfl (by decide) (by decide)) E45 (wk G 73 rfl) (wk G 74 rfl) (wk G 76 rfl) (wk G 76 rfl) (wk G 75 rfl) (by decide) pd5 rfl rfl (by rw [hml]; rfl) (Nat.le_of_ble_eq_true rfl) rfl rfl (by decide) (by decide) all0 (fun _ _ => sf0) (hb hby d6_99) (k_v (pc' := 102) rfl ?_)
  rintro _ _ ⟨rfl, rfl⟩ -
  refine go_stC (pc' := 103) (i := 6) (x' := c6) (vs' := [(.int c0), (.int c1), (.int c2), (.int c3), (.int c4), (.int c5), (.int c6), (.int (0 : Int32)), (.int (0 : Int32))]) A41 p1 (by decide) (by decide) rfl (Nat.le_of_ble_eq_true rfl) (i2c_c8 q44) rfl (hb hby d6_102) rfl (fun h46 W47 A48 => ?_)
  refine go_iload_n (pc' := 104) (hb hby d6_103) rfl rfl ?_
  refine go_bipush (pc' := 106) (v := 7) (hb hby d6_104) rfl rfl ?_
  refine go_icF (pc' := 109) (hb hby d6_106) rfl (by decide) ?_
  refine go_aload_n (pc' := 110) (hb hby d6_109) rfl rfl rfl ?_
  refine go_bipush (pc' := 112) (v := 7) (hb hby d6_110) rfl rfl ?_
  refine go_aload_n (pc' := 113) (hb hby d6_112) rfl rfl rfl ?_
  refine go_bipush (pc' := 115) (v := 7) (hb hby d6_113) rfl rfl ?_
  have S49 := (S42.keepA (Keep.of_wr W47) A41 (by decide) (wk G 3 rfl))
  refine go_old (fun O50 => ?_)
  have q51 : C8 c7 := by obtain ⟨_, _, _, _, _, _, q, _⟩ := id S49; exact q _ (by simp)
  have E52 := (E45.wr W47)
  refine callV0 (cells' := 0) (slots' := 0) (Wd := 2) (argsL := [(.int (7 : Int32))]) (rest := [(.int (7 : Int32)), (.ref a)]) (pay_chr G O50 (i := 7) (c := c7) S49 rfl (Nat.le_of_ble_eq_true rfl) rfl (by decide) (by decide)) E52 (wk G 73 rfl) (wk G 74 rfl) (wk G 76 rfl) (wk G 76 rfl) (wk G 75 rfl) (by decide) pd5 rfl rfl (by rw [hml]; rfl) (Nat.le_of_ble_eq_true rfl) rfl rfl (by decide) (by decide) all0 (fun _ _ => sf0) (hb hby d6_115) (k_v (pc' := 118) rfl ?_)
  rintro _ _ ⟨rfl, rfl⟩ -
  refine go_stC (pc' := 119) (i := 7) (x' := c7) (vs' := [(.int c0), (.int c1), (.int c2), (.int c3), (.int c4), (.int c5), (.int c6), (.int c7), (.int (0 : Int32))]) A48 p1 (by decide) (by decide) rfl (Nat.le_of_ble_eq_true rfl) (i2c_c8 q51) rfl (hb hby d6_118) rfl (fun h53 W54 A55 => ?_)
  have K56 : Keep h0 h4 [a] := ((Keep.refl h0 [a]).wr W5 (Or.inl (by simp)))
  have K57 : Keep h0 h11 [a] := (K56.wr W12 (Or.inl (by simp)))
  have K58 : Keep h0 h18 [a] := (K57.wr W19 (Or.inl (by simp)))
  have K59 : Keep h0 h25 [a] := (K58.wr W26 (Or.inl (by simp)))
  have K60 : Keep h0 h32 [a] := (K59.wr W33 (Or.inl (by simp)))
  have K61 : Keep h0 h39 [a] := (K60.wr W40 (Or.inl (by simp)))
  have K62 : Keep h0 h46 [a] := (K61.wr W47 (Or.inl (by simp)))
  have K63 : Keep h0 h53 [a] := (K62.wr W54 (Or.inl (by simp)))
  refine go_return hret hlk (hb hby d6_119) (by decide) (by decide) ⟨rfl, A55⟩ K63
theorem ef_fill77 (m : MethodId) (a : Addr) (b : Addr)  : entryFrame m #[(.ref a), (.ref b)] 3 = mkF m 0 #[.val (.ref a), .val (.ref b), .unset] [] := by first | (simp [entryFrame, mkF, argsToLocals, Value.category]; done) | rfl
def Q_fill77 (Z : State) (a : Addr) (b : Addr) (k : ClassId) (c0 : Int32) (c1 : Int32) (c2 : Int32) (c3 : Int32) (c4 : Int32) (c5 : Int32) (c6 : Int32) (h0 : Heap) (h : Heap) : Prop := Arv Z h a k (.char) (7 : Int32) [(.int c0), (.int c1), (.int c2), (.int c3), (.int c4), (.int c5), (.int c6)] (.int 0)
set_option maxRecDepth 65536 in
set_option maxHeartbeats 40000000 in
theorem c_fill77 (l : Launch) {Z : State} {a0 : Array Value} (G : GH Z a0) (a : Addr) (b : Addr) (k : ClassId) (c0 : Int32) (c1 : Int32) (c2 : Int32) (c3 : Int32) (c4 : Int32) (c5 : Int32) (c6 : Int32) (h0 : Heap) (O0 : Old Z Z.heap.size h0) (p1 : Z.heap.size ≤ a) (p2 : Arv Z h0 a k (.char) (7 : Int32) [(.int (0 : Int32)), (.int (0 : Int32)), (.int (0 : Int32)), (.int (0 : Int32)), (.int (0 : Int32)), (.int (0 : Int32)), (.int (0 : Int32))] (.int 0)) (p3 : Str Z h0 b [c0, c1, c2, c3, c4, c5, c6]) : Con false [] l Z (⟨"com/example/ispol/ispol/scoring/LabelOfPinLaw", "fill", "([CLjava/lang/String;)V"⟩ : MethodName) method_4_code 3 none [] ({ frames := 4, cells := 0, slots := 0, locals := 55 } : Room) #[(.ref a), (.ref b)] h0 [a] (rno (Q_fill77 Z a b k c0 c1 c2 c3 c4 c5 c6 h0)) := by
  refine con_of (a0 := a0) (plainFor_of_name pn3) (fun q => rfl) EW.nil O0 (fun m => ef_fill77 m a b) ?_
  intro p_ e_ s_ m_ below_ meth_ c_ hby hml hret hlk hnm
  refine go_aload_n (pc' := 1) (hb hby d6_0) rfl rfl rfl ?_
  refine go_arraylength (pc' := 2) p2 (hb hby d6_1) rfl ?_
  refine go_aload_n (pc' := 3) (hb hby d6_2) rfl rfl rfl ?_
  refine callV0 (cells' := 0) (slots' := 0) (Wd := 1) (argsL := []) (rest := [(.int (7 : Int32))]) (pay_len G O0 (n := (7 : Int32)) p3 rfl (by decide) (by decide)) p3.exa (wk G 12 rfl) (wk G 13 rfl) (wk G 15 rfl) (wk G 15 rfl) (wk G 14 rfl) (by decide) pd3 rfl rfl (by rw [hml]; rfl) (Nat.le_of_ble_eq_true rfl) rfl rfl (by decide) (by decide) all0 (fun _ _ => sf0) (hb hby d6_3) (k_v (pc' := 6) rfl ?_)
  rintro _ _ ⟨rfl, rfl⟩ -
  refine callS0 (cells' := 0) (slots' := 0) (Wd := 0) (argsL := [(.int (7 : Int32)), (.int (7 : Int32))]) (rest := []) (pay_of (a0 := a0) (c_min77 l G  h0 O0 ) (wk G 72 rfl) (wk G 71 rfl) (by decide) (by decide)) (wk G 69 rfl) (wk G 70 rfl) (wk G 71 rfl) (wk G 72 rfl) (by decide) pd4 rfl rfl (by rw [hml]; rfl) (Nat.le_of_ble_eq_true rfl) rfl rfl (by decide) (by decide) all0 (fun _ _ => sf0) (hb hby d6_6) (k_v (pc' := 9) rfl ?_)
  rintro _ h1 ⟨rfl, rfl⟩ K2
  refine go_istore_n (pc' := 10) (ls' := #[.val (.ref a), .val (.ref b), .val (.int (7 : Int32))]) (hb hby d6_9) rfl rfl ?_
  refine go_iload_n (pc' := 11) (hb hby d6_10) rfl rfl ?_
  refine go_ifF (pc' := 14) (hb hby d6_11) rfl (by decide) ?_
  refine go_aload_n (pc' := 15) (hb hby d6_14) rfl rfl rfl ?_
  refine go_iconst (pc' := 16) (v := 0) (hb hby d6_15) rfl rfl ?_
  refine go_aload_n (pc' := 17) (hb hby d6_16) rfl rfl rfl ?_
  refine go_iconst (pc' := 18) (v := 0) (hb hby d6_17) rfl rfl ?_
  have q3 : C8 c0 := by obtain ⟨_, _, _, _, _, _, q, _⟩ := id p3; exact q _ (by simp)
  refine callV0 (cells' := 0) (slots' := 0) (Wd := 2) (argsL := [(.int (0 : Int32))]) (rest := [(.int (0 : Int32)), (.ref a)]) (pay_chr G O0 (i := 0) (c := c0) p3 rfl (Nat.le_of_ble_eq_true rfl) rfl (by decide) (by decide)) p3.exa (wk G 73 rfl) (wk G 74 rfl) (wk G 76 rfl) (wk G 76 rfl) (wk G 75 rfl) (by decide) pd5 rfl rfl (by rw [hml]; rfl) (Nat.le_of_ble_eq_true rfl) rfl rfl (by decide) (by decide) all0 (fun _ _ => sf0) (hb hby d6_18) (k_v (pc' := 21) rfl ?_)
  rintro _ _ ⟨rfl, rfl⟩ -
  refine go_stC (pc' := 22) (i := 0) (x' := c0) (vs' := [(.int c0), (.int (0 : Int32)), (.int (0 : Int32)), (.int (0 : Int32)), (.int (0 : Int32)), (.int (0 : Int32)), (.int (0 : Int32))]) p2 p1 (by decide) (by decide) rfl (Nat.le_of_ble_eq_true rfl) (i2c_c8 q3) rfl (hb hby d6_21) rfl (fun h4 W5 A6 => ?_)
  refine go_iload_n (pc' := 23) (hb hby d6_22) rfl rfl ?_
  refine go_iconst (pc' := 24) (v := 1) (hb hby d6_23) rfl rfl ?_
  refine go_icF (pc' := 27) (hb hby d6_24) rfl (by decide) ?_
  refine go_aload_n (pc' := 28) (hb hby d6_27) rfl rfl rfl ?_
  refine go_iconst (pc' := 29) (v := 1) (hb hby d6_28) rfl rfl ?_
  refine go_aload_n (pc' := 30) (hb hby d6_29) rfl rfl rfl ?_
  refine go_iconst (pc' := 31) (v := 1) (hb hby d6_30) rfl rfl ?_
  have S7 := (p3.keepA (Keep.of_wr W5) p2 (by decide) (wk G 3 rfl))
  refine go_old (fun O8 => ?_)
  have q9 : C8 c1 := by obtain ⟨_, _, _, _, _, _, q, _⟩ := id S7; exact q _ (by simp)
  have E10 := (p3.exa.wr W5)
  refine callV0 (cells' := 0) (slots' := 0) (Wd := 2) (argsL := [(.int (1 : Int32))]) (rest := [(.int (1 : Int32)), (.ref a)]) (pay_chr G O8 (i := 1) (c := c1) S7 rfl (Nat.le_of_ble_eq_true rfl) rfl (by decide) (by decide)) E10 (wk G 73 rfl) (wk G 74 rfl) (wk G 76 rfl) (wk G 76 rfl) (wk G 75 rfl) (by decide) pd5 rfl rfl (by rw [hml]; rfl) (Nat.le_of_ble_eq_true rfl) rfl rfl (by decide) (by decide) all0 (fun _ _ => sf0) (hb hby d6_31) (k_v (pc' := 34) rfl ?_)
  rintro _ _ ⟨rfl, rfl⟩ -
  refine go_stC (pc' := 35) (i := 1) (x' := c1) (vs' := [(.int c0), (.int c1), (.int (0 : Int32)), (.int (0 : Int32)), (.int (0 : Int32)), (.int (0 : Int32)), (.int (0 : Int32))]) A6 p1 (by decide) (by decide) rfl (Nat.le_of_ble_eq_true rfl) (i2c_c8 q9) rfl (hb hby d6_34) rfl (fun h11 W12 A13 => ?_)
  refine go_iload_n (pc' := 36) (hb hby d6_35) rfl rfl ?_
  refine go_iconst (pc' := 37) (v := 2) (hb hby d6_36) rfl rfl ?_
  refine go_icF (pc' := 40) (hb hby d6_37) rfl (by decide) ?_
  refine go_aload_n (pc' := 41) (hb hby d6_40) rfl rfl rfl ?_
  refine go_iconst (pc' := 42) (v := 2) (hb hby d6_41) rfl rfl ?_
  refine go_aload_n (pc' := 43) (hb hby d6_42) rfl rfl rfl ?_
  refine go_iconst (pc' := 44) (v := 2) (hb hby d6_43) rfl rfl ?_
  have S14 := (S7.keepA (Keep.of_wr W12) A6 (by decide) (wk G 3 rfl))
  refine go_old (fun O15 => ?_)
  have q16 : C8 c2 := by obtain ⟨_, _, _, _, _, _, q, _⟩ := id S14; exact q _ (by simp)
  have E17 := (E10.wr W12)
  refine callV0 (cells' := 0) (slots' := 0) (Wd := 2) (argsL := [(.int (2 : Int32))]) (rest := [(.int (2 : Int32)), (.ref a)]) (pay_chr G O15 (i := 2) (c := c2) S14 rfl (Nat.le_of_ble_eq_true rfl) rfl (by decide) (by decide)) E17 (wk G 73 rfl) (wk G 74 rfl) (wk G 76 rfl) (wk G 76 rfl) (wk G 75 rfl) (by decide) pd5 rfl rfl (by rw [hml]; rfl) (Nat.le_of_ble_eq_true rfl) rfl rfl (by decide) (by decide) all0 (fun _ _ => sf0) (hb hby d6_44) (k_v (pc' := 47) rfl ?_)
  rintro _ _ ⟨rfl, rfl⟩ -
  refine go_stC (pc' := 48) (i := 2) (x' := c2) (vs' := [(.int c0), (.int c1), (.int c2), (.int (0 : Int32)), (.int (0 : Int32)), (.int (0 : Int32)), (.int (0 : Int32))]) A13 p1 (by decide) (by decide) rfl (Nat.le_of_ble_eq_true rfl) (i2c_c8 q16) rfl (hb hby d6_47) rfl (fun h18 W19 A20 => ?_)
  refine go_iload_n (pc' := 49) (hb hby d6_48) rfl rfl ?_
  refine go_iconst (pc' := 50) (v := 3) (hb hby d6_49) rfl rfl ?_
  refine go_icF (pc' := 53) (hb hby d6_50) rfl (by decide) ?_
  refine go_aload_n (pc' := 54) (hb hby d6_53) rfl rfl rfl ?_
  refine go_iconst (pc' := 55) (v := 3) (hb hby d6_54) rfl rfl ?_
  refine go_aload_n (pc' := 56) (hb hby d6_55) rfl rfl rfl ?_
  refine go_iconst (pc' := 57) (v := 3) (hb hby d6_56) rfl rfl ?_
  have S21 := (S14.keepA (Keep.of_wr W19) A13 (by decide) (wk G 3 rfl))
  refine go_old (fun O22 => ?_)
  have q23 : C8 c3 := by obtain ⟨_, _, _, _, _, _, q, _⟩ := id S21; exact q _ (by simp)
  have E24 := (E17.wr W19)
  refine callV0 (cells' := 0) (slots' := 0) (Wd := 2) (argsL := [(.int (3 : Int32))]) (rest := [(.int (3 : Int32)), (.ref a)]) (pay_chr G O22 (i := 3) (c := c3) S21 rfl (Nat.le_of_ble_eq_true rfl) rfl (by decide) (by decide)) E24 (wk G 73 rfl) (wk G 74 rfl) (wk G 76 rfl) (wk G 76 rfl) (wk G 75 rfl) (by decide) pd5 rfl rfl (by rw [hml]; rfl) (Nat.le_of_ble_eq_true rfl) rfl rfl (by decide) (by decide) all0 (fun _ _ => sf0) (hb hby d6_57) (k_v (pc' := 60) rfl ?_)
  rintro _ _ ⟨rfl, rfl⟩ -
  refine go_stC (pc' := 61) (i := 3) (x' := c3) (vs' := [(.int c0), (.int c1), (.int c2), (.int c3), (.int (0 : Int32)), (.int (0 : Int32)), (.int (0 : Int32))]) A20 p1 (by decide) (by decide) rfl (Nat.le_of_ble_eq_true rfl) (i2c_c8 q23) rfl (hb hby d6_60) rfl (fun h25 W26 A27 => ?_)
  refine go_iload_n (pc' := 62) (hb hby d6_61) rfl rfl ?_
  refine go_iconst (pc' := 63) (v := 4) (hb hby d6_62) rfl rfl ?_
  refine go_icF (pc' := 66) (hb hby d6_63) rfl (by decide) ?_
  refine go_aload_n (pc' := 67) (hb hby d6_66) rfl rfl rfl ?_
  refine go_iconst (pc' := 68) (v := 4) (hb hby d6_67) rfl rfl ?_
  refine go_aload_n (pc' := 69) (hb hby d6_68) rfl rfl rfl ?_
  refine go_iconst (pc' := 70) (v := 4) (hb hby d6_69) rfl rfl ?_
  have S28 := (S21.keepA (Keep.of_wr W26) A20 (by decide) (wk G 3 rfl))
  refine go_old (fun O29 => ?_)
  have q30 : C8 c4 := by obtain ⟨_, _, _, _, _, _, q, _⟩ := id S28; exact q _ (by simp)
  have E31 := (E24.wr W26)
  refine callV0 (cells' := 0) (slots' := 0) (Wd := 2) (argsL := [(.int (4 : Int32))]) (rest := [(.int (4 : Int32)), (.ref a)]) (pay_chr G O29 (i := 4) (c := c4) S28 rfl (Nat.le_of_ble_eq_true rfl) rfl (by decide) (by decide)) E31 (wk G 73 rfl) (wk G 74 rfl) (wk G 76 rfl) (wk G 76 rfl) (wk G 75 rfl) (by decide) pd5 rfl rfl (by rw [hml]; rfl) (Nat.le_of_ble_eq_true rfl) rfl rfl (by decide) (by decide) all0 (fun _ _ => sf0) (hb hby d6_70) (k_v (pc' := 73) rfl ?_)
  rintro _ _ ⟨rfl, rfl⟩ -
  refine go_stC (pc' := 74) (i := 4) (x' := c4) (vs' := [(.int c0), (.int c1), (.int c2), (.int c3), (.int c4), (.int (0 : Int32)), (.int (0 : Int32))]) A27 p1 (by decide) (by decide) rfl (Nat.le_of_ble_eq_true rfl) (i2c_c8 q30) rfl (hb hby d6_73) rfl (fun h32 W33 A34 => ?_)
  refine go_iload_n (pc' := 75) (hb hby d6_74) rfl rfl ?_
  refine go_iconst (pc' := 76) (v := 5) (hb hby d6_75) rfl rfl ?_
  refine go_icF (pc' := 79) (hb hby d6_76) rfl (by decide) ?_
  refine go_aload_n (pc' := 80) (hb hby d6_79) rfl rfl rfl ?_
  refine go_iconst (pc' := 81) (v := 5) (hb hby d6_80) rfl rfl ?_
  refine go_aload_n (pc' := 82) (hb hby d6_81) rfl rfl rfl ?_
  refine go_iconst (pc' := 83) (v := 5) (hb hby d6_82) rfl rfl ?_
  have S35 := (S28.keepA (Keep.of_wr W33) A27 (by decide) (wk G 3 rfl))
  refine go_old (fun O36 => ?_)
  have q37 : C8 c5 := by obtain ⟨_, _, _, _, _, _, q, _⟩ := id S35; exact q _ (by simp)
  have E38 := (E31.wr W33)
  refine callV0 (cells' := 0) (slots' := 0) (Wd := 2) (argsL := [(.int (5 : Int32))]) (rest := [(.int (5 : Int32)), (.ref a)]) (pay_chr G O36 (i := 5) (c := c5) S35 rfl (Nat.le_of_ble_eq_true rfl) rfl (by decide) (by decide)) E38 (wk G 73 rfl) (wk G 74 rfl) (wk G 76 rfl) (wk G 76 rfl) (wk G 75 rfl) (by decide) pd5 rfl rfl (by rw [hml]; rfl) (Nat.le_of_ble_eq_true rfl) rfl rfl (by decide) (by decide) all0 (fun _ _ => sf0) (hb hby d6_83) (k_v (pc' := 86) rfl ?_)
  rintro _ _ ⟨rfl, rfl⟩ -
  refine go_stC (pc' := 87) (i := 5) (x' := c5) (vs' := [(.int c0), (.int c1), (.int c2), (.int c3), (.int c4), (.int c5), (.int (0 : Int32))]) A34 p1 (by decide) (by decide) rfl (Nat.le_of_ble_eq_true rfl) (i2c_c8 q37) rfl (hb hby d6_86) rfl (fun h39 W40 A41 => ?_)
  refine go_iload_n (pc' := 88) (hb hby d6_87) rfl rfl ?_
  refine go_bipush (pc' := 90) (v := 6) (hb hby d6_88) rfl rfl ?_
  refine go_icF (pc' := 93) (hb hby d6_90) rfl (by decide) ?_
  refine go_aload_n (pc' := 94) (hb hby d6_93) rfl rfl rfl ?_
  refine go_bipush (pc' := 96) (v := 6) (hb hby d6_94) rfl rfl ?_
  refine go_aload_n (pc' := 97) (hb hby d6_96) rfl rfl rfl ?_
  refine go_bipush (pc' := 99) (v := 6) (hb hby d6_97) rfl rfl ?_
  have S42 := (S35.keepA (Keep.of_wr W40) A34 (by decide) (wk G 3 rfl))
  refine go_old (fun O43 => ?_)
  have q44 : C8 c6 := by obtain ⟨_, _, _, _, _, _, q, _⟩ := id S42; exact q _ (by simp)
  have E45 := (E38.wr W40)
  refine callV0 (cells' := 0) (slots' := 0) (Wd := 2) (argsL := [(.int (6 : Int32))]) (rest := [(.int (6 : Int32)), (.ref a)]) (pay_chr G O43 (i := 6) (c := c6) S42 rfl (Nat.le_of_ble_eq_true rfl) rfl (by decide) (by decide)) E45 (wk G 73 rfl) (wk G 74 rfl) (wk G 76 rfl) (wk G 76 rfl) (wk G 75 rfl) (by decide) pd5 rfl rfl (by rw [hml]; rfl) (Nat.le_of_ble_eq_true rfl) rfl rfl (by decide) (by decide) all0 (fun _ _ => sf0) (hb hby d6_99) (k_v (pc' := 102) rfl ?_)
  rintro _ _ ⟨rfl, rfl⟩ -
  refine go_stC (pc' := 103) (i := 6) (x' := c6) (vs' := [(.int c0), (.int c1), (.int c2), (.int c3), (.int c4), (.int c5), (.int c6)]) A41 p1 (by decide) (by decide) rfl (Nat.le_of_ble_eq_true rfl) (i2c_c8 q44) rfl (hb hby d6_102) rfl (fun h46 W47 A48 => ?_)
  refine go_iload_n (pc' := 104) (hb hby d6_103) rfl rfl ?_
  refine go_bipush (pc' := 106) (v := 7) (hb hby d6_104) rfl rfl ?_
  refine go_icT (pc' := 119) (hb hby d6_106) (by decide) rfl (by decide) ?_
  have K49 : Keep h0 h4 [a] := ((Keep.refl h0 [a]).wr W5 (Or.inl (by simp)))
  have K50 : Keep h0 h11 [a] := (K49.wr W12 (Or.inl (by simp)))
  have K51 : Keep h0 h18 [a] := (K50.wr W19 (Or.inl (by simp)))
  have K52 : Keep h0 h25 [a] := (K51.wr W26 (Or.inl (by simp)))
  have K53 : Keep h0 h32 [a] := (K52.wr W33 (Or.inl (by simp)))
  have K54 : Keep h0 h39 [a] := (K53.wr W40 (Or.inl (by simp)))
  have K55 : Keep h0 h46 [a] := (K54.wr W47 (Or.inl (by simp)))
  refine go_return hret hlk (hb hby d6_119) (by decide) (by decide) ⟨rfl, A48⟩ K55
theorem ef_fill67 (m : MethodId) (a : Addr) (b : Addr)  : entryFrame m #[(.ref a), (.ref b)] 3 = mkF m 0 #[.val (.ref a), .val (.ref b), .unset] [] := by first | (simp [entryFrame, mkF, argsToLocals, Value.category]; done) | rfl
def Q_fill67 (Z : State) (a : Addr) (b : Addr) (k : ClassId) (c0 : Int32) (c1 : Int32) (c2 : Int32) (c3 : Int32) (c4 : Int32) (c5 : Int32) (c6 : Int32) (h0 : Heap) (h : Heap) : Prop := Arv Z h a k (.char) (6 : Int32) [(.int c0), (.int c1), (.int c2), (.int c3), (.int c4), (.int c5)] (.int 0)
set_option maxRecDepth 65536 in
set_option maxHeartbeats 40000000 in
theorem c_fill67 (l : Launch) {Z : State} {a0 : Array Value} (G : GH Z a0) (a : Addr) (b : Addr) (k : ClassId) (c0 : Int32) (c1 : Int32) (c2 : Int32) (c3 : Int32) (c4 : Int32) (c5 : Int32) (c6 : Int32) (h0 : Heap) (O0 : Old Z Z.heap.size h0) (p1 : Z.heap.size ≤ a) (p2 : Arv Z h0 a k (.char) (6 : Int32) [(.int (0 : Int32)), (.int (0 : Int32)), (.int (0 : Int32)), (.int (0 : Int32)), (.int (0 : Int32)), (.int (0 : Int32))] (.int 0)) (p3 : Str Z h0 b [c0, c1, c2, c3, c4, c5, c6]) : Con false [] l Z (⟨"com/example/ispol/ispol/scoring/LabelOfPinLaw", "fill", "([CLjava/lang/String;)V"⟩ : MethodName) method_4_code 3 none [] ({ frames := 4, cells := 0, slots := 0, locals := 55 } : Room) #[(.ref a), (.ref b)] h0 [a] (rno (Q_fill67 Z a b k c0 c1 c2 c3 c4 c5 c6 h0)) := by
  refine con_of (a0 := a0) (plainFor_of_name pn3) (fun q => rfl) EW.nil O0 (fun m => ef_fill67 m a b) ?_
  intro p_ e_ s_ m_ below_ meth_ c_ hby hml hret hlk hnm
  refine go_aload_n (pc' := 1) (hb hby d6_0) rfl rfl rfl ?_
  refine go_arraylength (pc' := 2) p2 (hb hby d6_1) rfl ?_
  refine go_aload_n (pc' := 3) (hb hby d6_2) rfl rfl rfl ?_
  refine callV0 (cells' := 0) (slots' := 0) (Wd := 1) (argsL := []) (rest := [(.int (6 : Int32))]) (pay_len G O0 (n := (7 : Int32)) p3 rfl (by decide) (by decide)) p3.exa (wk G 12 rfl) (wk G 13 rfl) (wk G 15 rfl) (wk G 15 rfl) (wk G 14 rfl) (by decide) pd3 rfl rfl (by rw [hml]; rfl) (Nat.le_of_ble_eq_true rfl) rfl rfl (by decide) (by decide) all0 (fun _ _ => sf0) (hb hby d6_3) (k_v (pc' := 6) rfl ?_)
  rintro _ _ ⟨rfl, rfl⟩ -
  refine callS0 (cells' := 0) (slots' := 0) (Wd := 0) (argsL := [(.int (6 : Int32)), (.int (7 : Int32))]) (rest := []) (pay_of (a0 := a0) (c_min67 l G  h0 O0 ) (wk G 72 rfl) (wk G 71 rfl) (by decide) (by decide)) (wk G 69 rfl) (wk G 70 rfl) (wk G 71 rfl) (wk G 72 rfl) (by decide) pd4 rfl rfl (by rw [hml]; rfl) (Nat.le_of_ble_eq_true rfl) rfl rfl (by decide) (by decide) all0 (fun _ _ => sf0) (hb hby d6_6) (k_v (pc' := 9) rfl ?_)
  rintro _ h1 ⟨rfl, rfl⟩ K2
  refine go_istore_n (pc' := 10) (ls' := #[.val (.ref a), .val (.ref b), .val (.int (6 : Int32))]) (hb hby d6_9) rfl rfl ?_
  refine go_iload_n (pc' := 11) (hb hby d6_10) rfl rfl ?_
  refine go_ifF (pc' := 14) (hb hby d6_11) rfl (by decide) ?_
  refine go_aload_n (pc' := 15) (hb hby d6_14) rfl rfl rfl ?_
  refine go_iconst (pc' := 16) (v := 0) (hb hby d6_15) rfl rfl ?_
  refine go_aload_n (pc' := 17) (hb hby d6_16) rfl rfl rfl ?_
  refine go_iconst (pc' := 18) (v := 0) (hb hby d6_17) rfl rfl ?_
  have q3 : C8 c0 := by obtain ⟨_, _, _, _, _, _, q, _⟩ := id p3; exact q _ (by simp)
  refine callV0 (cells' := 0) (slots' := 0) (Wd := 2) (argsL := [(.int (0 : Int32))]) (rest := [(.int (0 : Int32)), (.ref a)]) (pay_chr G O0 (i := 0) (c := c0) p3 rfl (Nat.le_of_ble_eq_true rfl) rfl (by decide) (by decide)) p3.exa (wk G 73 rfl) (wk G 74 rfl) (wk G 76 rfl) (wk G 76 rfl) (wk G 75 rfl) (by decide) pd5 rfl rfl (by rw [hml]; rfl) (Nat.le_of_ble_eq_true rfl) rfl rfl (by decide) (by decide) all0 (fun _ _ => sf0) (hb hby d6_18) (k_v (pc' := 21) rfl ?_)
  rintro _ _ ⟨rfl, rfl⟩ -
  refine go_stC (pc' := 22) (i := 0) (x' := c0) (vs' := [(.int c0), (.int (0 : Int32)), (.int (0 : Int32)), (.int (0 : Int32)), (.int (0 : Int32)), (.int (0 : Int32))]) p2 p1 (by decide) (by decide) rfl (Nat.le_of_ble_eq_true rfl) (i2c_c8 q3) rfl (hb hby d6_21) rfl (fun h4 W5 A6 => ?_)
  refine go_iload_n (pc' := 23) (hb hby d6_22) rfl rfl ?_
  refine go_iconst (pc' := 24) (v := 1) (hb hby d6_23) rfl rfl ?_
  refine go_icF (pc' := 27) (hb hby d6_24) rfl (by decide) ?_
  refine go_aload_n (pc' := 28) (hb hby d6_27) rfl rfl rfl ?_
  refine go_iconst (pc' := 29) (v := 1) (hb hby d6_28) rfl rfl ?_
  refine go_aload_n (pc' := 30) (hb hby d6_29) rfl rfl rfl ?_
  refine go_iconst (pc' := 31) (v := 1) (hb hby d6_30) rfl rfl ?_
  have S7 := (p3.keepA (Keep.of_wr W5) p2 (by decide) (wk G 3 rfl))
  refine go_old (fun O8 => ?_)
  have q9 : C8 c1 := by obtain ⟨_, _, _, _, _, _, q, _⟩ := id S7; exact q _ (by simp)
  have E10 := (p3.exa.wr W5)
  refine callV0 (cells' := 0) (slots' := 0) (Wd := 2) (argsL := [(.int (1 : Int32))]) (rest := [(.int (1 : Int32)), (.ref a)]) (pay_chr G O8 (i := 1) (c := c1) S7 rfl (Nat.le_of_ble_eq_true rfl) rfl (by decide) (by decide)) E10 (wk G 73 rfl) (wk G 74 rfl) (wk G 76 rfl) (wk G 76 rfl) (wk G 75 rfl) (by decide) pd5 rfl rfl (by rw [hml]; rfl) (Nat.le_of_ble_eq_true rfl) rfl rfl (by decide) (by decide) all0 (fun _ _ => sf0) (hb hby d6_31) (k_v (pc' := 34) rfl ?_)
  rintro _ _ ⟨rfl, rfl⟩ -
  refine go_stC (pc' := 35) (i := 1) (x' := c1) (vs' := [(.int c0), (.int c1), (.int (0 : Int32)), (.int (0 : Int32)), (.int (0 : Int32)), (.int (0 : Int32))]) A6 p1 (by decide) (by decide) rfl (Nat.le_of_ble_eq_true rfl) (i2c_c8 q9) rfl (hb hby d6_34) rfl (fun h11 W12 A13 => ?_)
  refine go_iload_n (pc' := 36) (hb hby d6_35) rfl rfl ?_
  refine go_iconst (pc' := 37) (v := 2) (hb hby d6_36) rfl rfl ?_
  refine go_icF (pc' := 40) (hb hby d6_37) rfl (by decide) ?_
  refine go_aload_n (pc' := 41) (hb hby d6_40) rfl rfl rfl ?_
  refine go_iconst (pc' := 42) (v := 2) (hb hby d6_41) rfl rfl ?_
  refine go_aload_n (pc' := 43) (hb hby d6_42) rfl rfl rfl ?_
  refine go_iconst (pc' := 44) (v := 2) (hb hby d6_43) rfl rfl ?_
  have S14 := (S7.keepA (Keep.of_wr W12) A6 (by decide) (wk G 3 rfl))
  refine go_old (fun O15 => ?_)
  have q16 : C8 c2 := by obtain ⟨_, _, _, _, _, _, q, _⟩ := id S14; exact q _ (by simp)
  have E17 := (E10.wr W12)
  refine callV0 (cells' := 0) (slots' := 0) (Wd := 2) (argsL := [(.int (2 : Int32))]) (rest := [(.int (2 : Int32)), (.ref a)]) (pay_chr G O15 (i := 2) (c := c2) S14 rfl (Nat.le_of_ble_eq_true rfl) rfl (by decide) (by decide)) E17 (wk G 73 rfl) (wk G 74 rfl) (wk G 76 rfl) (wk G 76 rfl) (wk G 75 rfl) (by decide) pd5 rfl rfl (by rw [hml]; rfl) (Nat.le_of_ble_eq_true rfl) rfl rfl (by decide) (by decide) all0 (fun _ _ => sf0) (hb hby d6_44) (k_v (pc' := 47) rfl ?_)
  rintro _ _ ⟨rfl, rfl⟩ -
  refine go_stC (pc' := 48) (i := 2) (x' := c2) (vs' := [(.int c0), (.int c1), (.int c2), (.int (0 : Int32)), (.int (0 : Int32)), (.int (0 : Int32))]) A13 p1 (by decide) (by decide) rfl (Nat.le_of_ble_eq_true rfl) (i2c_c8 q16) rfl (hb hby d6_47) rfl (fun h18 W19 A20 => ?_)
  refine go_iload_n (pc' := 49) (hb hby d6_48) rfl rfl ?_
  refine go_iconst (pc' := 50) (v := 3) (hb hby d6_49) rfl rfl ?_
  refine go_icF (pc' := 53) (hb hby d6_50) rfl (by decide) ?_
  refine go_aload_n (pc' := 54) (hb hby d6_53) rfl rfl rfl ?_
  refine go_iconst (pc' := 55) (v := 3) (hb hby d6_54) rfl rfl ?_
  refine go_aload_n (pc' := 56) (hb hby d6_55) rfl rfl rfl ?_
  refine go_iconst (pc' := 57) (v := 3) (hb hby d6_56) rfl rfl ?_
  have S21 := (S14.keepA (Keep.of_wr W19) A13 (by decide) (wk G 3 rfl))
  refine go_old (fun O22 => ?_)
  have q23 : C8 c3 := by obtain ⟨_, _, _, _, _, _, q, _⟩ := id S21; exact q _ (by simp)
  have E24 := (E17.wr W19)
  refine callV0 (cells' := 0) (slots' := 0) (Wd := 2) (argsL := [(.int (3 : Int32))]) (rest := [(.int (3 : Int32)), (.ref a)]) (pay_chr G O22 (i := 3) (c := c3) S21 rfl (Nat.le_of_ble_eq_true rfl) rfl (by decide) (by decide)) E24 (wk G 73 rfl) (wk G 74 rfl) (wk G 76 rfl) (wk G 76 rfl) (wk G 75 rfl) (by decide) pd5 rfl rfl (by rw [hml]; rfl) (Nat.le_of_ble_eq_true rfl) rfl rfl (by decide) (by decide) all0 (fun _ _ => sf0) (hb hby d6_57) (k_v (pc' := 60) rfl ?_)
  rintro _ _ ⟨rfl, rfl⟩ -
  refine go_stC (pc' := 61) (i := 3) (x' := c3) (vs' := [(.int c0), (.int c1), (.int c2), (.int c3), (.int (0 : Int32)), (.int (0 : Int32))]) A20 p1 (by decide) (by decide) rfl (Nat.le_of_ble_eq_true rfl) (i2c_c8 q23) rfl (hb hby d6_60) rfl (fun h25 W26 A27 => ?_)
  refine go_iload_n (pc' := 62) (hb hby d6_61) rfl rfl ?_
  refine go_iconst (pc' := 63) (v := 4) (hb hby d6_62) rfl rfl ?_
  refine go_icF (pc' := 66) (hb hby d6_63) rfl (by decide) ?_
  refine go_aload_n (pc' := 67) (hb hby d6_66) rfl rfl rfl ?_
  refine go_iconst (pc' := 68) (v := 4) (hb hby d6_67) rfl rfl ?_
  refine go_aload_n (pc' := 69) (hb hby d6_68) rfl rfl rfl ?_
  refine go_iconst (pc' := 70) (v := 4) (hb hby d6_69) rfl rfl ?_
  have S28 := (S21.keepA (Keep.of_wr W26) A20 (by decide) (wk G 3 rfl))
  refine go_old (fun O29 => ?_)
  have q30 : C8 c4 := by obtain ⟨_, _, _, _, _, _, q, _⟩ := id S28; exact q _ (by simp)
  have E31 := (E24.wr W26)
  refine callV0 (cells' := 0) (slots' := 0) (Wd := 2) (argsL := [(.int (4 : Int32))]) (rest := [(.int (4 : Int32)), (.ref a)]) (pay_chr G O29 (i := 4) (c := c4) S28 rfl (Nat.le_of_ble_eq_true rfl) rfl (by decide) (by decide)) E31 (wk G 73 rfl) (wk G 74 rfl) (wk G 76 rfl) (wk G 76 rfl) (wk G 75 rfl) (by decide) pd5 rfl rfl (by rw [hml]; rfl) (Nat.le_of_ble_eq_true rfl) rfl rfl (by decide) (by decide) all0 (fun _ _ => sf0) (hb hby d6_70) (k_v (pc' := 73) rfl ?_)
  rintro _ _ ⟨rfl, rfl⟩ -
  refine go_stC (pc' := 74) (i := 4) (x' := c4) (vs' := [(.int c0), (.int c1), (.int c2), (.int c3), (.int c4), (.int (0 : Int32))]) A27 p1 (by decide) (by decide) rfl (Nat.le_of_ble_eq_true rfl) (i2c_c8 q30) rfl (hb hby d6_73) rfl (fun h32 W33 A34 => ?_)
  refine go_iload_n (pc' := 75) (hb hby d6_74) rfl rfl ?_
  refine go_iconst (pc' := 76) (v := 5) (hb hby d6_75) rfl rfl ?_
  refine go_icF (pc' := 79) (hb hby d6_76) rfl (by decide) ?_
  refine go_aload_n (pc' := 80) (hb hby d6_79) rfl rfl rfl ?_
  refine go_iconst (pc' := 81) (v := 5) (hb hby d6_80) rfl rfl ?_
  refine go_aload_n (pc' := 82) (hb hby d6_81) rfl rfl rfl ?_
  refine go_iconst (pc' := 83) (v := 5) (hb hby d6_82) rfl rfl ?_
  have S35 := (S28.keepA (Keep.of_wr W33) A27 (by decide) (wk G 3 rfl))
  refine go_old (fun O36 => ?_)
  have q37 : C8 c5 := by obtain ⟨_, _, _, _, _, _, q, _⟩ := id S35; exact q _ (by simp)
  have E38 := (E31.wr W33)
  refine callV0 (cells' := 0) (slots' := 0) (Wd := 2) (argsL := [(.int (5 : Int32))]) (rest := [(.int (5 : Int32)), (.ref a)]) (pay_chr G O36 (i := 5) (c := c5) S35 rfl (Nat.le_of_ble_eq_true rfl) rfl (by decide) (by decide)) E38 (wk G 73 rfl) (wk G 74 rfl) (wk G 76 rfl) (wk G 76 rfl) (wk G 75 rfl) (by decide) pd5 rfl rfl (by rw [hml]; rfl) (Nat.le_of_ble_eq_true rfl) rfl rfl (by decide) (by decide) all0 (fun _ _ => sf0) (hb hby d6_83) (k_v (pc' := 86) rfl ?_)
  rintro _ _ ⟨rfl, rfl⟩ -
  refine go_stC (pc' := 87) (i := 5) (x' := c5) (vs' := [(.int c0), (.int c1), (.int c2), (.int c3), (.int c4), (.int c5)]) A34 p1 (by decide) (by decide) rfl (Nat.le_of_ble_eq_true rfl) (i2c_c8 q37) rfl (hb hby d6_86) rfl (fun h39 W40 A41 => ?_)
  refine go_iload_n (pc' := 88) (hb hby d6_87) rfl rfl ?_
  refine go_bipush (pc' := 90) (v := 6) (hb hby d6_88) rfl rfl ?_
  refine go_icT (pc' := 103) (hb hby d6_90) (by decide) rfl (by decide) ?_
  refine go_iload_n (pc' := 104) (hb hby d6_103) rfl rfl ?_
  refine go_bipush (pc' := 106) (v := 7) (hb hby d6_104) rfl rfl ?_
  refine go_icT (pc' := 119) (hb hby d6_106) (by decide) rfl (by decide) ?_
  have K42 : Keep h0 h4 [a] := ((Keep.refl h0 [a]).wr W5 (Or.inl (by simp)))
  have K43 : Keep h0 h11 [a] := (K42.wr W12 (Or.inl (by simp)))
  have K44 : Keep h0 h18 [a] := (K43.wr W19 (Or.inl (by simp)))
  have K45 : Keep h0 h25 [a] := (K44.wr W26 (Or.inl (by simp)))
  have K46 : Keep h0 h32 [a] := (K45.wr W33 (Or.inl (by simp)))
  have K47 : Keep h0 h39 [a] := (K46.wr W40 (Or.inl (by simp)))
  refine go_return hret hlk (hb hby d6_119) (by decide) (by decide) ⟨rfl, A41⟩ K47
theorem ef_fill87 (m : MethodId) (a : Addr) (b : Addr)  : entryFrame m #[(.ref a), (.ref b)] 3 = mkF m 0 #[.val (.ref a), .val (.ref b), .unset] [] := by first | (simp [entryFrame, mkF, argsToLocals, Value.category]; done) | rfl
def Q_fill87 (Z : State) (a : Addr) (b : Addr) (k : ClassId) (c0 : Int32) (c1 : Int32) (c2 : Int32) (c3 : Int32) (c4 : Int32) (c5 : Int32) (c6 : Int32) (h0 : Heap) (h : Heap) : Prop := Arv Z h a k (.char) (8 : Int32) [(.int c0), (.int c1), (.int c2), (.int c3), (.int c4), (.int c5), (.int c6), (.int (0 : Int32))] (.int 0)
set_option maxRecDepth 65536 in
set_option maxHeartbeats 40000000 in
theorem c_fill87 (l : Launch) {Z : State} {a0 : Array Value} (G : GH Z a0) (a : Addr) (b : Addr) (k : ClassId) (c0 : Int32) (c1 : Int32) (c2 : Int32) (c3 : Int32) (c4 : Int32) (c5 : Int32) (c6 : Int32) (h0 : Heap) (O0 : Old Z Z.heap.size h0) (p1 : Z.heap.size ≤ a) (p2 : Arv Z h0 a k (.char) (8 : Int32) [(.int (0 : Int32)), (.int (0 : Int32)), (.int (0 : Int32)), (.int (0 : Int32)), (.int (0 : Int32)), (.int (0 : Int32)), (.int (0 : Int32)), (.int (0 : Int32))] (.int 0)) (p3 : Str Z h0 b [c0, c1, c2, c3, c4, c5, c6]) : Con false [] l Z (⟨"com/example/ispol/ispol/scoring/LabelOfPinLaw", "fill", "([CLjava/lang/String;)V"⟩ : MethodName) method_4_code 3 none [] ({ frames := 4, cells := 0, slots := 0, locals := 55 } : Room) #[(.ref a), (.ref b)] h0 [a] (rno (Q_fill87 Z a b k c0 c1 c2 c3 c4 c5 c6 h0)) := by
  refine con_of (a0 := a0) (plainFor_of_name pn3) (fun q => rfl) EW.nil O0 (fun m => ef_fill87 m a b) ?_
  intro p_ e_ s_ m_ below_ meth_ c_ hby hml hret hlk hnm
  refine go_aload_n (pc' := 1) (hb hby d6_0) rfl rfl rfl ?_
  refine go_arraylength (pc' := 2) p2 (hb hby d6_1) rfl ?_
  refine go_aload_n (pc' := 3) (hb hby d6_2) rfl rfl rfl ?_
  refine callV0 (cells' := 0) (slots' := 0) (Wd := 1) (argsL := []) (rest := [(.int (8 : Int32))]) (pay_len G O0 (n := (7 : Int32)) p3 rfl (by decide) (by decide)) p3.exa (wk G 12 rfl) (wk G 13 rfl) (wk G 15 rfl) (wk G 15 rfl) (wk G 14 rfl) (by decide) pd3 rfl rfl (by rw [hml]; rfl) (Nat.le_of_ble_eq_true rfl) rfl rfl (by decide) (by decide) all0 (fun _ _ => sf0) (hb hby d6_3) (k_v (pc' := 6) rfl ?_)
  rintro _ _ ⟨rfl, rfl⟩ -
  refine callS0 (cells' := 0) (slots' := 0) (Wd := 0) (argsL := [(.int (8 : Int32)), (.int (7 : Int32))]) (rest := []) (pay_of (a0 := a0) (c_min87 l G  h0 O0 ) (wk G 72 rfl) (wk G 71 rfl) (by decide) (by decide)) (wk G 69 rfl) (wk G 70 rfl) (wk G 71 rfl) (wk G 72 rfl) (by decide) pd4 rfl rfl (by rw [hml]; rfl) (Nat.le_of_ble_eq_true rfl) rfl rfl (by decide) (by decide) all0 (fun _ _ => sf0) (hb hby d6_6) (k_v (pc' := 9) rfl ?_)
  rintro _ h1 ⟨rfl, rfl⟩ K2
  refine go_istore_n (pc' := 10) (ls' := #[.val (.ref a), .val (.ref b), .val (.int (7 : Int32))]) (hb hby d6_9) rfl rfl ?_
  refine go_iload_n (pc' := 11) (hb hby d6_10) rfl rfl ?_
  refine go_ifF (pc' := 14) (hb hby d6_11) rfl (by decide) ?_
  refine go_aload_n (pc' := 15) (hb hby d6_14) rfl rfl rfl ?_
  refine go_iconst (pc' := 16) (v := 0) (hb hby d6_15) rfl rfl ?_
  refine go_aload_n (pc' := 17) (hb hby d6_16) rfl rfl rfl ?_
  refine go_iconst (pc' := 18) (v := 0) (hb hby d6_17) rfl rfl ?_
  have q3 : C8 c0 := by obtain ⟨_, _, _, _, _, _, q, _⟩ := id p3; exact q _ (by simp)
  refine callV0 (cells' := 0) (slots' := 0) (Wd := 2) (argsL := [(.int (0 : Int32))]) (rest := [(.int (0 : Int32)), (.ref a)]) (pay_chr G O0 (i := 0) (c := c0) p3 rfl (Nat.le_of_ble_eq_true rfl) rfl (by decide) (by decide)) p3.exa (wk G 73 rfl) (wk G 74 rfl) (wk G 76 rfl) (wk G 76 rfl) (wk G 75 rfl) (by decide) pd5 rfl rfl (by rw [hml]; rfl) (Nat.le_of_ble_eq_true rfl) rfl rfl (by decide) (by decide) all0 (fun _ _ => sf0) (hb hby d6_18) (k_v (pc' := 21) rfl ?_)
  rintro _ _ ⟨rfl, rfl⟩ -
  refine go_stC (pc' := 22) (i := 0) (x' := c0) (vs' := [(.int c0), (.int (0 : Int32)), (.int (0 : Int32)), (.int (0 : Int32)), (.int (0 : Int32)), (.int (0 : Int32)), (.int (0 : Int32)), (.int (0 : Int32))]) p2 p1 (by decide) (by decide) rfl (Nat.le_of_ble_eq_true rfl) (i2c_c8 q3) rfl (hb hby d6_21) rfl (fun h4 W5 A6 => ?_)
  refine go_iload_n (pc' := 23) (hb hby d6_22) rfl rfl ?_
  refine go_iconst (pc' := 24) (v := 1) (hb hby d6_23) rfl rfl ?_
  refine go_icF (pc' := 27) (hb hby d6_24) rfl (by decide) ?_
  refine go_aload_n (pc' := 28) (hb hby d6_27) rfl rfl rfl ?_
  refine go_iconst (pc' := 29) (v := 1) (hb hby d6_28) rfl rfl ?_
  refine go_aload_n (pc' := 30) (hb hby d6_29) rfl rfl rfl ?_
  refine go_iconst (pc' := 31) (v := 1) (hb hby d6_30) rfl rfl ?_
  have S7 := (p3.keepA (Keep.of_wr W5) p2 (by decide) (wk G 3 rfl))
  refine go_old (fun O8 => ?_)
  have q9 : C8 c1 := by obtain ⟨_, _, _, _, _, _, q, _⟩ := id S7; exact q _ (by simp)
  have E10 := (p3.exa.wr W5)
  refine callV0 (cells' := 0) (slots' := 0) (Wd := 2) (argsL := [(.int (1 : Int32))]) (rest := [(.int (1 : Int32)), (.ref a)]) (pay_chr G O8 (i := 1) (c := c1) S7 rfl (Nat.le_of_ble_eq_true rfl) rfl (by decide) (by decide)) E10 (wk G 73 rfl) (wk G 74 rfl) (wk G 76 rfl) (wk G 76 rfl) (wk G 75 rfl) (by decide) pd5 rfl rfl (by rw [hml]; rfl) (Nat.le_of_ble_eq_true rfl) rfl rfl (by decide) (by decide) all0 (fun _ _ => sf0) (hb hby d6_31) (k_v (pc' := 34) rfl ?_)
  rintro _ _ ⟨rfl, rfl⟩ -
  refine go_stC (pc' := 35) (i := 1) (x' := c1) (vs' := [(.int c0), (.int c1), (.int (0 : Int32)), (.int (0 : Int32)), (.int (0 : Int32)), (.int (0 : Int32)), (.int (0 : Int32)), (.int (0 : Int32))]) A6 p1 (by decide) (by decide) rfl (Nat.le_of_ble_eq_true rfl) (i2c_c8 q9) rfl (hb hby d6_34) rfl (fun h11 W12 A13 => ?_)
  refine go_iload_n (pc' := 36) (hb hby d6_35) rfl rfl ?_
  refine go_iconst (pc' := 37) (v := 2) (hb hby d6_36) rfl rfl ?_
  refine go_icF (pc' := 40) (hb hby d6_37) rfl (by decide) ?_
  refine go_aload_n (pc' := 41) (hb hby d6_40) rfl rfl rfl ?_
  refine go_iconst (pc' := 42) (v := 2) (hb hby d6_41) rfl rfl ?_
  refine go_aload_n (pc' := 43) (hb hby d6_42) rfl rfl rfl ?_
  refine go_iconst (pc' := 44) (v := 2) (hb hby d6_43) rfl rfl ?_
  have S14 := (S7.keepA (Keep.of_wr W12) A6 (by decide) (wk G 3 rfl))
  refine go_old (fun O15 => ?_)
  have q16 : C8 c2 := by obtain ⟨_, _, _, _, _, _, q, _⟩ := id S14; exact q _ (by simp)
  have E17 := (E10.wr W12)
  refine callV0 (cells' := 0) (slots' := 0) (Wd := 2) (argsL := [(.int (2 : Int32))]) (rest := [(.int (2 : Int32)), (.ref a)]) (pay_chr G O15 (i := 2) (c := c2) S14 rfl (Nat.le_of_ble_eq_true rfl) rfl (by decide) (by decide)) E17 (wk G 73 rfl) (wk G 74 rfl) (wk G 76 rfl) (wk G 76 rfl) (wk G 75 rfl) (by decide) pd5 rfl rfl (by rw [hml]; rfl) (Nat.le_of_ble_eq_true rfl) rfl rfl (by decide) (by decide) all0 (fun _ _ => sf0) (hb hby d6_44) (k_v (pc' := 47) rfl ?_)
  rintro _ _ ⟨rfl, rfl⟩ -
  refine go_stC (pc' := 48) (i := 2) (x' := c2) (vs' := [(.int c0), (.int c1), (.int c2), (.int (0 : Int32)), (.int (0 : Int32)), (.int (0 : Int32)), (.int (0 : Int32)), (.int (0 : Int32))]) A13 p1 (by decide) (by decide) rfl (Nat.le_of_ble_eq_true rfl) (i2c_c8 q16) rfl (hb hby d6_47) rfl (fun h18 W19 A20 => ?_)
  refine go_iload_n (pc' := 49) (hb hby d6_48) rfl rfl ?_
  refine go_iconst (pc' := 50) (v := 3) (hb hby d6_49) rfl rfl ?_
  refine go_icF (pc' := 53) (hb hby d6_50) rfl (by decide) ?_
  refine go_aload_n (pc' := 54) (hb hby d6_53) rfl rfl rfl ?_
  refine go_iconst (pc' := 55) (v := 3) (hb hby d6_54) rfl rfl ?_
  refine go_aload_n (pc' := 56) (hb hby d6_55) rfl rfl rfl ?_
  refine go_iconst (pc' := 57) (v := 3) (hb hby d6_56) rfl rfl ?_
  have S21 := (S14.keepA (Keep.of_wr W19) A13 (by decide) (wk G 3 rfl))
  refine go_old (fun O22 => ?_)
  have q23 : C8 c3 := by obtain ⟨_, _, _, _, _, _, q, _⟩ := id S21; exact q _ (by simp)
  have E24 := (E17.wr W19)
  refine callV0 (cells' := 0) (slots' := 0) (Wd := 2) (argsL := [(.int (3 : Int32))]) (rest := [(.int (3 : Int32)), (.ref a)]) (pay_chr G O22 (i := 3) (c := c3) S21 rfl (Nat.le_of_ble_eq_true rfl) rfl (by decide) (by decide)) E24 (wk G 73 rfl) (wk G 74 rfl) (wk G 76 rfl) (wk G 76 rfl) (wk G 75 rfl) (by decide) pd5 rfl rfl (by rw [hml]; rfl) (Nat.le_of_ble_eq_true rfl) rfl rfl (by decide) (by decide) all0 (fun _ _ => sf0) (hb hby d6_57) (k_v (pc' := 60) rfl ?_)
  rintro _ _ ⟨rfl, rfl⟩ -
  refine go_stC (pc' := 61) (i := 3) (x' := c3) (vs' := [(.int c0), (.int c1), (.int c2), (.int c3), (.int (0 : Int32)), (.int (0 : Int32)), (.int (0 : Int32)), (.int (0 : Int32))]) A20 p1 (by decide) (by decide) rfl (Nat.le_of_ble_eq_true rfl) (i2c_c8 q23) rfl (hb hby d6_60) rfl (fun h25 W26 A27 => ?_)
  refine go_iload_n (pc' := 62) (hb hby d6_61) rfl rfl ?_
  refine go_iconst (pc' := 63) (v := 4) (hb hby d6_62) rfl rfl ?_
  refine go_icF (pc' := 66) (hb hby d6_63) rfl (by decide) ?_
  refine go_aload_n (pc' := 67) (hb hby d6_66) rfl rfl rfl ?_
  refine go_iconst (pc' := 68) (v := 4) (hb hby d6_67) rfl rfl ?_
  refine go_aload_n (pc' := 69) (hb hby d6_68) rfl rfl rfl ?_
  refine go_iconst (pc' := 70) (v := 4) (hb hby d6_69) rfl rfl ?_
  have S28 := (S21.keepA (Keep.of_wr W26) A20 (by decide) (wk G 3 rfl))
  refine go_old (fun O29 => ?_)
  have q30 : C8 c4 := by obtain ⟨_, _, _, _, _, _, q, _⟩ := id S28; exact q _ (by simp)
  have E31 := (E24.wr W26)
  refine callV0 (cells' := 0) (slots' := 0) (Wd := 2) (argsL := [(.int (4 : Int32))]) (rest := [(.int (4 : Int32)), (.ref a)]) (pay_chr G O29 (i := 4) (c := c4) S28 rfl (Nat.le_of_ble_eq_true rfl) rfl (by decide) (by decide)) E31 (wk G 73 rfl) (wk G 74 rfl) (wk G 76 rfl) (wk G 76 rfl) (wk G 75 rfl) (by decide) pd5 rfl rfl (by rw [hml]; rfl) (Nat.le_of_ble_eq_true rfl) rfl rfl (by decide) (by decide) all0 (fun _ _ => sf0) (hb hby d6_70) (k_v (pc' := 73) rfl ?_)
  rintro _ _ ⟨rfl, rfl⟩ -
  refine go_stC (pc' := 74) (i := 4) (x' := c4) (vs' := [(.int c0), (.int c1), (.int c2), (.int c3), (.int c4), (.int (0 : Int32)), (.int (0 : Int32)), (.int (0 : Int32))]) A27 p1 (by decide) (by decide) rfl (Nat.le_of_ble_eq_true rfl) (i2c_c8 q30) rfl (hb hby d6_73) rfl (fun h32 W33 A34 => ?_)
  refine go_iload_n (pc' := 75) (hb hby d6_74) rfl rfl ?_
  refine go_iconst (pc' := 76) (v := 5) (hb hby d6_75) rfl rfl ?_
  refine go_icF (pc' := 79) (hb hby d6_76) rfl (by decide) ?_
  refine go_aload_n (pc' := 80) (hb hby d6_79) rfl rfl rfl ?_
  refine go_iconst (pc' := 81) (v := 5) (hb hby d6_80) rfl rfl ?_
  refine go_aload_n (pc' := 82) (hb hby d6_81) rfl rfl rfl ?_
  refine go_iconst (pc' := 83) (v := 5) (hb hby d6_82) rfl rfl ?_
  have S35 := (S28.keepA (Keep.of_wr W33) A27 (by decide) (wk G 3 rfl))
  refine go_old (fun O36 => ?_)
  have q37 : C8 c5 := by obtain ⟨_, _, _, _, _, _, q, _⟩ := id S35; exact q _ (by simp)
  have E38 := (E31.wr W33)
  refine callV0 (cells' := 0) (slots' := 0) (Wd := 2) (argsL := [(.int (5 : Int32))]) (rest := [(.int (5 : Int32)), (.ref a)]) (pay_chr G O36 (i := 5) (c := c5) S35 rfl (Nat.le_of_ble_eq_true rfl) rfl (by decide) (by decide)) E38 (wk G 73 rfl) (wk G 74 rfl) (wk G 76 rfl) (wk G 76 rfl) (wk G 75 rfl) (by decide) pd5 rfl rfl (by rw [hml]; rfl) (Nat.le_of_ble_eq_true rfl) rfl rfl (by decide) (by decide) all0 (fun _ _ => sf0) (hb hby d6_83) (k_v (pc' := 86) rfl ?_)
  rintro _ _ ⟨rfl, rfl⟩ -
  refine go_stC (pc' := 87) (i := 5) (x' := c5) (vs' := [(.int c0), (.int c1), (.int c2), (.int c3), (.int c4), (.int c5), (.int (0 : Int32)), (.int (0 : Int32))]) A34 p1 (by decide) (by decide) rfl (Nat.le_of_ble_eq_true rfl) (i2c_c8 q37) rfl (hb hby d6_86) rfl (fun h39 W40 A41 => ?_)
  refine go_iload_n (pc' := 88) (hb hby d6_87) rfl rfl ?_
  refine go_bipush (pc' := 90) (v := 6) (hb hby d6_88) rfl rfl ?_
  refine go_icF (pc' := 93) (hb hby d6_90) rfl (by decide) ?_
  refine go_aload_n (pc' := 94) (hb hby d6_93) rfl rfl rfl ?_
  refine go_bipush (pc' := 96) (v := 6) (hb hby d6_94) rfl rfl ?_
  refine go_aload_n (pc' := 97) (hb hby d6_96) rfl rfl rfl ?_
  refine go_bipush (pc' := 99) (v := 6) (hb hby d6_97) rfl rfl ?_
  have S42 := (S35.keepA (Keep.of_wr W40) A34 (by decide) (wk G 3 rfl))
  refine go_old (fun O43 => ?_)
  have q44 : C8 c6 := by obtain ⟨_, _, _, _, _, _, q, _⟩ := id S42; exact q _ (by simp)
  have E45 := (E38.wr W40)
  refine callV0 (cells' := 0) (slots' := 0) (Wd := 2) (argsL := [(.int (6 : Int32))]) (rest := [(.int (6 : Int32)), (.ref a)]) (pay_chr G O43 (i := 6) (c := c6) S42 rfl (Nat.le_of_ble_eq_true rfl) rfl (by decide) (by decide)) E45 (wk G 73 rfl) (wk G 74 rfl) (wk G 76 rfl) (wk G 76 rfl) (wk G 75 rfl) (by decide) pd5 rfl rfl (by rw [hml]; rfl) (Nat.le_of_ble_eq_true rfl) rfl rfl (by decide) (by decide) all0 (fun _ _ => sf0) (hb hby d6_99) (k_v (pc' := 102) rfl ?_)
  rintro _ _ ⟨rfl, rfl⟩ -
  refine go_stC (pc' := 103) (i := 6) (x' := c6) (vs' := [(.int c0), (.int c1), (.int c2), (.int c3), (.int c4), (.int c5), (.int c6), (.int (0 : Int32))]) A41 p1 (by decide) (by decide) rfl (Nat.le_of_ble_eq_true rfl) (i2c_c8 q44) rfl (hb hby d6_102) rfl (fun h46 W47 A48 => ?_)
  refine go_iload_n (pc' := 104) (hb hby d6_103) rfl rfl ?_
  refine go_bipush (pc' := 106) (v := 7) (hb hby d6_104) rfl rfl ?_
  refine go_icT (pc' := 119) (hb hby d6_106) (by decide) rfl (by decide) ?_
  have K49 : Keep h0 h4 [a] := ((Keep.refl h0 [a]).wr W5 (Or.inl (by simp)))
  have K50 : Keep h0 h11 [a] := (K49.wr W12 (Or.inl (by simp)))
  have K51 : Keep h0 h18 [a] := (K50.wr W19 (Or.inl (by simp)))
  have K52 : Keep h0 h25 [a] := (K51.wr W26 (Or.inl (by simp)))
  have K53 : Keep h0 h32 [a] := (K52.wr W33 (Or.inl (by simp)))
  have K54 : Keep h0 h39 [a] := (K53.wr W40 (Or.inl (by simp)))
  have K55 : Keep h0 h46 [a] := (K54.wr W47 (Or.inl (by simp)))
  refine go_return hret hlk (hb hby d6_119) (by decide) (by decide) ⟨rfl, A48⟩ K55
theorem ef_law (m : MethodId) (x0 : Int32) (x1 : Int32) (x2 : Int32) (x3 : Int32)  : entryFrame m #[(.int x0), (.int x1), (.int x2), (.int x3)] maxLocals = mkF m 0 #[.val (.int x0), .val (.int x1), .val (.int x2), .val (.int x3), .unset, .unset, .unset, .unset, .unset, .unset, .unset, .unset, .unset, .unset, .unset] [] := by first | (simp [entryFrame, mkF, argsToLocals, Value.category, maxLocals]; done) | rfl
def Q_law (Z : State) (x0 : Int32) (x1 : Int32) (x2 : Int32) (x3 : Int32)  (h0 : Heap) (xv : Value) (h : Heap) : Prop := (.int (1 : Int32)) = xv
set_option maxRecDepth 65536 in
set_option maxHeartbeats 40000000 in
theorem c_law (l : Launch) {Z : State} {a0 : Array Value} (G : GH Z a0) (x0 : Int32) (x1 : Int32) (x2 : Int32) (x3 : Int32)  (h0 : Heap) (O0 : Old Z Z.heap.size h0)  : Con true EL1 l Z x code maxLocals ret tables_1 room_1 #[(.int x0), (.int x1), (.int x2), (.int x3)] h0 [] (rvl (Q_law Z x0 x1 x2 x3 h0)) := by
  refine con_of (a0 := a0) (plainFor_of_name pn3) (fun q => nomatch q) (ew1 G) O0 (fun m => ef_law m x0 x1 x2 x3) ?_
  intro p_ e_ s_ m_ below_ meth_ c_ hby hml hret hlk hnm
  refine go_iload_n (pc' := 1) (hb hby at_0) rfl rfl ?_
  refine go_ldcI (pc' := 3) (v := (2147483647 : Int32)) (wk G 0 rfl) (hb hby at_1) rfl ?_
  refine go_iand (pc' := 4) (z := (x0 &&& (2147483647 : Int32))) (hb hby at_3) rfl rfl ?_
  refine go_iconst (pc' := 5) (v := 3) (hb hby at_4) rfl rfl ?_
  refine go_irem (pc' := 6) (z := ((x0 &&& (2147483647 : Int32)) % (3 : Int32))) (hb hby at_5) rfl (by decide) rfl ?_
  refine go_istore (pc' := 8) (ls' := #[.val (.int x0), .val (.int x1), .val (.int x2), .val (.int x3), .val (.int ((x0 &&& (2147483647 : Int32)) % (3 : Int32))), .unset, .unset, .unset, .unset, .unset, .unset, .unset, .unset, .unset, .unset]) (hb hby at_6) rfl rfl ?_
  refine go_iload (pc' := 10) (hb hby at_8) rfl rfl ?_
  by_cases c1 : ((x0 &&& (2147483647 : Int32)) % (3 : Int32)) = (0 : Int32)
  · refine go_ifF (pc' := 13) (hb hby at_10) rfl (XT.i0_ne_f c1) ?_
    refine go_ldcH (pc' := 15) (cells' := 2) (slots' := 36) (n := 32) (vs := (([(119 : Int32), (105 : Int32), (116 : Int32), (104 : Int32), (104 : Int32), (111 : Int32), (108 : Int32), (100 : Int32)] : List Int32).map fun c => c.toInt8.toInt32).map Value.int) (z := (8 : Int32)) rfl (by decide) (wk G 1 rfl) (wS G) (by decide +kernel) (by decide) (by decide) (by decide) (by decide) (hb hby at_13) rfl rfl rfl (by decide) (by decide) (fun h2 a3 t5 k6 X4 E7 F8 F9 A10 => ?_)
    have S11 : Str Z h2 a3 [(119 : Int32), (105 : Int32), (116 : Int32), (104 : Int32), (104 : Int32), (111 : Int32), (108 : Int32), (100 : Int32)] := ⟨t5, k6, E7, F9, F8, A10, by decide, by decide⟩
    refine go_goto (pc' := 31) (hb hby at_15) (by decide) rfl ?_
    refine go_astore (pc' := 33) (ls' := #[.val (.int x0), .val (.int x1), .val (.int x2), .val (.int x3), .val (.int ((x0 &&& (2147483647 : Int32)) % (3 : Int32))), .val (.ref a3), .unset, .unset, .unset, .unset, .unset, .unset, .unset, .unset, .unset]) (hb hby at_31) rfl rfl rfl ?_
    refine go_iload (pc' := 35) (hb hby at_33) rfl rfl ?_
    refine go_ifF (pc' := 38) (hb hby at_35) rfl (XT.i0_ne_f c1) ?_
    refine go_old (fun O12 => ?_)
    refine go_getS (pc' := 41) (wk G 9 rfl) ((se_WITHHOLD G).1.ext O12.2) (hb hby at_38) rfl ?_
    refine go_goto (pc' := 59) (hb hby at_41) (by decide) rfl ?_
    refine go_astore (pc' := 61) (ls' := #[.val (.int x0), .val (.int x1), .val (.int x2), .val (.int x3), .val (.int ((x0 &&& (2147483647 : Int32)) % (3 : Int32))), .val (.ref a3), .val (.ref (s_WITHHOLD Z)), .unset, .unset, .unset, .unset, .unset, .unset, .unset, .unset]) (hb hby at_59) rfl rfl rfl ?_
    refine go_aload (pc' := 63) (hb hby at_61) rfl rfl rfl ?_
    refine callV0 (cells' := 2) (slots' := 36) (Wd := 0) (argsL := []) (rest := []) (pay_len G O12 (n := (8 : Int32)) S11 rfl (by decide) (by decide)) E7 (wk G 12 rfl) (wk G 13 rfl) (wk G 15 rfl) (wk G 15 rfl) (wk G 14 rfl) (by decide) pd3 rfl rfl (by rw [hml]; rfl) (Nat.le_of_ble_eq_true rfl) rfl rfl (by decide) (by decide) all0 (fun _ _ => sf0) (hb hby at_63) (k_v (pc' := 66) rfl ?_)
    rintro _ _ ⟨rfl, rfl⟩ -
    refine go_istore (pc' := 68) (ls' := #[.val (.int x0), .val (.int x1), .val (.int x2), .val (.int x3), .val (.int ((x0 &&& (2147483647 : Int32)) % (3 : Int32))), .val (.ref a3), .val (.ref (s_WITHHOLD Z)), .val (.int (8 : Int32)), .unset, .unset, .unset, .unset, .unset, .unset, .unset]) (hb hby at_66) rfl rfl ?_
    refine go_iload_n (pc' := 69) (hb hby at_68) rfl rfl ?_
    refine go_sipush (pc' := 72) (v := 255) (hb hby at_69) rfl rfl ?_
    refine go_iand (pc' := 73) (z := (x3 &&& (255 : Int32))) (hb hby at_72) rfl rfl ?_
    refine go_i2c (pc' := 74) (z := (x3 &&& (255 : Int32))) (hb hby at_73) rfl (i2c_mask _) ?_
    refine go_istore (pc' := 76) (ls' := #[.val (.int x0), .val (.int x1), .val (.int x2), .val (.int x3), .val (.int ((x0 &&& (2147483647 : Int32)) % (3 : Int32))), .val (.ref a3), .val (.ref (s_WITHHOLD Z)), .val (.int (8 : Int32)), .val (.int (x3 &&& (255 : Int32))), .unset, .unset, .unset, .unset, .unset, .unset]) (hb hby at_74) rfl rfl ?_
    refine go_iload_n (pc' := 77) (hb hby at_76) rfl rfl ?_
    refine go_bipush (pc' := 79) (v := 8) (hb hby at_77) rfl rfl ?_
    refine go_iushr (pc' := 80) (z := (XT.ushr x3 (8 : Int32))) (hb hby at_79) rfl rfl ?_
    refine go_iconst (pc' := 81) (v := 1) (hb hby at_80) rfl rfl ?_
    refine go_iand (pc' := 82) (z := ((XT.ushr x3 (8 : Int32)) &&& (1 : Int32))) (hb hby at_81) rfl rfl ?_
    by_cases c13 : ((XT.ushr x3 (8 : Int32)) &&& (1 : Int32)) = (0 : Int32)
    · refine go_ifT (pc' := 89) (hb hby at_82) (by decide) rfl (XT.i0_eq_t c13) ?_
      refine go_iconst (pc' := 90) (v := 0) (hb hby at_89) rfl rfl ?_
      refine go_istore (pc' := 92) (ls' := #[.val (.int x0), .val (.int x1), .val (.int x2), .val (.int x3), .val (.int ((x0 &&& (2147483647 : Int32)) % (3 : Int32))), .val (.ref a3), .val (.ref (s_WITHHOLD Z)), .val (.int (8 : Int32)), .val (.int (x3 &&& (255 : Int32))), .val (.int (0 : Int32)), .unset, .unset, .unset, .unset, .unset]) (hb hby at_90) rfl rfl ?_
      refine go_iload_n (pc' := 93) (hb hby at_92) rfl rfl ?_
      refine go_iconst (pc' := 94) (v := 3) (hb hby at_93) rfl rfl ?_
      refine go_iand (pc' := 95) (z := (x1 &&& (3 : Int32))) (hb hby at_94) rfl rfl ?_
      refine go_istore (pc' := 97) (ls' := #[.val (.int x0), .val (.int x1), .val (.int x2), .val (.int x3), .val (.int ((x0 &&& (2147483647 : Int32)) % (3 : Int32))), .val (.ref a3), .val (.ref (s_WITHHOLD Z)), .val (.int (8 : Int32)), .val (.int (x3 &&& (255 : Int32))), .val (.int (0 : Int32)), .val (.int (x1 &&& (3 : Int32))), .unset, .unset, .unset, .unset]) (hb hby at_95) rfl rfl ?_
      refine go_iload (pc' := 99) (hb hby at_97) rfl rfl ?_
      by_cases c14 : (x1 &&& (3 : Int32)) = (0 : Int32)
      · refine go_ifF (pc' := 102) (hb hby at_99) rfl (XT.i0_ne_f c14) ?_
        refine go_iload (pc' := 104) (hb hby at_102) rfl rfl ?_
        refine callS0 (cells' := 3) (slots' := 44) (Wd := 0) (argsL := [(.int (8 : Int32))]) (rest := []) (pay_of (a0 := a0) (c_sized8 l G  h2 O12 ) (wk G 64 rfl) (wk G 63 rfl) (by decide) (by decide)) (wk G 61 rfl) (wk G 62 rfl) (wk G 63 rfl) (wk G 64 rfl) (by decide) pd6 rfl rfl (by rw [hml]; rfl) (Nat.le_of_ble_eq_true rfl) rfl rfl (by decide) (by decide) all0 (fun _ _ => sf0) (hb hby at_104) (k_v (pc' := 107) rfl ?_)
        rintro _ h15 ⟨r17, r18, rfl, f19, f20⟩ K16
        refine go_astore (pc' := 109) (ls' := #[.val (.int x0), .val (.int x1), .val (.int x2), .val (.int x3), .val (.int ((x0 &&& (2147483647 : Int32)) % (3 : Int32))), .val (.ref a3), .val (.ref (s_WITHHOLD Z)), .val (.int (8 : Int32)), .val (.int (x3 &&& (255 : Int32))), .val (.int (0 : Int32)), .val (.int (x1 &&& (3 : Int32))), .unset, .unset, .val (.ref r17), .unset]) (hb hby at_107) rfl rfl rfl ?_
        refine go_aload (pc' := 111) (hb hby at_109) rfl rfl rfl ?_
        refine go_aload (pc' := 113) (hb hby at_111) rfl rfl rfl ?_
        have K21 : Keep h0 h2 [] := ((Keep.refl h0 []).ext X4)
        have K22 : Keep h2 h15 [] := ((Keep.refl h2 []).trans K16 all0)
        have S23 := (S11.keep K22)
        refine go_old (fun O24 => ?_)
        refine callS0 (cells' := 3) (slots' := 44) (Wd := 0) (argsL := [(.ref r17), (.ref a3)]) (rest := []) (pay_of (a0 := a0) (c_fill88 l G r17 a3 r18 (119 : Int32) (105 : Int32) (116 : Int32) (104 : Int32) (104 : Int32) (111 : Int32) (108 : Int32) (100 : Int32) h15 O24 (Nat.le_trans O0.2.1 (Nat.le_trans K21.1 f19)) f20 S23) (wk G 68 rfl) (wk G 63 rfl) (by decide) (by decide)) (wk G 66 rfl) (wk G 67 rfl) (wk G 63 rfl) (wk G 68 rfl) (by decide) pd7 rfl rfl (by rw [hml]; rfl) (Nat.le_of_ble_eq_true rfl) rfl rfl (by decide) (by decide) (allS (Nat.le_trans O0.2.1 (Nat.le_trans K21.1 f19)) all0) (fun _ hal => (sfS (Safe.arv hal f20 (by simp)) sf0)) (hb hby at_113) (k_n (pc' := 116) rfl ?_)
        rintro  h25 f27 K26
        refine go_iload (pc' := 118) (hb hby at_116) rfl rfl ?_
        refine go_ifT (pc' := 160) (hb hby at_118) (by decide) rfl (by decide) ?_
        refine go_aload (pc' := 162) (hb hby at_160) rfl rfl rfl ?_
        refine go_astore (pc' := 164) (ls' := #[.val (.int x0), .val (.int x1), .val (.int x2), .val (.int x3), .val (.int ((x0 &&& (2147483647 : Int32)) % (3 : Int32))), .val (.ref a3), .val (.ref (s_WITHHOLD Z)), .val (.int (8 : Int32)), .val (.int (x3 &&& (255 : Int32))), .val (.int (0 : Int32)), .val (.int (x1 &&& (3 : Int32))), .unset, .val (.ref (s_WITHHOLD Z)), .val (.ref r17), .unset]) (hb hby at_162) rfl rfl rfl ?_
        refine go_newO (pc' := 167) (cells' := 4) (slots' := 48) (wk G 94 rfl) (wk G 3 rfl) (wk G 2 rfl) (hb hby at_164) rfl rfl rfl (by decide) (by decide) (fun h28 a29 g30 X31 E32 D33 U34 => ?_)
        refine go_dup (pc' := 168) (hb hby at_167) rfl rfl ?_
        refine go_aload (pc' := 170) (hb hby at_168) rfl rfl rfl ?_
        have F35 := D33 (Or.inr (wk G 5 rfl)) (ty := (.array .byte)) (by decide)
        have F36 := D33 (Or.inr (wk G 6 rfl)) (ty := .byte) (by decide)
        have K37 : Keep h25 h28 [] := ((Keep.refl h25 []).ext X31)
        have A38 := (f27.keep K37 nin0)
        refine go_old (fun O39 => ?_)
        have K40 : Keep h0 h15 [] := (K21.trans K16 all0)
        have K41 : Keep h0 h25 [] := (K40.trans K26 (allS (Or.inr (Nat.le_trans K21.1 f19)) all0))
        refine callI0 (cells' := 5) (slots' := 56) (Wd := 1) (argsL := [(.ref r17)]) (rest := [(.ref a29)]) (pay_new G O39 (cs := [(119 : Int32), (105 : Int32), (116 : Int32), (104 : Int32), (104 : Int32), (111 : Int32), (108 : Int32), (100 : Int32)]) (n := 8) (Nat.le_trans O0.2.1 (Nat.le_trans K41.1 (Nat.le_of_eq g30))) E32 F35 F36 A38 rfl rfl (by decide) (by decide) (c8c (by decide) (c8c (by decide) (c8c (by decide) (c8c (by decide) (c8c (by decide) (c8c (by decide) (c8c (by decide) (c8c (by decide) c8n)))))))) (by decide) (by decide)) rfl (wk G 95 rfl) (wk G 96 rfl) (wk G 97 rfl) (by decide) pd8 rfl rfl (by rw [hml]; rfl) (Nat.le_of_ble_eq_true rfl) rfl rfl (by decide) (by decide) (allS (Nat.le_trans O0.2.1 (Nat.le_trans K41.1 (Nat.le_of_eq g30))) all0) (fun _ hal => (sfS (safe_null hal E32 F35) sf0)) (hb hby at_170) (k_n (pc' := 173) rfl ?_)
        rintro h42 S44 K43
        refine go_astore (pc' := 175) (ls' := #[.val (.int x0), .val (.int x1), .val (.int x2), .val (.int x3), .val (.int ((x0 &&& (2147483647 : Int32)) % (3 : Int32))), .val (.ref a3), .val (.ref (s_WITHHOLD Z)), .val (.int (8 : Int32)), .val (.int (x3 &&& (255 : Int32))), .val (.int (0 : Int32)), .val (.int (x1 &&& (3 : Int32))), .val (.ref a29), .val (.ref (s_WITHHOLD Z)), .val (.ref r17), .unset]) (hb hby at_173) rfl rfl rfl ?_
        refine go_goto (pc' := 279) (hb hby at_175) (by decide) rfl ?_
        refine go_aload (pc' := 281) (hb hby at_279) rfl rfl rfl ?_
        refine go_old (fun O45 => ?_)
        refine callS0 (cells' := 6) (slots' := 59) (Wd := 0) (argsL := [(.ref a29)]) (rest := []) (pay_of (a0 := a0) (c_of l G a29 [(119 : Int32), (105 : Int32), (116 : Int32), (104 : Int32), (104 : Int32), (111 : Int32), (108 : Int32), (100 : Int32)] h42 O45 S44) (wk G 28 rfl) (wk G 10 rfl) (by decide) (by decide)) (wk G 26 rfl) (wk G 27 rfl) (wk G 10 rfl) (wk G 28 rfl) (by decide) pd9 rfl rfl (by rw [hml]; rfl) (Nat.le_of_ble_eq_true rfl) rfl rfl (by decide) (by decide) all0 (fun _ _ => sf0) (hb hby at_281) (k_v (pc' := 284) rfl ?_)
        rintro _ h46 (⟨rfl, f48⟩ | ⟨rfl, f49⟩ | ⟨rfl, f50⟩ | ⟨rfl, f51, f52, f53⟩) K47
        · refine go_aload (pc' := 286) (hb hby at_284) rfl rfl rfl ?_
          refine go_acF (pc' := 289) (hb hby at_286) rfl rfl rfl (XT.aa_ne_f rfl) ?_
          refine go_iconst (pc' := 290) (v := 1) (hb hby at_289) rfl rfl ?_
          refine go_goto (pc' := 294) (hb hby at_290) (by decide) rfl ?_
          have K54 : Keep h0 h28 [] := (K41.ext X31)
          have K55 : Keep h0 h42 [] := (K54.trans K43 (allS (Or.inr (Nat.le_trans K41.1 (Nat.le_of_eq g30))) all0))
          have K56 : Keep h0 h46 [] := (K55.trans K47 all0)
          refine go_ireturn hret hlk rfl (by simp) (hb hby at_294) (by decide) (by decide) ⟨_, rfl, rfl⟩ K56
        · exact absurd f49 (by simp)
        · exact absurd f50 (by simp)
        · exact absurd (by simp) f51
      · refine go_ifT (pc' := 178) (hb hby at_99) (by decide) rfl (XT.i0_ne_t c14) ?_
        refine go_iload (pc' := 180) (hb hby at_178) rfl rfl ?_
        refine go_iconst (pc' := 181) (v := 1) (hb hby at_180) rfl rfl ?_
        by_cases c57 : (x1 &&& (3 : Int32)) = (1 : Int32)
        · refine go_icF (pc' := 184) (hb hby at_181) rfl (XT.ii_ne_f c57) ?_
          refine go_iload (pc' := 186) (hb hby at_184) rfl rfl ?_
          refine go_iconst (pc' := 187) (v := 1) (hb hby at_186) rfl rfl ?_
          refine go_isub (pc' := 188) (z := (7 : Int32)) (hb hby at_187) rfl (by decide) ?_
          refine callS0 (cells' := 3) (slots' := 43) (Wd := 0) (argsL := [(.int (7 : Int32))]) (rest := []) (pay_of (a0 := a0) (c_sized7 l G  h2 O12 ) (wk G 64 rfl) (wk G 63 rfl) (by decide) (by decide)) (wk G 61 rfl) (wk G 62 rfl) (wk G 63 rfl) (wk G 64 rfl) (by decide) pd6 rfl rfl (by rw [hml]; rfl) (Nat.le_of_ble_eq_true rfl) rfl rfl (by decide) (by decide) all0 (fun _ _ => sf0) (hb hby at_188) (k_v (pc' := 191) rfl ?_)
          rintro _ h58 ⟨r60, r61, rfl, f62, f63⟩ K59
          refine go_astore (pc' := 193) (ls' := #[.val (.int x0), .val (.int x1), .val (.int x2), .val (.int x3), .val (.int ((x0 &&& (2147483647 : Int32)) % (3 : Int32))), .val (.ref a3), .val (.ref (s_WITHHOLD Z)), .val (.int (8 : Int32)), .val (.int (x3 &&& (255 : Int32))), .val (.int (0 : Int32)), .val (.int (x1 &&& (3 : Int32))), .unset, .unset, .val (.ref r60), .unset]) (hb hby at_191) rfl rfl rfl ?_
          refine go_aload (pc' := 195) (hb hby at_193) rfl rfl rfl ?_
          refine go_aload (pc' := 197) (hb hby at_195) rfl rfl rfl ?_
          have K64 : Keep h0 h2 [] := ((Keep.refl h0 []).ext X4)
          have K65 : Keep h2 h58 [] := ((Keep.refl h2 []).trans K59 all0)
          have S66 := (S11.keep K65)
          refine go_old (fun O67 => ?_)
          refine callS0 (cells' := 3) (slots' := 43) (Wd := 0) (argsL := [(.ref r60), (.ref a3)]) (rest := []) (pay_of (a0 := a0) (c_fill78 l G r60 a3 r61 (119 : Int32) (105 : Int32) (116 : Int32) (104 : Int32) (104 : Int32) (111 : Int32) (108 : Int32) (100 : Int32) h58 O67 (Nat.le_trans O0.2.1 (Nat.le_trans K64.1 f62)) f63 S66) (wk G 68 rfl) (wk G 63 rfl) (by decide) (by decide)) (wk G 66 rfl) (wk G 67 rfl) (wk G 63 rfl) (wk G 68 rfl) (by decide) pd7 rfl rfl (by rw [hml]; rfl) (Nat.le_of_ble_eq_true rfl) rfl rfl (by decide) (by decide) (allS (Nat.le_trans O0.2.1 (Nat.le_trans K64.1 f62)) all0) (fun _ hal => (sfS (Safe.arv hal f63 (by simp)) sf0)) (hb hby at_197) (k_n (pc' := 200) rfl ?_)
          rintro  h68 f70 K69
          refine go_newO (pc' := 203) (cells' := 4) (slots' := 47) (wk G 94 rfl) (wk G 3 rfl) (wk G 2 rfl) (hb hby at_200) rfl rfl rfl (by decide) (by decide) (fun h71 a72 g73 X74 E75 D76 U77 => ?_)
          refine go_dup (pc' := 204) (hb hby at_203) rfl rfl ?_
          refine go_aload (pc' := 206) (hb hby at_204) rfl rfl rfl ?_
          have F78 := D76 (Or.inr (wk G 5 rfl)) (ty := (.array .byte)) (by decide)
          have F79 := D76 (Or.inr (wk G 6 rfl)) (ty := .byte) (by decide)
          have K80 : Keep h68 h71 [] := ((Keep.refl h68 []).ext X74)
          have A81 := (f70.keep K80 nin0)
          refine go_old (fun O82 => ?_)
          have K83 : Keep h0 h58 [] := (K64.trans K59 all0)
          have K84 : Keep h0 h68 [] := (K83.trans K69 (allS (Or.inr (Nat.le_trans K64.1 f62)) all0))
          refine callI0 (cells' := 5) (slots' := 54) (Wd := 1) (argsL := [(.ref r60)]) (rest := [(.ref a72)]) (pay_new G O82 (cs := [(119 : Int32), (105 : Int32), (116 : Int32), (104 : Int32), (104 : Int32), (111 : Int32), (108 : Int32)]) (n := 7) (Nat.le_trans O0.2.1 (Nat.le_trans K84.1 (Nat.le_of_eq g73))) E75 F78 F79 A81 rfl rfl (by decide) (by decide) (c8c (by decide) (c8c (by decide) (c8c (by decide) (c8c (by decide) (c8c (by decide) (c8c (by decide) (c8c (by decide) c8n))))))) (by decide) (by decide)) rfl (wk G 95 rfl) (wk G 96 rfl) (wk G 97 rfl) (by decide) pd8 rfl rfl (by rw [hml]; rfl) (Nat.le_of_ble_eq_true rfl) rfl rfl (by decide) (by decide) (allS (Nat.le_trans O0.2.1 (Nat.le_trans K84.1 (Nat.le_of_eq g73))) all0) (fun _ hal => (sfS (safe_null hal E75 F78) sf0)) (hb hby at_206) (k_n (pc' := 209) rfl ?_)
          rintro h85 S87 K86
          refine go_astore (pc' := 211) (ls' := #[.val (.int x0), .val (.int x1), .val (.int x2), .val (.int x3), .val (.int ((x0 &&& (2147483647 : Int32)) % (3 : Int32))), .val (.ref a3), .val (.ref (s_WITHHOLD Z)), .val (.int (8 : Int32)), .val (.int (x3 &&& (255 : Int32))), .val (.int (0 : Int32)), .val (.int (x1 &&& (3 : Int32))), .val (.ref a72), .unset, .val (.ref r60), .unset]) (hb hby at_209) rfl rfl rfl ?_
          refine go_aconst_null (pc' := 212) (hb hby at_211) rfl ?_
          refine go_astore (pc' := 214) (ls' := #[.val (.int x0), .val (.int x1), .val (.int x2), .val (.int x3), .val (.int ((x0 &&& (2147483647 : Int32)) % (3 : Int32))), .val (.ref a3), .val (.ref (s_WITHHOLD Z)), .val (.int (8 : Int32)), .val (.int (x3 &&& (255 : Int32))), .val (.int (0 : Int32)), .val (.int (x1 &&& (3 : Int32))), .val (.ref a72), .val .null, .val (.ref r60), .unset]) (hb hby at_212) rfl rfl rfl ?_
          refine go_goto (pc' := 279) (hb hby at_214) (by decide) rfl ?_
          refine go_aload (pc' := 281) (hb hby at_279) rfl rfl rfl ?_
          refine go_old (fun O88 => ?_)
          refine callS0 (cells' := 6) (slots' := 57) (Wd := 0) (argsL := [(.ref a72)]) (rest := []) (pay_of (a0 := a0) (c_of l G a72 [(119 : Int32), (105 : Int32), (116 : Int32), (104 : Int32), (104 : Int32), (111 : Int32), (108 : Int32)] h85 O88 S87) (wk G 28 rfl) (wk G 10 rfl) (by decide) (by decide)) (wk G 26 rfl) (wk G 27 rfl) (wk G 10 rfl) (wk G 28 rfl) (by decide) pd9 rfl rfl (by rw [hml]; rfl) (Nat.le_of_ble_eq_true rfl) rfl rfl (by decide) (by decide) all0 (fun _ _ => sf0) (hb hby at_281) (k_v (pc' := 284) rfl ?_)
          rintro _ h89 (⟨rfl, f91⟩ | ⟨rfl, f92⟩ | ⟨rfl, f93⟩ | ⟨rfl, f94, f95, f96⟩) K90
          · exact absurd f91 (by simp)
          · exact absurd f92 (by simp)
          · exact absurd f93 (by simp)
          · refine go_aload (pc' := 286) (hb hby at_284) rfl rfl rfl ?_
            refine go_acF (pc' := 289) (hb hby at_286) rfl rfl rfl (XT.aa_ne_f rfl) ?_
            refine go_iconst (pc' := 290) (v := 1) (hb hby at_289) rfl rfl ?_
            refine go_goto (pc' := 294) (hb hby at_290) (by decide) rfl ?_
            have K97 : Keep h0 h71 [] := (K84.ext X74)
            have K98 : Keep h0 h85 [] := (K97.trans K86 (allS (Or.inr (Nat.le_trans K84.1 (Nat.le_of_eq g73))) all0))
            have K99 : Keep h0 h89 [] := (K98.trans K90 all0)
            refine go_ireturn hret hlk rfl (by simp) (hb hby at_294) (by decide) (by decide) ⟨_, rfl, rfl⟩ K99
        · refine go_icT (pc' := 217) (hb hby at_181) (by decide) rfl (XT.ii_ne_t c57) ?_
          refine go_iload (pc' := 219) (hb hby at_217) rfl rfl ?_
          refine go_iconst (pc' := 220) (v := 2) (hb hby at_219) rfl rfl ?_
          by_cases c100 : (x1 &&& (3 : Int32)) = (2 : Int32)
          · refine go_icF (pc' := 223) (hb hby at_220) rfl (XT.ii_ne_f c100) ?_
            refine go_iload (pc' := 225) (hb hby at_223) rfl rfl ?_
            refine go_iconst (pc' := 226) (v := 1) (hb hby at_225) rfl rfl ?_
            refine go_iadd (pc' := 227) (z := (9 : Int32)) (hb hby at_226) rfl (by decide) ?_
            refine callS0 (cells' := 3) (slots' := 45) (Wd := 0) (argsL := [(.int (9 : Int32))]) (rest := []) (pay_of (a0 := a0) (c_sized9 l G  h2 O12 ) (wk G 64 rfl) (wk G 63 rfl) (by decide) (by decide)) (wk G 61 rfl) (wk G 62 rfl) (wk G 63 rfl) (wk G 64 rfl) (by decide) pd6 rfl rfl (by rw [hml]; rfl) (Nat.le_of_ble_eq_true rfl) rfl rfl (by decide) (by decide) all0 (fun _ _ => sf0) (hb hby at_227) (k_v (pc' := 230) rfl ?_)
            rintro _ h101 ⟨r103, r104, rfl, f105, f106⟩ K102
            refine go_astore (pc' := 232) (ls' := #[.val (.int x0), .val (.int x1), .val (.int x2), .val (.int x3), .val (.int ((x0 &&& (2147483647 : Int32)) % (3 : Int32))), .val (.ref a3), .val (.ref (s_WITHHOLD Z)), .val (.int (8 : Int32)), .val (.int (x3 &&& (255 : Int32))), .val (.int (0 : Int32)), .val (.int (x1 &&& (3 : Int32))), .unset, .unset, .val (.ref r103), .unset]) (hb hby at_230) rfl rfl rfl ?_
            refine go_aload (pc' := 234) (hb hby at_232) rfl rfl rfl ?_
            refine go_aload (pc' := 236) (hb hby at_234) rfl rfl rfl ?_
            have K107 : Keep h0 h2 [] := ((Keep.refl h0 []).ext X4)
            have K108 : Keep h2 h101 [] := ((Keep.refl h2 []).trans K102 all0)
            have S109 := (S11.keep K108)
            refine go_old (fun O110 => ?_)
            refine callS0 (cells' := 3) (slots' := 45) (Wd := 0) (argsL := [(.ref r103), (.ref a3)]) (rest := []) (pay_of (a0 := a0) (c_fill98 l G r103 a3 r104 (119 : Int32) (105 : Int32) (116 : Int32) (104 : Int32) (104 : Int32) (111 : Int32) (108 : Int32) (100 : Int32) h101 O110 (Nat.le_trans O0.2.1 (Nat.le_trans K107.1 f105)) f106 S109) (wk G 68 rfl) (wk G 63 rfl) (by decide) (by decide)) (wk G 66 rfl) (wk G 67 rfl) (wk G 63 rfl) (wk G 68 rfl) (by decide) pd7 rfl rfl (by rw [hml]; rfl) (Nat.le_of_ble_eq_true rfl) rfl rfl (by decide) (by decide) (allS (Nat.le_trans O0.2.1 (Nat.le_trans K107.1 f105)) all0) (fun _ hal => (sfS (Safe.arv hal f106 (by simp)) sf0)) (hb hby at_236) (k_n (pc' := 239) rfl ?_)
            rintro  h111 f113 K112
            refine go_aload (pc' := 241) (hb hby at_239) rfl rfl rfl ?_
            refine go_iload (pc' := 243) (hb hby at_241) rfl rfl ?_
            refine go_iload (pc' := 245) (hb hby at_243) rfl rfl ?_
            refine go_stC (pc' := 246) (i := 8) (x' := (x3 &&& (255 : Int32))) (vs' := [(.int (119 : Int32)), (.int (105 : Int32)), (.int (116 : Int32)), (.int (104 : Int32)), (.int (104 : Int32)), (.int (111 : Int32)), (.int (108 : Int32)), (.int (100 : Int32)), (.int (x3 &&& (255 : Int32)))]) f113 (Nat.le_trans O0.2.1 (Nat.le_trans K107.1 f105)) (by decide) (by decide) rfl (Nat.le_of_ble_eq_true rfl) (i2c_mask _) rfl (hb hby at_245) rfl (fun h114 W115 A116 => ?_)
            refine go_newO (pc' := 249) (cells' := 4) (slots' := 49) (wk G 94 rfl) (wk G 3 rfl) (wk G 2 rfl) (hb hby at_246) rfl rfl rfl (by decide) (by decide) (fun h117 a118 g119 X120 E121 D122 U123 => ?_)
            refine go_dup (pc' := 250) (hb hby at_249) rfl rfl ?_
            refine go_aload (pc' := 252) (hb hby at_250) rfl rfl rfl ?_
            have F124 := D122 (Or.inr (wk G 5 rfl)) (ty := (.array .byte)) (by decide)
            have F125 := D122 (Or.inr (wk G 6 rfl)) (ty := .byte) (by decide)
            have K126 : Keep h114 h117 [] := ((Keep.refl h114 []).ext X120)
            have A127 := (A116.keep K126 nin0)
            refine go_old (fun O128 => ?_)
            have K129 : Keep h0 h101 [] := (K107.trans K102 all0)
            have K130 : Keep h0 h111 [] := (K129.trans K112 (allS (Or.inr (Nat.le_trans K107.1 f105)) all0))
            have K131 : Keep h0 h114 [] := (K130.wr W115 (Or.inr (Nat.le_trans K107.1 f105)))
            refine callI0 (cells' := 5) (slots' := 58) (Wd := 1) (argsL := [(.ref r103)]) (rest := [(.ref a118)]) (pay_new G O128 (cs := [(119 : Int32), (105 : Int32), (116 : Int32), (104 : Int32), (104 : Int32), (111 : Int32), (108 : Int32), (100 : Int32), (x3 &&& (255 : Int32))]) (n := 9) (Nat.le_trans O0.2.1 (Nat.le_trans K131.1 (Nat.le_of_eq g119))) E121 F124 F125 A127 rfl rfl (by decide) (by decide) (c8c (by decide) (c8c (by decide) (c8c (by decide) (c8c (by decide) (c8c (by decide) (c8c (by decide) (c8c (by decide) (c8c (by decide) (c8c (c8_m _) c8n))))))))) (by decide) (by decide)) rfl (wk G 95 rfl) (wk G 96 rfl) (wk G 97 rfl) (by decide) pd8 rfl rfl (by rw [hml]; rfl) (Nat.le_of_ble_eq_true rfl) rfl rfl (by decide) (by decide) (allS (Nat.le_trans O0.2.1 (Nat.le_trans K131.1 (Nat.le_of_eq g119))) all0) (fun _ hal => (sfS (safe_null hal E121 F124) sf0)) (hb hby at_252) (k_n (pc' := 255) rfl ?_)
            rintro h132 S134 K133
            refine go_astore (pc' := 257) (ls' := #[.val (.int x0), .val (.int x1), .val (.int x2), .val (.int x3), .val (.int ((x0 &&& (2147483647 : Int32)) % (3 : Int32))), .val (.ref a3), .val (.ref (s_WITHHOLD Z)), .val (.int (8 : Int32)), .val (.int (x3 &&& (255 : Int32))), .val (.int (0 : Int32)), .val (.int (x1 &&& (3 : Int32))), .val (.ref a118), .unset, .val (.ref r103), .unset]) (hb hby at_255) rfl rfl rfl ?_
            refine go_aconst_null (pc' := 258) (hb hby at_257) rfl ?_
            refine go_astore (pc' := 260) (ls' := #[.val (.int x0), .val (.int x1), .val (.int x2), .val (.int x3), .val (.int ((x0 &&& (2147483647 : Int32)) % (3 : Int32))), .val (.ref a3), .val (.ref (s_WITHHOLD Z)), .val (.int (8 : Int32)), .val (.int (x3 &&& (255 : Int32))), .val (.int (0 : Int32)), .val (.int (x1 &&& (3 : Int32))), .val (.ref a118), .val .null, .val (.ref r103), .unset]) (hb hby at_258) rfl rfl rfl ?_
            refine go_goto (pc' := 279) (hb hby at_260) (by decide) rfl ?_
            refine go_aload (pc' := 281) (hb hby at_279) rfl rfl rfl ?_
            refine go_old (fun O135 => ?_)
            refine callS0 (cells' := 6) (slots' := 61) (Wd := 0) (argsL := [(.ref a118)]) (rest := []) (pay_of (a0 := a0) (c_of l G a118 [(119 : Int32), (105 : Int32), (116 : Int32), (104 : Int32), (104 : Int32), (111 : Int32), (108 : Int32), (100 : Int32), (x3 &&& (255 : Int32))] h132 O135 S134) (wk G 28 rfl) (wk G 10 rfl) (by decide) (by decide)) (wk G 26 rfl) (wk G 27 rfl) (wk G 10 rfl) (wk G 28 rfl) (by decide) pd9 rfl rfl (by rw [hml]; rfl) (Nat.le_of_ble_eq_true rfl) rfl rfl (by decide) (by decide) all0 (fun _ _ => sf0) (hb hby at_281) (k_v (pc' := 284) rfl ?_)
            rintro _ h136 (⟨rfl, f138⟩ | ⟨rfl, f139⟩ | ⟨rfl, f140⟩ | ⟨rfl, f141, f142, f143⟩) K137
            · exact absurd f138 (by simp)
            · exact absurd f139 (by simp)
            · exact absurd f140 (by simp)
            · refine go_aload (pc' := 286) (hb hby at_284) rfl rfl rfl ?_
              refine go_acF (pc' := 289) (hb hby at_286) rfl rfl rfl (XT.aa_ne_f rfl) ?_
              refine go_iconst (pc' := 290) (v := 1) (hb hby at_289) rfl rfl ?_
              refine go_goto (pc' := 294) (hb hby at_290) (by decide) rfl ?_
              have K144 : Keep h0 h117 [] := (K131.ext X120)
              have K145 : Keep h0 h132 [] := (K144.trans K133 (allS (Or.inr (Nat.le_trans K131.1 (Nat.le_of_eq g119))) all0))
              have K146 : Keep h0 h136 [] := (K145.trans K137 all0)
              refine go_ireturn hret hlk rfl (by simp) (hb hby at_294) (by decide) (by decide) ⟨_, rfl, rfl⟩ K146
          · refine go_icT (pc' := 263) (hb hby at_220) (by decide) rfl (XT.ii_ne_t c100) ?_
            refine go_iload (pc' := 265) (hb hby at_263) rfl rfl ?_
            refine go_ifT (pc' := 272) (hb hby at_265) (by decide) rfl (by decide) ?_
            refine go_ldcH (pc' := 274) (cells' := 4) (slots' := 40) (n := 0) (vs := (([] : List Int32).map fun c => c.toInt8.toInt32).map Value.int) (z := (0 : Int32)) rfl (by decide) (wk G 25 rfl) (wS G) (by decide +kernel) (by decide) (by decide) (by decide) (by decide) (hb hby at_272) rfl rfl rfl (by decide) (by decide) (fun h147 a148 t150 k151 X149 E152 F153 F154 A155 => ?_)
            have S156 : Str Z h147 a148 [] := ⟨t150, k151, E152, F154, F153, A155, by decide, by decide⟩
            refine go_astore (pc' := 276) (ls' := #[.val (.int x0), .val (.int x1), .val (.int x2), .val (.int x3), .val (.int ((x0 &&& (2147483647 : Int32)) % (3 : Int32))), .val (.ref a3), .val (.ref (s_WITHHOLD Z)), .val (.int (8 : Int32)), .val (.int (x3 &&& (255 : Int32))), .val (.int (0 : Int32)), .val (.int (x1 &&& (3 : Int32))), .val (.ref a148), .unset, .unset, .unset]) (hb hby at_274) rfl rfl rfl ?_
            refine go_aconst_null (pc' := 277) (hb hby at_276) rfl ?_
            refine go_astore (pc' := 279) (ls' := #[.val (.int x0), .val (.int x1), .val (.int x2), .val (.int x3), .val (.int ((x0 &&& (2147483647 : Int32)) % (3 : Int32))), .val (.ref a3), .val (.ref (s_WITHHOLD Z)), .val (.int (8 : Int32)), .val (.int (x3 &&& (255 : Int32))), .val (.int (0 : Int32)), .val (.int (x1 &&& (3 : Int32))), .val (.ref a148), .val .null, .unset, .unset]) (hb hby at_277) rfl rfl rfl ?_
            refine go_aload (pc' := 281) (hb hby at_279) rfl rfl rfl ?_
            refine go_old (fun O157 => ?_)
            refine callS0 (cells' := 5) (slots' := 43) (Wd := 0) (argsL := [(.ref a148)]) (rest := []) (pay_of (a0 := a0) (c_of l G a148 [] h147 O157 S156) (wk G 28 rfl) (wk G 10 rfl) (by decide) (by decide)) (wk G 26 rfl) (wk G 27 rfl) (wk G 10 rfl) (wk G 28 rfl) (by decide) pd9 rfl rfl (by rw [hml]; rfl) (Nat.le_of_ble_eq_true rfl) rfl rfl (by decide) (by decide) all0 (fun _ _ => sf0) (hb hby at_281) (k_v (pc' := 284) rfl ?_)
            rintro _ h158 (⟨rfl, f160⟩ | ⟨rfl, f161⟩ | ⟨rfl, f162⟩ | ⟨rfl, f163, f164, f165⟩) K159
            · exact absurd f160 (by simp)
            · exact absurd f161 (by simp)
            · exact absurd f162 (by simp)
            · refine go_aload (pc' := 286) (hb hby at_284) rfl rfl rfl ?_
              refine go_acF (pc' := 289) (hb hby at_286) rfl rfl rfl (XT.aa_ne_f rfl) ?_
              refine go_iconst (pc' := 290) (v := 1) (hb hby at_289) rfl rfl ?_
              refine go_goto (pc' := 294) (hb hby at_290) (by decide) rfl ?_
              have K166 : Keep h0 h2 [] := ((Keep.refl h0 []).ext X4)
              have K167 : Keep h0 h147 [] := (K166.ext X149)
              have K168 : Keep h0 h158 [] := (K167.trans K159 all0)
              refine go_ireturn hret hlk rfl (by simp) (hb hby at_294) (by decide) (by decide) ⟨_, rfl, rfl⟩ K168
    · refine go_ifF (pc' := 85) (hb hby at_82) rfl (XT.i0_eq_f c13) ?_
      refine go_iconst (pc' := 86) (v := 1) (hb hby at_85) rfl rfl ?_
      refine go_goto (pc' := 90) (hb hby at_86) (by decide) rfl ?_
      refine go_istore (pc' := 92) (ls' := #[.val (.int x0), .val (.int x1), .val (.int x2), .val (.int x3), .val (.int ((x0 &&& (2147483647 : Int32)) % (3 : Int32))), .val (.ref a3), .val (.ref (s_WITHHOLD Z)), .val (.int (8 : Int32)), .val (.int (x3 &&& (255 : Int32))), .val (.int (1 : Int32)), .unset, .unset, .unset, .unset, .unset]) (hb hby at_90) rfl rfl ?_
      refine go_iload_n (pc' := 93) (hb hby at_92) rfl rfl ?_
      refine go_iconst (pc' := 94) (v := 3) (hb hby at_93) rfl rfl ?_
      refine go_iand (pc' := 95) (z := (x1 &&& (3 : Int32))) (hb hby at_94) rfl rfl ?_
      refine go_istore (pc' := 97) (ls' := #[.val (.int x0), .val (.int x1), .val (.int x2), .val (.int x3), .val (.int ((x0 &&& (2147483647 : Int32)) % (3 : Int32))), .val (.ref a3), .val (.ref (s_WITHHOLD Z)), .val (.int (8 : Int32)), .val (.int (x3 &&& (255 : Int32))), .val (.int (1 : Int32)), .val (.int (x1 &&& (3 : Int32))), .unset, .unset, .unset, .unset]) (hb hby at_95) rfl rfl ?_
      refine go_iload (pc' := 99) (hb hby at_97) rfl rfl ?_
      by_cases c169 : (x1 &&& (3 : Int32)) = (0 : Int32)
      · refine go_ifF (pc' := 102) (hb hby at_99) rfl (XT.i0_ne_f c169) ?_
        refine go_iload (pc' := 104) (hb hby at_102) rfl rfl ?_
        refine callS0 (cells' := 3) (slots' := 44) (Wd := 0) (argsL := [(.int (8 : Int32))]) (rest := []) (pay_of (a0 := a0) (c_sized8 l G  h2 O12 ) (wk G 64 rfl) (wk G 63 rfl) (by decide) (by decide)) (wk G 61 rfl) (wk G 62 rfl) (wk G 63 rfl) (wk G 64 rfl) (by decide) pd6 rfl rfl (by rw [hml]; rfl) (Nat.le_of_ble_eq_true rfl) rfl rfl (by decide) (by decide) all0 (fun _ _ => sf0) (hb hby at_104) (k_v (pc' := 107) rfl ?_)
        rintro _ h170 ⟨r172, r173, rfl, f174, f175⟩ K171
        refine go_astore (pc' := 109) (ls' := #[.val (.int x0), .val (.int x1), .val (.int x2), .val (.int x3), .val (.int ((x0 &&& (2147483647 : Int32)) % (3 : Int32))), .val (.ref a3), .val (.ref (s_WITHHOLD Z)), .val (.int (8 : Int32)), .val (.int (x3 &&& (255 : Int32))), .val (.int (1 : Int32)), .val (.int (x1 &&& (3 : Int32))), .unset, .unset, .val (.ref r172), .unset]) (hb hby at_107) rfl rfl rfl ?_
        refine go_aload (pc' := 111) (hb hby at_109) rfl rfl rfl ?_
        refine go_aload (pc' := 113) (hb hby at_111) rfl rfl rfl ?_
        have K176 : Keep h0 h2 [] := ((Keep.refl h0 []).ext X4)
        have K177 : Keep h2 h170 [] := ((Keep.refl h2 []).trans K171 all0)
        have S178 := (S11.keep K177)
        refine go_old (fun O179 => ?_)
        refine callS0 (cells' := 3) (slots' := 44) (Wd := 0) (argsL := [(.ref r172), (.ref a3)]) (rest := []) (pay_of (a0 := a0) (c_fill88 l G r172 a3 r173 (119 : Int32) (105 : Int32) (116 : Int32) (104 : Int32) (104 : Int32) (111 : Int32) (108 : Int32) (100 : Int32) h170 O179 (Nat.le_trans O0.2.1 (Nat.le_trans K176.1 f174)) f175 S178) (wk G 68 rfl) (wk G 63 rfl) (by decide) (by decide)) (wk G 66 rfl) (wk G 67 rfl) (wk G 63 rfl) (wk G 68 rfl) (by decide) pd7 rfl rfl (by rw [hml]; rfl) (Nat.le_of_ble_eq_true rfl) rfl rfl (by decide) (by decide) (allS (Nat.le_trans O0.2.1 (Nat.le_trans K176.1 f174)) all0) (fun _ hal => (sfS (Safe.arv hal f175 (by simp)) sf0)) (hb hby at_113) (k_n (pc' := 116) rfl ?_)
        rintro  h180 f182 K181
        refine go_iload (pc' := 118) (hb hby at_116) rfl rfl ?_
        refine go_ifF (pc' := 121) (hb hby at_118) rfl (by decide) ?_
        refine go_iload_n (pc' := 122) (hb hby at_121) rfl rfl ?_
        refine go_ldcI (pc' := 124) (v := (2147483647 : Int32)) (wk G 0 rfl) (hb hby at_122) rfl ?_
        refine go_iand (pc' := 125) (z := (x2 &&& (2147483647 : Int32))) (hb hby at_124) rfl rfl ?_
        refine go_iload (pc' := 127) (hb hby at_125) rfl rfl ?_
        refine go_irem (pc' := 128) (z := ((x2 &&& (2147483647 : Int32)) % (8 : Int32))) (hb hby at_127) rfl (by decide) rfl ?_
        rcases rem8 ((x2 &&& (2147483647 : Int32))) (and_nn _ _ (by decide)) with q183 | q183 | q183 | q183 | q183 | q183 | q183 | q183
        · rw [q183]
          refine go_istore (pc' := 130) (ls' := #[.val (.int x0), .val (.int x1), .val (.int x2), .val (.int x3), .val (.int ((x0 &&& (2147483647 : Int32)) % (3 : Int32))), .val (.ref a3), .val (.ref (s_WITHHOLD Z)), .val (.int (8 : Int32)), .val (.int (x3 &&& (255 : Int32))), .val (.int (1 : Int32)), .val (.int (x1 &&& (3 : Int32))), .unset, .unset, .val (.ref r172), .val (.int (0 : Int32))]) (hb hby at_128) rfl rfl ?_
          refine go_aload (pc' := 132) (hb hby at_130) rfl rfl rfl ?_
          refine go_iload (pc' := 134) (hb hby at_132) rfl rfl ?_
          refine go_iload (pc' := 136) (hb hby at_134) rfl rfl ?_
          refine go_stC (pc' := 137) (i := 0) (x' := (x3 &&& (255 : Int32))) (vs' := [(.int (x3 &&& (255 : Int32))), (.int (105 : Int32)), (.int (116 : Int32)), (.int (104 : Int32)), (.int (104 : Int32)), (.int (111 : Int32)), (.int (108 : Int32)), (.int (100 : Int32))]) f182 (Nat.le_trans O0.2.1 (Nat.le_trans K176.1 f174)) (by decide) (by decide) rfl (Nat.le_of_ble_eq_true rfl) (i2c_mask _) rfl (hb hby at_136) rfl (fun h184 W185 A186 => ?_)
          refine go_iload (pc' := 139) (hb hby at_137) rfl rfl ?_
          refine go_aload (pc' := 141) (hb hby at_139) rfl rfl rfl ?_
          refine go_iload (pc' := 143) (hb hby at_141) rfl rfl ?_
          have K187 : Keep h2 h180 [] := (K177.trans K181 (allS (Or.inr f174) all0))
          have K188 : Keep h2 h184 [] := (K187.wr W185 (Or.inr f174))
          have S189 := (S11.keep K188)
          refine go_old (fun O190 => ?_)
          have E191 := (E7.keep K188)
          refine callV0 (cells' := 3) (slots' := 44) (Wd := 1) (argsL := [(.int (0 : Int32))]) (rest := [(.int (x3 &&& (255 : Int32)))]) (pay_chr G O190 (i := 0) (c := (119 : Int32)) S189 rfl (Nat.le_of_ble_eq_true rfl) rfl (by decide) (by decide)) E191 (wk G 73 rfl) (wk G 74 rfl) (wk G 76 rfl) (wk G 76 rfl) (wk G 75 rfl) (by decide) pd5 rfl rfl (by rw [hml]; rfl) (Nat.le_of_ble_eq_true rfl) rfl rfl (by decide) (by decide) all0 (fun _ _ => sf0) (hb hby at_143) (k_v (pc' := 146) rfl ?_)
          rintro _ _ ⟨rfl, rfl⟩ -
          by_cases c192 : (x3 &&& (255 : Int32)) = (119 : Int32)
          · refine go_icF (pc' := 149) (hb hby at_146) rfl (XT.ii_ne_f c192) ?_
            refine go_aload (pc' := 151) (hb hby at_149) rfl rfl rfl ?_
            refine go_goto (pc' := 155) (hb hby at_151) (by decide) rfl ?_
            refine go_astore (pc' := 157) (ls' := #[.val (.int x0), .val (.int x1), .val (.int x2), .val (.int x3), .val (.int ((x0 &&& (2147483647 : Int32)) % (3 : Int32))), .val (.ref a3), .val (.ref (s_WITHHOLD Z)), .val (.int (8 : Int32)), .val (.int (x3 &&& (255 : Int32))), .val (.int (1 : Int32)), .val (.int (x1 &&& (3 : Int32))), .unset, .val (.ref (s_WITHHOLD Z)), .val (.ref r172), .val (.int (0 : Int32))]) (hb hby at_155) rfl rfl rfl ?_
            refine go_goto (pc' := 164) (hb hby at_157) (by decide) rfl ?_
            refine go_newO (pc' := 167) (cells' := 4) (slots' := 48) (wk G 94 rfl) (wk G 3 rfl) (wk G 2 rfl) (hb hby at_164) rfl rfl rfl (by decide) (by decide) (fun h193 a194 g195 X196 E197 D198 U199 => ?_)
            refine go_dup (pc' := 168) (hb hby at_167) rfl rfl ?_
            refine go_aload (pc' := 170) (hb hby at_168) rfl rfl rfl ?_
            have F200 := D198 (Or.inr (wk G 5 rfl)) (ty := (.array .byte)) (by decide)
            have F201 := D198 (Or.inr (wk G 6 rfl)) (ty := .byte) (by decide)
            have K202 : Keep h184 h193 [] := ((Keep.refl h184 []).ext X196)
            have A203 := (A186.keep K202 nin0)
            refine go_old (fun O204 => ?_)
            have K205 : Keep h0 h170 [] := (K176.trans K171 all0)
            have K206 : Keep h0 h180 [] := (K205.trans K181 (allS (Or.inr (Nat.le_trans K176.1 f174)) all0))
            have K207 : Keep h0 h184 [] := (K206.wr W185 (Or.inr (Nat.le_trans K176.1 f174)))
            refine callI0 (cells' := 5) (slots' := 56) (Wd := 1) (argsL := [(.ref r172)]) (rest := [(.ref a194)]) (pay_new G O204 (cs := [(x3 &&& (255 : Int32)), (105 : Int32), (116 : Int32), (104 : Int32), (104 : Int32), (111 : Int32), (108 : Int32), (100 : Int32)]) (n := 8) (Nat.le_trans O0.2.1 (Nat.le_trans K207.1 (Nat.le_of_eq g195))) E197 F200 F201 A203 rfl rfl (by decide) (by decide) (c8c (c8_m _) (c8c (by decide) (c8c (by decide) (c8c (by decide) (c8c (by decide) (c8c (by decide) (c8c (by decide) (c8c (by decide) c8n)))))))) (by decide) (by decide)) rfl (wk G 95 rfl) (wk G 96 rfl) (wk G 97 rfl) (by decide) pd8 rfl rfl (by rw [hml]; rfl) (Nat.le_of_ble_eq_true rfl) rfl rfl (by decide) (by decide) (allS (Nat.le_trans O0.2.1 (Nat.le_trans K207.1 (Nat.le_of_eq g195))) all0) (fun _ hal => (sfS (safe_null hal E197 F200) sf0)) (hb hby at_170) (k_n (pc' := 173) rfl ?_)
            rintro h208 S210 K209
            refine go_astore (pc' := 175) (ls' := #[.val (.int x0), .val (.int x1), .val (.int x2), .val (.int x3), .val (.int ((x0 &&& (2147483647 : Int32)) % (3 : Int32))), .val (.ref a3), .val (.ref (s_WITHHOLD Z)), .val (.int (8 : Int32)), .val (.int (x3 &&& (255 : Int32))), .val (.int (1 : Int32)), .val (.int (x1 &&& (3 : Int32))), .val (.ref a194), .val (.ref (s_WITHHOLD Z)), .val (.ref r172), .val (.int (0 : Int32))]) (hb hby at_173) rfl rfl rfl ?_
            refine go_goto (pc' := 279) (hb hby at_175) (by decide) rfl ?_
            refine go_aload (pc' := 281) (hb hby at_279) rfl rfl rfl ?_
            refine go_old (fun O211 => ?_)
            refine callS0 (cells' := 6) (slots' := 59) (Wd := 0) (argsL := [(.ref a194)]) (rest := []) (pay_of (a0 := a0) (c_of l G a194 [(x3 &&& (255 : Int32)), (105 : Int32), (116 : Int32), (104 : Int32), (104 : Int32), (111 : Int32), (108 : Int32), (100 : Int32)] h208 O211 S210) (wk G 28 rfl) (wk G 10 rfl) (by decide) (by decide)) (wk G 26 rfl) (wk G 27 rfl) (wk G 10 rfl) (wk G 28 rfl) (by decide) pd9 rfl rfl (by rw [hml]; rfl) (Nat.le_of_ble_eq_true rfl) rfl rfl (by decide) (by decide) all0 (fun _ _ => sf0) (hb hby at_281) (k_v (pc' := 284) rfl ?_)
            rintro _ h212 (⟨rfl, f214⟩ | ⟨rfl, f215⟩ | ⟨rfl, f216⟩ | ⟨rfl, f217, f218, f219⟩) K213
            · refine go_aload (pc' := 286) (hb hby at_284) rfl rfl rfl ?_
              refine go_acF (pc' := 289) (hb hby at_286) rfl rfl rfl (XT.aa_ne_f rfl) ?_
              refine go_iconst (pc' := 290) (v := 1) (hb hby at_289) rfl rfl ?_
              refine go_goto (pc' := 294) (hb hby at_290) (by decide) rfl ?_
              have K220 : Keep h0 h193 [] := (K207.ext X196)
              have K221 : Keep h0 h208 [] := (K220.trans K209 (allS (Or.inr (Nat.le_trans K207.1 (Nat.le_of_eq g195))) all0))
              have K222 : Keep h0 h212 [] := (K221.trans K213 all0)
              refine go_ireturn hret hlk rfl (by simp) (hb hby at_294) (by decide) (by decide) ⟨_, rfl, rfl⟩ K222
            · exact absurd f215 (by simp)
            · exact absurd f216 (by simp)
            · exact absurd (by simp [c192]) f217
          · refine go_icT (pc' := 154) (hb hby at_146) (by decide) rfl (XT.ii_ne_t c192) ?_
            refine go_aconst_null (pc' := 155) (hb hby at_154) rfl ?_
            refine go_astore (pc' := 157) (ls' := #[.val (.int x0), .val (.int x1), .val (.int x2), .val (.int x3), .val (.int ((x0 &&& (2147483647 : Int32)) % (3 : Int32))), .val (.ref a3), .val (.ref (s_WITHHOLD Z)), .val (.int (8 : Int32)), .val (.int (x3 &&& (255 : Int32))), .val (.int (1 : Int32)), .val (.int (x1 &&& (3 : Int32))), .unset, .val .null, .val (.ref r172), .val (.int (0 : Int32))]) (hb hby at_155) rfl rfl rfl ?_
            refine go_goto (pc' := 164) (hb hby at_157) (by decide) rfl ?_
            refine go_newO (pc' := 167) (cells' := 4) (slots' := 48) (wk G 94 rfl) (wk G 3 rfl) (wk G 2 rfl) (hb hby at_164) rfl rfl rfl (by decide) (by decide) (fun h223 a224 g225 X226 E227 D228 U229 => ?_)
            refine go_dup (pc' := 168) (hb hby at_167) rfl rfl ?_
            refine go_aload (pc' := 170) (hb hby at_168) rfl rfl rfl ?_
            have F230 := D228 (Or.inr (wk G 5 rfl)) (ty := (.array .byte)) (by decide)
            have F231 := D228 (Or.inr (wk G 6 rfl)) (ty := .byte) (by decide)
            have K232 : Keep h184 h223 [] := ((Keep.refl h184 []).ext X226)
            have A233 := (A186.keep K232 nin0)
            refine go_old (fun O234 => ?_)
            have K235 : Keep h0 h170 [] := (K176.trans K171 all0)
            have K236 : Keep h0 h180 [] := (K235.trans K181 (allS (Or.inr (Nat.le_trans K176.1 f174)) all0))
            have K237 : Keep h0 h184 [] := (K236.wr W185 (Or.inr (Nat.le_trans K176.1 f174)))
            refine callI0 (cells' := 5) (slots' := 56) (Wd := 1) (argsL := [(.ref r172)]) (rest := [(.ref a224)]) (pay_new G O234 (cs := [(x3 &&& (255 : Int32)), (105 : Int32), (116 : Int32), (104 : Int32), (104 : Int32), (111 : Int32), (108 : Int32), (100 : Int32)]) (n := 8) (Nat.le_trans O0.2.1 (Nat.le_trans K237.1 (Nat.le_of_eq g225))) E227 F230 F231 A233 rfl rfl (by decide) (by decide) (c8c (c8_m _) (c8c (by decide) (c8c (by decide) (c8c (by decide) (c8c (by decide) (c8c (by decide) (c8c (by decide) (c8c (by decide) c8n)))))))) (by decide) (by decide)) rfl (wk G 95 rfl) (wk G 96 rfl) (wk G 97 rfl) (by decide) pd8 rfl rfl (by rw [hml]; rfl) (Nat.le_of_ble_eq_true rfl) rfl rfl (by decide) (by decide) (allS (Nat.le_trans O0.2.1 (Nat.le_trans K237.1 (Nat.le_of_eq g225))) all0) (fun _ hal => (sfS (safe_null hal E227 F230) sf0)) (hb hby at_170) (k_n (pc' := 173) rfl ?_)
            rintro h238 S240 K239
            refine go_astore (pc' := 175) (ls' := #[.val (.int x0), .val (.int x1), .val (.int x2), .val (.int x3), .val (.int ((x0 &&& (2147483647 : Int32)) % (3 : Int32))), .val (.ref a3), .val (.ref (s_WITHHOLD Z)), .val (.int (8 : Int32)), .val (.int (x3 &&& (255 : Int32))), .val (.int (1 : Int32)), .val (.int (x1 &&& (3 : Int32))), .val (.ref a224), .val .null, .val (.ref r172), .val (.int (0 : Int32))]) (hb hby at_173) rfl rfl rfl ?_
            refine go_goto (pc' := 279) (hb hby at_175) (by decide) rfl ?_
            refine go_aload (pc' := 281) (hb hby at_279) rfl rfl rfl ?_
            refine go_old (fun O241 => ?_)
            refine callS0 (cells' := 6) (slots' := 59) (Wd := 0) (argsL := [(.ref a224)]) (rest := []) (pay_of (a0 := a0) (c_of l G a224 [(x3 &&& (255 : Int32)), (105 : Int32), (116 : Int32), (104 : Int32), (104 : Int32), (111 : Int32), (108 : Int32), (100 : Int32)] h238 O241 S240) (wk G 28 rfl) (wk G 10 rfl) (by decide) (by decide)) (wk G 26 rfl) (wk G 27 rfl) (wk G 10 rfl) (wk G 28 rfl) (by decide) pd9 rfl rfl (by rw [hml]; rfl) (Nat.le_of_ble_eq_true rfl) rfl rfl (by decide) (by decide) all0 (fun _ _ => sf0) (hb hby at_281) (k_v (pc' := 284) rfl ?_)
            rintro _ h242 (⟨rfl, f244⟩ | ⟨rfl, f245⟩ | ⟨rfl, f246⟩ | ⟨rfl, f247, f248, f249⟩) K243
            · exact absurd f244 (by simp [Ne.symm c192])
            · exact absurd f245 (by simp)
            · exact absurd f246 (by simp)
            · refine go_aload (pc' := 286) (hb hby at_284) rfl rfl rfl ?_
              refine go_acF (pc' := 289) (hb hby at_286) rfl rfl rfl (XT.aa_ne_f rfl) ?_
              refine go_iconst (pc' := 290) (v := 1) (hb hby at_289) rfl rfl ?_
              refine go_goto (pc' := 294) (hb hby at_290) (by decide) rfl ?_
              have K250 : Keep h0 h223 [] := (K237.ext X226)
              have K251 : Keep h0 h238 [] := (K250.trans K239 (allS (Or.inr (Nat.le_trans K237.1 (Nat.le_of_eq g225))) all0))
              have K252 : Keep h0 h242 [] := (K251.trans K243 all0)
              refine go_ireturn hret hlk rfl (by simp) (hb hby at_294) (by decide) (by decide) ⟨_, rfl, rfl⟩ K252
        · rw [q183]
          refine go_istore (pc' := 130) (ls' := #[.val (.int x0), .val (.int x1), .val (.int x2), .val (.int x3), .val (.int ((x0 &&& (2147483647 : Int32)) % (3 : Int32))), .val (.ref a3), .val (.ref (s_WITHHOLD Z)), .val (.int (8 : Int32)), .val (.int (x3 &&& (255 : Int32))), .val (.int (1 : Int32)), .val (.int (x1 &&& (3 : Int32))), .unset, .unset, .val (.ref r172), .val (.int (1 : Int32))]) (hb hby at_128) rfl rfl ?_
          refine go_aload (pc' := 132) (hb hby at_130) rfl rfl rfl ?_
          refine go_iload (pc' := 134) (hb hby at_132) rfl rfl ?_
          refine go_iload (pc' := 136) (hb hby at_134) rfl rfl ?_
          refine go_stC (pc' := 137) (i := 1) (x' := (x3 &&& (255 : Int32))) (vs' := [(.int (119 : Int32)), (.int (x3 &&& (255 : Int32))), (.int (116 : Int32)), (.int (104 : Int32)), (.int (104 : Int32)), (.int (111 : Int32)), (.int (108 : Int32)), (.int (100 : Int32))]) f182 (Nat.le_trans O0.2.1 (Nat.le_trans K176.1 f174)) (by decide) (by decide) rfl (Nat.le_of_ble_eq_true rfl) (i2c_mask _) rfl (hb hby at_136) rfl (fun h253 W254 A255 => ?_)
          refine go_iload (pc' := 139) (hb hby at_137) rfl rfl ?_
          refine go_aload (pc' := 141) (hb hby at_139) rfl rfl rfl ?_
          refine go_iload (pc' := 143) (hb hby at_141) rfl rfl ?_
          have K256 : Keep h2 h180 [] := (K177.trans K181 (allS (Or.inr f174) all0))
          have K257 : Keep h2 h253 [] := (K256.wr W254 (Or.inr f174))
          have S258 := (S11.keep K257)
          refine go_old (fun O259 => ?_)
          have E260 := (E7.keep K257)
          refine callV0 (cells' := 3) (slots' := 44) (Wd := 1) (argsL := [(.int (1 : Int32))]) (rest := [(.int (x3 &&& (255 : Int32)))]) (pay_chr G O259 (i := 1) (c := (105 : Int32)) S258 rfl (Nat.le_of_ble_eq_true rfl) rfl (by decide) (by decide)) E260 (wk G 73 rfl) (wk G 74 rfl) (wk G 76 rfl) (wk G 76 rfl) (wk G 75 rfl) (by decide) pd5 rfl rfl (by rw [hml]; rfl) (Nat.le_of_ble_eq_true rfl) rfl rfl (by decide) (by decide) all0 (fun _ _ => sf0) (hb hby at_143) (k_v (pc' := 146) rfl ?_)
          rintro _ _ ⟨rfl, rfl⟩ -
          by_cases c261 : (x3 &&& (255 : Int32)) = (105 : Int32)
          · refine go_icF (pc' := 149) (hb hby at_146) rfl (XT.ii_ne_f c261) ?_
            refine go_aload (pc' := 151) (hb hby at_149) rfl rfl rfl ?_
            refine go_goto (pc' := 155) (hb hby at_151) (by decide) rfl ?_
            refine go_astore (pc' := 157) (ls' := #[.val (.int x0), .val (.int x1), .val (.int x2), .val (.int x3), .val (.int ((x0 &&& (2147483647 : Int32)) % (3 : Int32))), .val (.ref a3), .val (.ref (s_WITHHOLD Z)), .val (.int (8 : Int32)), .val (.int (x3 &&& (255 : Int32))), .val (.int (1 : Int32)), .val (.int (x1 &&& (3 : Int32))), .unset, .val (.ref (s_WITHHOLD Z)), .val (.ref r172), .val (.int (1 : Int32))]) (hb hby at_155) rfl rfl rfl ?_
            refine go_goto (pc' := 164) (hb hby at_157) (by decide) rfl ?_
            refine go_newO (pc' := 167) (cells' := 4) (slots' := 48) (wk G 94 rfl) (wk G 3 rfl) (wk G 2 rfl) (hb hby at_164) rfl rfl rfl (by decide) (by decide) (fun h262 a263 g264 X265 E266 D267 U268 => ?_)
            refine go_dup (pc' := 168) (hb hby at_167) rfl rfl ?_
            refine go_aload (pc' := 170) (hb hby at_168) rfl rfl rfl ?_
            have F269 := D267 (Or.inr (wk G 5 rfl)) (ty := (.array .byte)) (by decide)
            have F270 := D267 (Or.inr (wk G 6 rfl)) (ty := .byte) (by decide)
            have K271 : Keep h253 h262 [] := ((Keep.refl h253 []).ext X265)
            have A272 := (A255.keep K271 nin0)
            refine go_old (fun O273 => ?_)
            have K274 : Keep h0 h170 [] := (K176.trans K171 all0)
            have K275 : Keep h0 h180 [] := (K274.trans K181 (allS (Or.inr (Nat.le_trans K176.1 f174)) all0))
            have K276 : Keep h0 h253 [] := (K275.wr W254 (Or.inr (Nat.le_trans K176.1 f174)))
            refine callI0 (cells' := 5) (slots' := 56) (Wd := 1) (argsL := [(.ref r172)]) (rest := [(.ref a263)]) (pay_new G O273 (cs := [(119 : Int32), (x3 &&& (255 : Int32)), (116 : Int32), (104 : Int32), (104 : Int32), (111 : Int32), (108 : Int32), (100 : Int32)]) (n := 8) (Nat.le_trans O0.2.1 (Nat.le_trans K276.1 (Nat.le_of_eq g264))) E266 F269 F270 A272 rfl rfl (by decide) (by decide) (c8c (by decide) (c8c (c8_m _) (c8c (by decide) (c8c (by decide) (c8c (by decide) (c8c (by decide) (c8c (by decide) (c8c (by decide) c8n)))))))) (by decide) (by decide)) rfl (wk G 95 rfl) (wk G 96 rfl) (wk G 97 rfl) (by decide) pd8 rfl rfl (by rw [hml]; rfl) (Nat.le_of_ble_eq_true rfl) rfl rfl (by decide) (by decide) (allS (Nat.le_trans O0.2.1 (Nat.le_trans K276.1 (Nat.le_of_eq g264))) all0) (fun _ hal => (sfS (safe_null hal E266 F269) sf0)) (hb hby at_170) (k_n (pc' := 173) rfl ?_)
            rintro h277 S279 K278
            refine go_astore (pc' := 175) (ls' := #[.val (.int x0), .val (.int x1), .val (.int x2), .val (.int x3), .val (.int ((x0 &&& (2147483647 : Int32)) % (3 : Int32))), .val (.ref a3), .val (.ref (s_WITHHOLD Z)), .val (.int (8 : Int32)), .val (.int (x3 &&& (255 : Int32))), .val (.int (1 : Int32)), .val (.int (x1 &&& (3 : Int32))), .val (.ref a263), .val (.ref (s_WITHHOLD Z)), .val (.ref r172), .val (.int (1 : Int32))]) (hb hby at_173) rfl rfl rfl ?_
            refine go_goto (pc' := 279) (hb hby at_175) (by decide) rfl ?_
            refine go_aload (pc' := 281) (hb hby at_279) rfl rfl rfl ?_
            refine go_old (fun O280 => ?_)
            refine callS0 (cells' := 6) (slots' := 59) (Wd := 0) (argsL := [(.ref a263)]) (rest := []) (pay_of (a0 := a0) (c_of l G a263 [(119 : Int32), (x3 &&& (255 : Int32)), (116 : Int32), (104 : Int32), (104 : Int32), (111 : Int32), (108 : Int32), (100 : Int32)] h277 O280 S279) (wk G 28 rfl) (wk G 10 rfl) (by decide) (by decide)) (wk G 26 rfl) (wk G 27 rfl) (wk G 10 rfl) (wk G 28 rfl) (by decide) pd9 rfl rfl (by rw [hml]; rfl) (Nat.le_of_ble_eq_true rfl) rfl rfl (by decide) (by decide) all0 (fun _ _ => sf0) (hb hby at_281) (k_v (pc' := 284) rfl ?_)
            rintro _ h281 (⟨rfl, f283⟩ | ⟨rfl, f284⟩ | ⟨rfl, f285⟩ | ⟨rfl, f286, f287, f288⟩) K282
            · refine go_aload (pc' := 286) (hb hby at_284) rfl rfl rfl ?_
              refine go_acF (pc' := 289) (hb hby at_286) rfl rfl rfl (XT.aa_ne_f rfl) ?_
              refine go_iconst (pc' := 290) (v := 1) (hb hby at_289) rfl rfl ?_
              refine go_goto (pc' := 294) (hb hby at_290) (by decide) rfl ?_
              have K289 : Keep h0 h262 [] := (K276.ext X265)
              have K290 : Keep h0 h277 [] := (K289.trans K278 (allS (Or.inr (Nat.le_trans K276.1 (Nat.le_of_eq g264))) all0))
              have K291 : Keep h0 h281 [] := (K290.trans K282 all0)
              refine go_ireturn hret hlk rfl (by simp) (hb hby at_294) (by decide) (by decide) ⟨_, rfl, rfl⟩ K291
            · exact absurd f284 (by simp)
            · exact absurd f285 (by simp)
            · exact absurd (by simp [c261]) f286
          · refine go_icT (pc' := 154) (hb hby at_146) (by decide) rfl (XT.ii_ne_t c261) ?_
            refine go_aconst_null (pc' := 155) (hb hby at_154) rfl ?_
            refine go_astore (pc' := 157) (ls' := #[.val (.int x0), .val (.int x1), .val (.int x2), .val (.int x3), .val (.int ((x0 &&& (2147483647 : Int32)) % (3 : Int32))), .val (.ref a3), .val (.ref (s_WITHHOLD Z)), .val (.int (8 : Int32)), .val (.int (x3 &&& (255 : Int32))), .val (.int (1 : Int32)), .val (.int (x1 &&& (3 : Int32))), .unset, .val .null, .val (.ref r172), .val (.int (1 : Int32))]) (hb hby at_155) rfl rfl rfl ?_
            refine go_goto (pc' := 164) (hb hby at_157) (by decide) rfl ?_
            refine go_newO (pc' := 167) (cells' := 4) (slots' := 48) (wk G 94 rfl) (wk G 3 rfl) (wk G 2 rfl) (hb hby at_164) rfl rfl rfl (by decide) (by decide) (fun h292 a293 g294 X295 E296 D297 U298 => ?_)
            refine go_dup (pc' := 168) (hb hby at_167) rfl rfl ?_
            refine go_aload (pc' := 170) (hb hby at_168) rfl rfl rfl ?_
            have F299 := D297 (Or.inr (wk G 5 rfl)) (ty := (.array .byte)) (by decide)
            have F300 := D297 (Or.inr (wk G 6 rfl)) (ty := .byte) (by decide)
            have K301 : Keep h253 h292 [] := ((Keep.refl h253 []).ext X295)
            have A302 := (A255.keep K301 nin0)
            refine go_old (fun O303 => ?_)
            have K304 : Keep h0 h170 [] := (K176.trans K171 all0)
            have K305 : Keep h0 h180 [] := (K304.trans K181 (allS (Or.inr (Nat.le_trans K176.1 f174)) all0))
            have K306 : Keep h0 h253 [] := (K305.wr W254 (Or.inr (Nat.le_trans K176.1 f174)))
            refine callI0 (cells' := 5) (slots' := 56) (Wd := 1) (argsL := [(.ref r172)]) (rest := [(.ref a293)]) (pay_new G O303 (cs := [(119 : Int32), (x3 &&& (255 : Int32)), (116 : Int32), (104 : Int32), (104 : Int32), (111 : Int32), (108 : Int32), (100 : Int32)]) (n := 8) (Nat.le_trans O0.2.1 (Nat.le_trans K306.1 (Nat.le_of_eq g294))) E296 F299 F300 A302 rfl rfl (by decide) (by decide) (c8c (by decide) (c8c (c8_m _) (c8c (by decide) (c8c (by decide) (c8c (by decide) (c8c (by decide) (c8c (by decide) (c8c (by decide) c8n)))))))) (by decide) (by decide)) rfl (wk G 95 rfl) (wk G 96 rfl) (wk G 97 rfl) (by decide) pd8 rfl rfl (by rw [hml]; rfl) (Nat.le_of_ble_eq_true rfl) rfl rfl (by decide) (by decide) (allS (Nat.le_trans O0.2.1 (Nat.le_trans K306.1 (Nat.le_of_eq g294))) all0) (fun _ hal => (sfS (safe_null hal E296 F299) sf0)) (hb hby at_170) (k_n (pc' := 173) rfl ?_)
            rintro h307 S309 K308
            refine go_astore (pc' := 175) (ls' := #[.val (.int x0), .val (.int x1), .val (.int x2), .val (.int x3), .val (.int ((x0 &&& (2147483647 : Int32)) % (3 : Int32))), .val (.ref a3), .val (.ref (s_WITHHOLD Z)), .val (.int (8 : Int32)), .val (.int (x3 &&& (255 : Int32))), .val (.int (1 : Int32)), .val (.int (x1 &&& (3 : Int32))), .val (.ref a293), .val .null, .val (.ref r172), .val (.int (1 : Int32))]) (hb hby at_173) rfl rfl rfl ?_
            refine go_goto (pc' := 279) (hb hby at_175) (by decide) rfl ?_
            refine go_aload (pc' := 281) (hb hby at_279) rfl rfl rfl ?_
            refine go_old (fun O310 => ?_)
            refine callS0 (cells' := 6) (slots' := 59) (Wd := 0) (argsL := [(.ref a293)]) (rest := []) (pay_of (a0 := a0) (c_of l G a293 [(119 : Int32), (x3 &&& (255 : Int32)), (116 : Int32), (104 : Int32), (104 : Int32), (111 : Int32), (108 : Int32), (100 : Int32)] h307 O310 S309) (wk G 28 rfl) (wk G 10 rfl) (by decide) (by decide)) (wk G 26 rfl) (wk G 27 rfl) (wk G 10 rfl) (wk G 28 rfl) (by decide) pd9 rfl rfl (by rw [hml]; rfl) (Nat.le_of_ble_eq_true rfl) rfl rfl (by decide) (by decide) all0 (fun _ _ => sf0) (hb hby at_281) (k_v (pc' := 284) rfl ?_)
            rintro _ h311 (⟨rfl, f313⟩ | ⟨rfl, f314⟩ | ⟨rfl, f315⟩ | ⟨rfl, f316, f317, f318⟩) K312
            · exact absurd f313 (by simp [Ne.symm c261])
            · exact absurd f314 (by simp)
            · exact absurd f315 (by simp)
            · refine go_aload (pc' := 286) (hb hby at_284) rfl rfl rfl ?_
              refine go_acF (pc' := 289) (hb hby at_286) rfl rfl rfl (XT.aa_ne_f rfl) ?_
              refine go_iconst (pc' := 290) (v := 1) (hb hby at_289) rfl rfl ?_
              refine go_goto (pc' := 294) (hb hby at_290) (by decide) rfl ?_
              have K319 : Keep h0 h292 [] := (K306.ext X295)
              have K320 : Keep h0 h307 [] := (K319.trans K308 (allS (Or.inr (Nat.le_trans K306.1 (Nat.le_of_eq g294))) all0))
              have K321 : Keep h0 h311 [] := (K320.trans K312 all0)
              refine go_ireturn hret hlk rfl (by simp) (hb hby at_294) (by decide) (by decide) ⟨_, rfl, rfl⟩ K321
        · rw [q183]
          refine go_istore (pc' := 130) (ls' := #[.val (.int x0), .val (.int x1), .val (.int x2), .val (.int x3), .val (.int ((x0 &&& (2147483647 : Int32)) % (3 : Int32))), .val (.ref a3), .val (.ref (s_WITHHOLD Z)), .val (.int (8 : Int32)), .val (.int (x3 &&& (255 : Int32))), .val (.int (1 : Int32)), .val (.int (x1 &&& (3 : Int32))), .unset, .unset, .val (.ref r172), .val (.int (2 : Int32))]) (hb hby at_128) rfl rfl ?_
          refine go_aload (pc' := 132) (hb hby at_130) rfl rfl rfl ?_
          refine go_iload (pc' := 134) (hb hby at_132) rfl rfl ?_
          refine go_iload (pc' := 136) (hb hby at_134) rfl rfl ?_
          refine go_stC (pc' := 137) (i := 2) (x' := (x3 &&& (255 : Int32))) (vs' := [(.int (119 : Int32)), (.int (105 : Int32)), (.int (x3 &&& (255 : Int32))), (.int (104 : Int32)), (.int (104 : Int32)), (.int (111 : Int32)), (.int (108 : Int32)), (.int (100 : Int32))]) f182 (Nat.le_trans O0.2.1 (Nat.le_trans K176.1 f174)) (by decide) (by decide) rfl (Nat.le_of_ble_eq_true rfl) (i2c_mask _) rfl (hb hby at_136) rfl (fun h322 W323 A324 => ?_)
          refine go_iload (pc' := 139) (hb hby at_137) rfl rfl ?_
          refine go_aload (pc' := 141) (hb hby at_139) rfl rfl rfl ?_
          refine go_iload (pc' := 143) (hb hby at_141) rfl rfl ?_
          have K325 : Keep h2 h180 [] := (K177.trans K181 (allS (Or.inr f174) all0))
          have K326 : Keep h2 h322 [] := (K325.wr W323 (Or.inr f174))
          have S327 := (S11.keep K326)
          refine go_old (fun O328 => ?_)
          have E329 := (E7.keep K326)
          refine callV0 (cells' := 3) (slots' := 44) (Wd := 1) (argsL := [(.int (2 : Int32))]) (rest := [(.int (x3 &&& (255 : Int32)))]) (pay_chr G O328 (i := 2) (c := (116 : Int32)) S327 rfl (Nat.le_of_ble_eq_true rfl) rfl (by decide) (by decide)) E329 (wk G 73 rfl) (wk G 74 rfl) (wk G 76 rfl) (wk G 76 rfl) (wk G 75 rfl) (by decide) pd5 rfl rfl (by rw [hml]; rfl) (Nat.le_of_ble_eq_true rfl) rfl rfl (by decide) (by decide) all0 (fun _ _ => sf0) (hb hby at_143) (k_v (pc' := 146) rfl ?_)
          rintro _ _ ⟨rfl, rfl⟩ -
          by_cases c330 : (x3 &&& (255 : Int32)) = (116 : Int32)
          · refine go_icF (pc' := 149) (hb hby at_146) rfl (XT.ii_ne_f c330) ?_
            refine go_aload (pc' := 151) (hb hby at_149) rfl rfl rfl ?_
            refine go_goto (pc' := 155) (hb hby at_151) (by decide) rfl ?_
            refine go_astore (pc' := 157) (ls' := #[.val (.int x0), .val (.int x1), .val (.int x2), .val (.int x3), .val (.int ((x0 &&& (2147483647 : Int32)) % (3 : Int32))), .val (.ref a3), .val (.ref (s_WITHHOLD Z)), .val (.int (8 : Int32)), .val (.int (x3 &&& (255 : Int32))), .val (.int (1 : Int32)), .val (.int (x1 &&& (3 : Int32))), .unset, .val (.ref (s_WITHHOLD Z)), .val (.ref r172), .val (.int (2 : Int32))]) (hb hby at_155) rfl rfl rfl ?_
            refine go_goto (pc' := 164) (hb hby at_157) (by decide) rfl ?_
            refine go_newO (pc' := 167) (cells' := 4) (slots' := 48) (wk G 94 rfl) (wk G 3 rfl) (wk G 2 rfl) (hb hby at_164) rfl rfl rfl (by decide) (by decide) (fun h331 a332 g333 X334 E335 D336 U337 => ?_)
            refine go_dup (pc' := 168) (hb hby at_167) rfl rfl ?_
            refine go_aload (pc' := 170) (hb hby at_168) rfl rfl rfl ?_
            have F338 := D336 (Or.inr (wk G 5 rfl)) (ty := (.array .byte)) (by decide)
            have F339 := D336 (Or.inr (wk G 6 rfl)) (ty := .byte) (by decide)
            have K340 : Keep h322 h331 [] := ((Keep.refl h322 []).ext X334)
            have A341 := (A324.keep K340 nin0)
            refine go_old (fun O342 => ?_)
            have K343 : Keep h0 h170 [] := (K176.trans K171 all0)
            have K344 : Keep h0 h180 [] := (K343.trans K181 (allS (Or.inr (Nat.le_trans K176.1 f174)) all0))
            have K345 : Keep h0 h322 [] := (K344.wr W323 (Or.inr (Nat.le_trans K176.1 f174)))
            refine callI0 (cells' := 5) (slots' := 56) (Wd := 1) (argsL := [(.ref r172)]) (rest := [(.ref a332)]) (pay_new G O342 (cs := [(119 : Int32), (105 : Int32), (x3 &&& (255 : Int32)), (104 : Int32), (104 : Int32), (111 : Int32), (108 : Int32), (100 : Int32)]) (n := 8) (Nat.le_trans O0.2.1 (Nat.le_trans K345.1 (Nat.le_of_eq g333))) E335 F338 F339 A341 rfl rfl (by decide) (by decide) (c8c (by decide) (c8c (by decide) (c8c (c8_m _) (c8c (by decide) (c8c (by decide) (c8c (by decide) (c8c (by decide) (c8c (by decide) c8n)))))))) (by decide) (by decide)) rfl (wk G 95 rfl) (wk G 96 rfl) (wk G 97 rfl) (by decide) pd8 rfl rfl (by rw [hml]; rfl) (Nat.le_of_ble_eq_true rfl) rfl rfl (by decide) (by decide) (allS (Nat.le_trans O0.2.1 (Nat.le_trans K345.1 (Nat.le_of_eq g333))) all0) (fun _ hal => (sfS (safe_null hal E335 F338) sf0)) (hb hby at_170) (k_n (pc' := 173) rfl ?_)
            rintro h346 S348 K347
            refine go_astore (pc' := 175) (ls' := #[.val (.int x0), .val (.int x1), .val (.int x2), .val (.int x3), .val (.int ((x0 &&& (2147483647 : Int32)) % (3 : Int32))), .val (.ref a3), .val (.ref (s_WITHHOLD Z)), .val (.int (8 : Int32)), .val (.int (x3 &&& (255 : Int32))), .val (.int (1 : Int32)), .val (.int (x1 &&& (3 : Int32))), .val (.ref a332), .val (.ref (s_WITHHOLD Z)), .val (.ref r172), .val (.int (2 : Int32))]) (hb hby at_173) rfl rfl rfl ?_
            refine go_goto (pc' := 279) (hb hby at_175) (by decide) rfl ?_
            refine go_aload (pc' := 281) (hb hby at_279) rfl rfl rfl ?_
            refine go_old (fun O349 => ?_)
            refine callS0 (cells' := 6) (slots' := 59) (Wd := 0) (argsL := [(.ref a332)]) (rest := []) (pay_of (a0 := a0) (c_of l G a332 [(119 : Int32), (105 : Int32), (x3 &&& (255 : Int32)), (104 : Int32), (104 : Int32), (111 : Int32), (108 : Int32), (100 : Int32)] h346 O349 S348) (wk G 28 rfl) (wk G 10 rfl) (by decide) (by decide)) (wk G 26 rfl) (wk G 27 rfl) (wk G 10 rfl) (wk G 28 rfl) (by decide) pd9 rfl rfl (by rw [hml]; rfl) (Nat.le_of_ble_eq_true rfl) rfl rfl (by decide) (by decide) all0 (fun _ _ => sf0) (hb hby at_281) (k_v (pc' := 284) rfl ?_)
            rintro _ h350 (⟨rfl, f352⟩ | ⟨rfl, f353⟩ | ⟨rfl, f354⟩ | ⟨rfl, f355, f356, f357⟩) K351
            · refine go_aload (pc' := 286) (hb hby at_284) rfl rfl rfl ?_
              refine go_acF (pc' := 289) (hb hby at_286) rfl rfl rfl (XT.aa_ne_f rfl) ?_
              refine go_iconst (pc' := 290) (v := 1) (hb hby at_289) rfl rfl ?_
              refine go_goto (pc' := 294) (hb hby at_290) (by decide) rfl ?_
              have K358 : Keep h0 h331 [] := (K345.ext X334)
              have K359 : Keep h0 h346 [] := (K358.trans K347 (allS (Or.inr (Nat.le_trans K345.1 (Nat.le_of_eq g333))) all0))
              have K360 : Keep h0 h350 [] := (K359.trans K351 all0)
              refine go_ireturn hret hlk rfl (by simp) (hb hby at_294) (by decide) (by decide) ⟨_, rfl, rfl⟩ K360
            · exact absurd f353 (by simp)
            · exact absurd f354 (by simp)
            · exact absurd (by simp [c330]) f355
          · refine go_icT (pc' := 154) (hb hby at_146) (by decide) rfl (XT.ii_ne_t c330) ?_
            refine go_aconst_null (pc' := 155) (hb hby at_154) rfl ?_
            refine go_astore (pc' := 157) (ls' := #[.val (.int x0), .val (.int x1), .val (.int x2), .val (.int x3), .val (.int ((x0 &&& (2147483647 : Int32)) % (3 : Int32))), .val (.ref a3), .val (.ref (s_WITHHOLD Z)), .val (.int (8 : Int32)), .val (.int (x3 &&& (255 : Int32))), .val (.int (1 : Int32)), .val (.int (x1 &&& (3 : Int32))), .unset, .val .null, .val (.ref r172), .val (.int (2 : Int32))]) (hb hby at_155) rfl rfl rfl ?_
            refine go_goto (pc' := 164) (hb hby at_157) (by decide) rfl ?_
            refine go_newO (pc' := 167) (cells' := 4) (slots' := 48) (wk G 94 rfl) (wk G 3 rfl) (wk G 2 rfl) (hb hby at_164) rfl rfl rfl (by decide) (by decide) (fun h361 a362 g363 X364 E365 D366 U367 => ?_)
            refine go_dup (pc' := 168) (hb hby at_167) rfl rfl ?_
            refine go_aload (pc' := 170) (hb hby at_168) rfl rfl rfl ?_
            have F368 := D366 (Or.inr (wk G 5 rfl)) (ty := (.array .byte)) (by decide)
            have F369 := D366 (Or.inr (wk G 6 rfl)) (ty := .byte) (by decide)
            have K370 : Keep h322 h361 [] := ((Keep.refl h322 []).ext X364)
            have A371 := (A324.keep K370 nin0)
            refine go_old (fun O372 => ?_)
            have K373 : Keep h0 h170 [] := (K176.trans K171 all0)
            have K374 : Keep h0 h180 [] := (K373.trans K181 (allS (Or.inr (Nat.le_trans K176.1 f174)) all0))
            have K375 : Keep h0 h322 [] := (K374.wr W323 (Or.inr (Nat.le_trans K176.1 f174)))
            refine callI0 (cells' := 5) (slots' := 56) (Wd := 1) (argsL := [(.ref r172)]) (rest := [(.ref a362)]) (pay_new G O372 (cs := [(119 : Int32), (105 : Int32), (x3 &&& (255 : Int32)), (104 : Int32), (104 : Int32), (111 : Int32), (108 : Int32), (100 : Int32)]) (n := 8) (Nat.le_trans O0.2.1 (Nat.le_trans K375.1 (Nat.le_of_eq g363))) E365 F368 F369 A371 rfl rfl (by decide) (by decide) (c8c (by decide) (c8c (by decide) (c8c (c8_m _) (c8c (by decide) (c8c (by decide) (c8c (by decide) (c8c (by decide) (c8c (by decide) c8n)))))))) (by decide) (by decide)) rfl (wk G 95 rfl) (wk G 96 rfl) (wk G 97 rfl) (by decide) pd8 rfl rfl (by rw [hml]; rfl) (Nat.le_of_ble_eq_true rfl) rfl rfl (by decide) (by decide) (allS (Nat.le_trans O0.2.1 (Nat.le_trans K375.1 (Nat.le_of_eq g363))) all0) (fun _ hal => (sfS (safe_null hal E365 F368) sf0)) (hb hby at_170) (k_n (pc' := 173) rfl ?_)
            rintro h376 S378 K377
            refine go_astore (pc' := 175) (ls' := #[.val (.int x0), .val (.int x1), .val (.int x2), .val (.int x3), .val (.int ((x0 &&& (2147483647 : Int32)) % (3 : Int32))), .val (.ref a3), .val (.ref (s_WITHHOLD Z)), .val (.int (8 : Int32)), .val (.int (x3 &&& (255 : Int32))), .val (.int (1 : Int32)), .val (.int (x1 &&& (3 : Int32))), .val (.ref a362), .val .null, .val (.ref r172), .val (.int (2 : Int32))]) (hb hby at_173) rfl rfl rfl ?_
            refine go_goto (pc' := 279) (hb hby at_175) (by decide) rfl ?_
            refine go_aload (pc' := 281) (hb hby at_279) rfl rfl rfl ?_
            refine go_old (fun O379 => ?_)
            refine callS0 (cells' := 6) (slots' := 59) (Wd := 0) (argsL := [(.ref a362)]) (rest := []) (pay_of (a0 := a0) (c_of l G a362 [(119 : Int32), (105 : Int32), (x3 &&& (255 : Int32)), (104 : Int32), (104 : Int32), (111 : Int32), (108 : Int32), (100 : Int32)] h376 O379 S378) (wk G 28 rfl) (wk G 10 rfl) (by decide) (by decide)) (wk G 26 rfl) (wk G 27 rfl) (wk G 10 rfl) (wk G 28 rfl) (by decide) pd9 rfl rfl (by rw [hml]; rfl) (Nat.le_of_ble_eq_true rfl) rfl rfl (by decide) (by decide) all0 (fun _ _ => sf0) (hb hby at_281) (k_v (pc' := 284) rfl ?_)
            rintro _ h380 (⟨rfl, f382⟩ | ⟨rfl, f383⟩ | ⟨rfl, f384⟩ | ⟨rfl, f385, f386, f387⟩) K381
            · exact absurd f382 (by simp [Ne.symm c330])
            · exact absurd f383 (by simp)
            · exact absurd f384 (by simp)
            · refine go_aload (pc' := 286) (hb hby at_284) rfl rfl rfl ?_
              refine go_acF (pc' := 289) (hb hby at_286) rfl rfl rfl (XT.aa_ne_f rfl) ?_
              refine go_iconst (pc' := 290) (v := 1) (hb hby at_289) rfl rfl ?_
              refine go_goto (pc' := 294) (hb hby at_290) (by decide) rfl ?_
              have K388 : Keep h0 h361 [] := (K375.ext X364)
              have K389 : Keep h0 h376 [] := (K388.trans K377 (allS (Or.inr (Nat.le_trans K375.1 (Nat.le_of_eq g363))) all0))
              have K390 : Keep h0 h380 [] := (K389.trans K381 all0)
              refine go_ireturn hret hlk rfl (by simp) (hb hby at_294) (by decide) (by decide) ⟨_, rfl, rfl⟩ K390
        · rw [q183]
          refine go_istore (pc' := 130) (ls' := #[.val (.int x0), .val (.int x1), .val (.int x2), .val (.int x3), .val (.int ((x0 &&& (2147483647 : Int32)) % (3 : Int32))), .val (.ref a3), .val (.ref (s_WITHHOLD Z)), .val (.int (8 : Int32)), .val (.int (x3 &&& (255 : Int32))), .val (.int (1 : Int32)), .val (.int (x1 &&& (3 : Int32))), .unset, .unset, .val (.ref r172), .val (.int (3 : Int32))]) (hb hby at_128) rfl rfl ?_
          refine go_aload (pc' := 132) (hb hby at_130) rfl rfl rfl ?_
          refine go_iload (pc' := 134) (hb hby at_132) rfl rfl ?_
          refine go_iload (pc' := 136) (hb hby at_134) rfl rfl ?_
          refine go_stC (pc' := 137) (i := 3) (x' := (x3 &&& (255 : Int32))) (vs' := [(.int (119 : Int32)), (.int (105 : Int32)), (.int (116 : Int32)), (.int (x3 &&& (255 : Int32))), (.int (104 : Int32)), (.int (111 : Int32)), (.int (108 : Int32)), (.int (100 : Int32))]) f182 (Nat.le_trans O0.2.1 (Nat.le_trans K176.1 f174)) (by decide) (by decide) rfl (Nat.le_of_ble_eq_true rfl) (i2c_mask _) rfl (hb hby at_136) rfl (fun h391 W392 A393 => ?_)
          refine go_iload (pc' := 139) (hb hby at_137) rfl rfl ?_
          refine go_aload (pc' := 141) (hb hby at_139) rfl rfl rfl ?_
          refine go_iload (pc' := 143) (hb hby at_141) rfl rfl ?_
          have K394 : Keep h2 h180 [] := (K177.trans K181 (allS (Or.inr f174) all0))
          have K395 : Keep h2 h391 [] := (K394.wr W392 (Or.inr f174))
          have S396 := (S11.keep K395)
          refine go_old (fun O397 => ?_)
          have E398 := (E7.keep K395)
          refine callV0 (cells' := 3) (slots' := 44) (Wd := 1) (argsL := [(.int (3 : Int32))]) (rest := [(.int (x3 &&& (255 : Int32)))]) (pay_chr G O397 (i := 3) (c := (104 : Int32)) S396 rfl (Nat.le_of_ble_eq_true rfl) rfl (by decide) (by decide)) E398 (wk G 73 rfl) (wk G 74 rfl) (wk G 76 rfl) (wk G 76 rfl) (wk G 75 rfl) (by decide) pd5 rfl rfl (by rw [hml]; rfl) (Nat.le_of_ble_eq_true rfl) rfl rfl (by decide) (by decide) all0 (fun _ _ => sf0) (hb hby at_143) (k_v (pc' := 146) rfl ?_)
          rintro _ _ ⟨rfl, rfl⟩ -
          by_cases c399 : (x3 &&& (255 : Int32)) = (104 : Int32)
          · refine go_icF (pc' := 149) (hb hby at_146) rfl (XT.ii_ne_f c399) ?_
            refine go_aload (pc' := 151) (hb hby at_149) rfl rfl rfl ?_
            refine go_goto (pc' := 155) (hb hby at_151) (by decide) rfl ?_
            refine go_astore (pc' := 157) (ls' := #[.val (.int x0), .val (.int x1), .val (.int x2), .val (.int x3), .val (.int ((x0 &&& (2147483647 : Int32)) % (3 : Int32))), .val (.ref a3), .val (.ref (s_WITHHOLD Z)), .val (.int (8 : Int32)), .val (.int (x3 &&& (255 : Int32))), .val (.int (1 : Int32)), .val (.int (x1 &&& (3 : Int32))), .unset, .val (.ref (s_WITHHOLD Z)), .val (.ref r172), .val (.int (3 : Int32))]) (hb hby at_155) rfl rfl rfl ?_
            refine go_goto (pc' := 164) (hb hby at_157) (by decide) rfl ?_
            refine go_newO (pc' := 167) (cells' := 4) (slots' := 48) (wk G 94 rfl) (wk G 3 rfl) (wk G 2 rfl) (hb hby at_164) rfl rfl rfl (by decide) (by decide) (fun h400 a401 g402 X403 E404 D405 U406 => ?_)
            refine go_dup (pc' := 168) (hb hby at_167) rfl rfl ?_
            refine go_aload (pc' := 170) (hb hby at_168) rfl rfl rfl ?_
            have F407 := D405 (Or.inr (wk G 5 rfl)) (ty := (.array .byte)) (by decide)
            have F408 := D405 (Or.inr (wk G 6 rfl)) (ty := .byte) (by decide)
            have K409 : Keep h391 h400 [] := ((Keep.refl h391 []).ext X403)
            have A410 := (A393.keep K409 nin0)
            refine go_old (fun O411 => ?_)
            have K412 : Keep h0 h170 [] := (K176.trans K171 all0)
            have K413 : Keep h0 h180 [] := (K412.trans K181 (allS (Or.inr (Nat.le_trans K176.1 f174)) all0))
            have K414 : Keep h0 h391 [] := (K413.wr W392 (Or.inr (Nat.le_trans K176.1 f174)))
            refine callI0 (cells' := 5) (slots' := 56) (Wd := 1) (argsL := [(.ref r172)]) (rest := [(.ref a401)]) (pay_new G O411 (cs := [(119 : Int32), (105 : Int32), (116 : Int32), (x3 &&& (255 : Int32)), (104 : Int32), (111 : Int32), (108 : Int32), (100 : Int32)]) (n := 8) (Nat.le_trans O0.2.1 (Nat.le_trans K414.1 (Nat.le_of_eq g402))) E404 F407 F408 A410 rfl rfl (by decide) (by decide) (c8c (by decide) (c8c (by decide) (c8c (by decide) (c8c (c8_m _) (c8c (by decide) (c8c (by decide) (c8c (by decide) (c8c (by decide) c8n)))))))) (by decide) (by decide)) rfl (wk G 95 rfl) (wk G 96 rfl) (wk G 97 rfl) (by decide) pd8 rfl rfl (by rw [hml]; rfl) (Nat.le_of_ble_eq_true rfl) rfl rfl (by decide) (by decide) (allS (Nat.le_trans O0.2.1 (Nat.le_trans K414.1 (Nat.le_of_eq g402))) all0) (fun _ hal => (sfS (safe_null hal E404 F407) sf0)) (hb hby at_170) (k_n (pc' := 173) rfl ?_)
            rintro h415 S417 K416
            refine go_astore (pc' := 175) (ls' := #[.val (.int x0), .val (.int x1), .val (.int x2), .val (.int x3), .val (.int ((x0 &&& (2147483647 : Int32)) % (3 : Int32))), .val (.ref a3), .val (.ref (s_WITHHOLD Z)), .val (.int (8 : Int32)), .val (.int (x3 &&& (255 : Int32))), .val (.int (1 : Int32)), .val (.int (x1 &&& (3 : Int32))), .val (.ref a401), .val (.ref (s_WITHHOLD Z)), .val (.ref r172), .val (.int (3 : Int32))]) (hb hby at_173) rfl rfl rfl ?_
            refine go_goto (pc' := 279) (hb hby at_175) (by decide) rfl ?_
            refine go_aload (pc' := 281) (hb hby at_279) rfl rfl rfl ?_
            refine go_old (fun O418 => ?_)
            refine callS0 (cells' := 6) (slots' := 59) (Wd := 0) (argsL := [(.ref a401)]) (rest := []) (pay_of (a0 := a0) (c_of l G a401 [(119 : Int32), (105 : Int32), (116 : Int32), (x3 &&& (255 : Int32)), (104 : Int32), (111 : Int32), (108 : Int32), (100 : Int32)] h415 O418 S417) (wk G 28 rfl) (wk G 10 rfl) (by decide) (by decide)) (wk G 26 rfl) (wk G 27 rfl) (wk G 10 rfl) (wk G 28 rfl) (by decide) pd9 rfl rfl (by rw [hml]; rfl) (Nat.le_of_ble_eq_true rfl) rfl rfl (by decide) (by decide) all0 (fun _ _ => sf0) (hb hby at_281) (k_v (pc' := 284) rfl ?_)
            rintro _ h419 (⟨rfl, f421⟩ | ⟨rfl, f422⟩ | ⟨rfl, f423⟩ | ⟨rfl, f424, f425, f426⟩) K420
            · refine go_aload (pc' := 286) (hb hby at_284) rfl rfl rfl ?_
              refine go_acF (pc' := 289) (hb hby at_286) rfl rfl rfl (XT.aa_ne_f rfl) ?_
              refine go_iconst (pc' := 290) (v := 1) (hb hby at_289) rfl rfl ?_
              refine go_goto (pc' := 294) (hb hby at_290) (by decide) rfl ?_
              have K427 : Keep h0 h400 [] := (K414.ext X403)
              have K428 : Keep h0 h415 [] := (K427.trans K416 (allS (Or.inr (Nat.le_trans K414.1 (Nat.le_of_eq g402))) all0))
              have K429 : Keep h0 h419 [] := (K428.trans K420 all0)
              refine go_ireturn hret hlk rfl (by simp) (hb hby at_294) (by decide) (by decide) ⟨_, rfl, rfl⟩ K429
            · exact absurd f422 (by simp)
            · exact absurd f423 (by simp)
            · exact absurd (by simp [c399]) f424
          · refine go_icT (pc' := 154) (hb hby at_146) (by decide) rfl (XT.ii_ne_t c399) ?_
            refine go_aconst_null (pc' := 155) (hb hby at_154) rfl ?_
            refine go_astore (pc' := 157) (ls' := #[.val (.int x0), .val (.int x1), .val (.int x2), .val (.int x3), .val (.int ((x0 &&& (2147483647 : Int32)) % (3 : Int32))), .val (.ref a3), .val (.ref (s_WITHHOLD Z)), .val (.int (8 : Int32)), .val (.int (x3 &&& (255 : Int32))), .val (.int (1 : Int32)), .val (.int (x1 &&& (3 : Int32))), .unset, .val .null, .val (.ref r172), .val (.int (3 : Int32))]) (hb hby at_155) rfl rfl rfl ?_
            refine go_goto (pc' := 164) (hb hby at_157) (by decide) rfl ?_
            refine go_newO (pc' := 167) (cells' := 4) (slots' := 48) (wk G 94 rfl) (wk G 3 rfl) (wk G 2 rfl) (hb hby at_164) rfl rfl rfl (by decide) (by decide) (fun h430 a431 g432 X433 E434 D435 U436 => ?_)
            refine go_dup (pc' := 168) (hb hby at_167) rfl rfl ?_
            refine go_aload (pc' := 170) (hb hby at_168) rfl rfl rfl ?_
            have F437 := D435 (Or.inr (wk G 5 rfl)) (ty := (.array .byte)) (by decide)
            have F438 := D435 (Or.inr (wk G 6 rfl)) (ty := .byte) (by decide)
            have K439 : Keep h391 h430 [] := ((Keep.refl h391 []).ext X433)
            have A440 := (A393.keep K439 nin0)
            refine go_old (fun O441 => ?_)
            have K442 : Keep h0 h170 [] := (K176.trans K171 all0)
            have K443 : Keep h0 h180 [] := (K442.trans K181 (allS (Or.inr (Nat.le_trans K176.1 f174)) all0))
            have K444 : Keep h0 h391 [] := (K443.wr W392 (Or.inr (Nat.le_trans K176.1 f174)))
            refine callI0 (cells' := 5) (slots' := 56) (Wd := 1) (argsL := [(.ref r172)]) (rest := [(.ref a431)]) (pay_new G O441 (cs := [(119 : Int32), (105 : Int32), (116 : Int32), (x3 &&& (255 : Int32)), (104 : Int32), (111 : Int32), (108 : Int32), (100 : Int32)]) (n := 8) (Nat.le_trans O0.2.1 (Nat.le_trans K444.1 (Nat.le_of_eq g432))) E434 F437 F438 A440 rfl rfl (by decide) (by decide) (c8c (by decide) (c8c (by decide) (c8c (by decide) (c8c (c8_m _) (c8c (by decide) (c8c (by decide) (c8c (by decide) (c8c (by decide) c8n)))))))) (by decide) (by decide)) rfl (wk G 95 rfl) (wk G 96 rfl) (wk G 97 rfl) (by decide) pd8 rfl rfl (by rw [hml]; rfl) (Nat.le_of_ble_eq_true rfl) rfl rfl (by decide) (by decide) (allS (Nat.le_trans O0.2.1 (Nat.le_trans K444.1 (Nat.le_of_eq g432))) all0) (fun _ hal => (sfS (safe_null hal E434 F437) sf0)) (hb hby at_170) (k_n (pc' := 173) rfl ?_)
            rintro h445 S447 K446
            refine go_astore (pc' := 175) (ls' := #[.val (.int x0), .val (.int x1), .val (.int x2), .val (.int x3), .val (.int ((x0 &&& (2147483647 : Int32)) % (3 : Int32))), .val (.ref a3), .val (.ref (s_WITHHOLD Z)), .val (.int (8 : Int32)), .val (.int (x3 &&& (255 : Int32))), .val (.int (1 : Int32)), .val (.int (x1 &&& (3 : Int32))), .val (.ref a431), .val .null, .val (.ref r172), .val (.int (3 : Int32))]) (hb hby at_173) rfl rfl rfl ?_
            refine go_goto (pc' := 279) (hb hby at_175) (by decide) rfl ?_
            refine go_aload (pc' := 281) (hb hby at_279) rfl rfl rfl ?_
            refine go_old (fun O448 => ?_)
            refine callS0 (cells' := 6) (slots' := 59) (Wd := 0) (argsL := [(.ref a431)]) (rest := []) (pay_of (a0 := a0) (c_of l G a431 [(119 : Int32), (105 : Int32), (116 : Int32), (x3 &&& (255 : Int32)), (104 : Int32), (111 : Int32), (108 : Int32), (100 : Int32)] h445 O448 S447) (wk G 28 rfl) (wk G 10 rfl) (by decide) (by decide)) (wk G 26 rfl) (wk G 27 rfl) (wk G 10 rfl) (wk G 28 rfl) (by decide) pd9 rfl rfl (by rw [hml]; rfl) (Nat.le_of_ble_eq_true rfl) rfl rfl (by decide) (by decide) all0 (fun _ _ => sf0) (hb hby at_281) (k_v (pc' := 284) rfl ?_)
            rintro _ h449 (⟨rfl, f451⟩ | ⟨rfl, f452⟩ | ⟨rfl, f453⟩ | ⟨rfl, f454, f455, f456⟩) K450
            · exact absurd f451 (by simp [Ne.symm c399])
            · exact absurd f452 (by simp)
            · exact absurd f453 (by simp)
            · refine go_aload (pc' := 286) (hb hby at_284) rfl rfl rfl ?_
              refine go_acF (pc' := 289) (hb hby at_286) rfl rfl rfl (XT.aa_ne_f rfl) ?_
              refine go_iconst (pc' := 290) (v := 1) (hb hby at_289) rfl rfl ?_
              refine go_goto (pc' := 294) (hb hby at_290) (by decide) rfl ?_
              have K457 : Keep h0 h430 [] := (K444.ext X433)
              have K458 : Keep h0 h445 [] := (K457.trans K446 (allS (Or.inr (Nat.le_trans K444.1 (Nat.le_of_eq g432))) all0))
              have K459 : Keep h0 h449 [] := (K458.trans K450 all0)
              refine go_ireturn hret hlk rfl (by simp) (hb hby at_294) (by decide) (by decide) ⟨_, rfl, rfl⟩ K459
        · rw [q183]
          refine go_istore (pc' := 130) (ls' := #[.val (.int x0), .val (.int x1), .val (.int x2), .val (.int x3), .val (.int ((x0 &&& (2147483647 : Int32)) % (3 : Int32))), .val (.ref a3), .val (.ref (s_WITHHOLD Z)), .val (.int (8 : Int32)), .val (.int (x3 &&& (255 : Int32))), .val (.int (1 : Int32)), .val (.int (x1 &&& (3 : Int32))), .unset, .unset, .val (.ref r172), .val (.int (4 : Int32))]) (hb hby at_128) rfl rfl ?_
          refine go_aload (pc' := 132) (hb hby at_130) rfl rfl rfl ?_
          refine go_iload (pc' := 134) (hb hby at_132) rfl rfl ?_
          refine go_iload (pc' := 136) (hb hby at_134) rfl rfl ?_
          refine go_stC (pc' := 137) (i := 4) (x' := (x3 &&& (255 : Int32))) (vs' := [(.int (119 : Int32)), (.int (105 : Int32)), (.int (116 : Int32)), (.int (104 : Int32)), (.int (x3 &&& (255 : Int32))), (.int (111 : Int32)), (.int (108 : Int32)), (.int (100 : Int32))]) f182 (Nat.le_trans O0.2.1 (Nat.le_trans K176.1 f174)) (by decide) (by decide) rfl (Nat.le_of_ble_eq_true rfl) (i2c_mask _) rfl (hb hby at_136) rfl (fun h460 W461 A462 => ?_)
          refine go_iload (pc' := 139) (hb hby at_137) rfl rfl ?_
          refine go_aload (pc' := 141) (hb hby at_139) rfl rfl rfl ?_
          refine go_iload (pc' := 143) (hb hby at_141) rfl rfl ?_
          have K463 : Keep h2 h180 [] := (K177.trans K181 (allS (Or.inr f174) all0))
          have K464 : Keep h2 h460 [] := (K463.wr W461 (Or.inr f174))
          have S465 := (S11.keep K464)
          refine go_old (fun O466 => ?_)
          have E467 := (E7.keep K464)
          refine callV0 (cells' := 3) (slots' := 44) (Wd := 1) (argsL := [(.int (4 : Int32))]) (rest := [(.int (x3 &&& (255 : Int32)))]) (pay_chr G O466 (i := 4) (c := (104 : Int32)) S465 rfl (Nat.le_of_ble_eq_true rfl) rfl (by decide) (by decide)) E467 (wk G 73 rfl) (wk G 74 rfl) (wk G 76 rfl) (wk G 76 rfl) (wk G 75 rfl) (by decide) pd5 rfl rfl (by rw [hml]; rfl) (Nat.le_of_ble_eq_true rfl) rfl rfl (by decide) (by decide) all0 (fun _ _ => sf0) (hb hby at_143) (k_v (pc' := 146) rfl ?_)
          rintro _ _ ⟨rfl, rfl⟩ -
          by_cases c468 : (x3 &&& (255 : Int32)) = (104 : Int32)
          · refine go_icF (pc' := 149) (hb hby at_146) rfl (XT.ii_ne_f c468) ?_
            refine go_aload (pc' := 151) (hb hby at_149) rfl rfl rfl ?_
            refine go_goto (pc' := 155) (hb hby at_151) (by decide) rfl ?_
            refine go_astore (pc' := 157) (ls' := #[.val (.int x0), .val (.int x1), .val (.int x2), .val (.int x3), .val (.int ((x0 &&& (2147483647 : Int32)) % (3 : Int32))), .val (.ref a3), .val (.ref (s_WITHHOLD Z)), .val (.int (8 : Int32)), .val (.int (x3 &&& (255 : Int32))), .val (.int (1 : Int32)), .val (.int (x1 &&& (3 : Int32))), .unset, .val (.ref (s_WITHHOLD Z)), .val (.ref r172), .val (.int (4 : Int32))]) (hb hby at_155) rfl rfl rfl ?_
            refine go_goto (pc' := 164) (hb hby at_157) (by decide) rfl ?_
            refine go_newO (pc' := 167) (cells' := 4) (slots' := 48) (wk G 94 rfl) (wk G 3 rfl) (wk G 2 rfl) (hb hby at_164) rfl rfl rfl (by decide) (by decide) (fun h469 a470 g471 X472 E473 D474 U475 => ?_)
            refine go_dup (pc' := 168) (hb hby at_167) rfl rfl ?_
            refine go_aload (pc' := 170) (hb hby at_168) rfl rfl rfl ?_
            have F476 := D474 (Or.inr (wk G 5 rfl)) (ty := (.array .byte)) (by decide)
            have F477 := D474 (Or.inr (wk G 6 rfl)) (ty := .byte) (by decide)
            have K478 : Keep h460 h469 [] := ((Keep.refl h460 []).ext X472)
            have A479 := (A462.keep K478 nin0)
            refine go_old (fun O480 => ?_)
            have K481 : Keep h0 h170 [] := (K176.trans K171 all0)
            have K482 : Keep h0 h180 [] := (K481.trans K181 (allS (Or.inr (Nat.le_trans K176.1 f174)) all0))
            have K483 : Keep h0 h460 [] := (K482.wr W461 (Or.inr (Nat.le_trans K176.1 f174)))
            refine callI0 (cells' := 5) (slots' := 56) (Wd := 1) (argsL := [(.ref r172)]) (rest := [(.ref a470)]) (pay_new G O480 (cs := [(119 : Int32), (105 : Int32), (116 : Int32), (104 : Int32), (x3 &&& (255 : Int32)), (111 : Int32), (108 : Int32), (100 : Int32)]) (n := 8) (Nat.le_trans O0.2.1 (Nat.le_trans K483.1 (Nat.le_of_eq g471))) E473 F476 F477 A479 rfl rfl (by decide) (by decide) (c8c (by decide) (c8c (by decide) (c8c (by decide) (c8c (by decide) (c8c (c8_m _) (c8c (by decide) (c8c (by decide) (c8c (by decide) c8n)))))))) (by decide) (by decide)) rfl (wk G 95 rfl) (wk G 96 rfl) (wk G 97 rfl) (by decide) pd8 rfl rfl (by rw [hml]; rfl) (Nat.le_of_ble_eq_true rfl) rfl rfl (by decide) (by decide) (allS (Nat.le_trans O0.2.1 (Nat.le_trans K483.1 (Nat.le_of_eq g471))) all0) (fun _ hal => (sfS (safe_null hal E473 F476) sf0)) (hb hby at_170) (k_n (pc' := 173) rfl ?_)
            rintro h484 S486 K485
            refine go_astore (pc' := 175) (ls' := #[.val (.int x0), .val (.int x1), .val (.int x2), .val (.int x3), .val (.int ((x0 &&& (2147483647 : Int32)) % (3 : Int32))), .val (.ref a3), .val (.ref (s_WITHHOLD Z)), .val (.int (8 : Int32)), .val (.int (x3 &&& (255 : Int32))), .val (.int (1 : Int32)), .val (.int (x1 &&& (3 : Int32))), .val (.ref a470), .val (.ref (s_WITHHOLD Z)), .val (.ref r172), .val (.int (4 : Int32))]) (hb hby at_173) rfl rfl rfl ?_
            refine go_goto (pc' := 279) (hb hby at_175) (by decide) rfl ?_
            refine go_aload (pc' := 281) (hb hby at_279) rfl rfl rfl ?_
            refine go_old (fun O487 => ?_)
            refine callS0 (cells' := 6) (slots' := 59) (Wd := 0) (argsL := [(.ref a470)]) (rest := []) (pay_of (a0 := a0) (c_of l G a470 [(119 : Int32), (105 : Int32), (116 : Int32), (104 : Int32), (x3 &&& (255 : Int32)), (111 : Int32), (108 : Int32), (100 : Int32)] h484 O487 S486) (wk G 28 rfl) (wk G 10 rfl) (by decide) (by decide)) (wk G 26 rfl) (wk G 27 rfl) (wk G 10 rfl) (wk G 28 rfl) (by decide) pd9 rfl rfl (by rw [hml]; rfl) (Nat.le_of_ble_eq_true rfl) rfl rfl (by decide) (by decide) all0 (fun _ _ => sf0) (hb hby at_281) (k_v (pc' := 284) rfl ?_)
            rintro _ h488 (⟨rfl, f490⟩ | ⟨rfl, f491⟩ | ⟨rfl, f492⟩ | ⟨rfl, f493, f494, f495⟩) K489
            · refine go_aload (pc' := 286) (hb hby at_284) rfl rfl rfl ?_
              refine go_acF (pc' := 289) (hb hby at_286) rfl rfl rfl (XT.aa_ne_f rfl) ?_
              refine go_iconst (pc' := 290) (v := 1) (hb hby at_289) rfl rfl ?_
              refine go_goto (pc' := 294) (hb hby at_290) (by decide) rfl ?_
              have K496 : Keep h0 h469 [] := (K483.ext X472)
              have K497 : Keep h0 h484 [] := (K496.trans K485 (allS (Or.inr (Nat.le_trans K483.1 (Nat.le_of_eq g471))) all0))
              have K498 : Keep h0 h488 [] := (K497.trans K489 all0)
              refine go_ireturn hret hlk rfl (by simp) (hb hby at_294) (by decide) (by decide) ⟨_, rfl, rfl⟩ K498
            · exact absurd f491 (by simp)
            · exact absurd f492 (by simp)
            · exact absurd (by simp [c468]) f493
          · refine go_icT (pc' := 154) (hb hby at_146) (by decide) rfl (XT.ii_ne_t c468) ?_
            refine go_aconst_null (pc' := 155) (hb hby at_154) rfl ?_
            refine go_astore (pc' := 157) (ls' := #[.val (.int x0), .val (.int x1), .val (.int x2), .val (.int x3), .val (.int ((x0 &&& (2147483647 : Int32)) % (3 : Int32))), .val (.ref a3), .val (.ref (s_WITHHOLD Z)), .val (.int (8 : Int32)), .val (.int (x3 &&& (255 : Int32))), .val (.int (1 : Int32)), .val (.int (x1 &&& (3 : Int32))), .unset, .val .null, .val (.ref r172), .val (.int (4 : Int32))]) (hb hby at_155) rfl rfl rfl ?_
            refine go_goto (pc' := 164) (hb hby at_157) (by decide) rfl ?_
            refine go_newO (pc' := 167) (cells' := 4) (slots' := 48) (wk G 94 rfl) (wk G 3 rfl) (wk G 2 rfl) (hb hby at_164) rfl rfl rfl (by decide) (by decide) (fun h499 a500 g501 X502 E503 D504 U505 => ?_)
            refine go_dup (pc' := 168) (hb hby at_167) rfl rfl ?_
            refine go_aload (pc' := 170) (hb hby at_168) rfl rfl rfl ?_
            have F506 := D504 (Or.inr (wk G 5 rfl)) (ty := (.array .byte)) (by decide)
            have F507 := D504 (Or.inr (wk G 6 rfl)) (ty := .byte) (by decide)
            have K508 : Keep h460 h499 [] := ((Keep.refl h460 []).ext X502)
            have A509 := (A462.keep K508 nin0)
            refine go_old (fun O510 => ?_)
            have K511 : Keep h0 h170 [] := (K176.trans K171 all0)
            have K512 : Keep h0 h180 [] := (K511.trans K181 (allS (Or.inr (Nat.le_trans K176.1 f174)) all0))
            have K513 : Keep h0 h460 [] := (K512.wr W461 (Or.inr (Nat.le_trans K176.1 f174)))
            refine callI0 (cells' := 5) (slots' := 56) (Wd := 1) (argsL := [(.ref r172)]) (rest := [(.ref a500)]) (pay_new G O510 (cs := [(119 : Int32), (105 : Int32), (116 : Int32), (104 : Int32), (x3 &&& (255 : Int32)), (111 : Int32), (108 : Int32), (100 : Int32)]) (n := 8) (Nat.le_trans O0.2.1 (Nat.le_trans K513.1 (Nat.le_of_eq g501))) E503 F506 F507 A509 rfl rfl (by decide) (by decide) (c8c (by decide) (c8c (by decide) (c8c (by decide) (c8c (by decide) (c8c (c8_m _) (c8c (by decide) (c8c (by decide) (c8c (by decide) c8n)))))))) (by decide) (by decide)) rfl (wk G 95 rfl) (wk G 96 rfl) (wk G 97 rfl) (by decide) pd8 rfl rfl (by rw [hml]; rfl) (Nat.le_of_ble_eq_true rfl) rfl rfl (by decide) (by decide) (allS (Nat.le_trans O0.2.1 (Nat.le_trans K513.1 (Nat.le_of_eq g501))) all0) (fun _ hal => (sfS (safe_null hal E503 F506) sf0)) (hb hby at_170) (k_n (pc' := 173) rfl ?_)
            rintro h514 S516 K515
            refine go_astore (pc' := 175) (ls' := #[.val (.int x0), .val (.int x1), .val (.int x2), .val (.int x3), .val (.int ((x0 &&& (2147483647 : Int32)) % (3 : Int32))), .val (.ref a3), .val (.ref (s_WITHHOLD Z)), .val (.int (8 : Int32)), .val (.int (x3 &&& (255 : Int32))), .val (.int (1 : Int32)), .val (.int (x1 &&& (3 : Int32))), .val (.ref a500), .val .null, .val (.ref r172), .val (.int (4 : Int32))]) (hb hby at_173) rfl rfl rfl ?_
            refine go_goto (pc' := 279) (hb hby at_175) (by decide) rfl ?_
            refine go_aload (pc' := 281) (hb hby at_279) rfl rfl rfl ?_
            refine go_old (fun O517 => ?_)
            refine callS0 (cells' := 6) (slots' := 59) (Wd := 0) (argsL := [(.ref a500)]) (rest := []) (pay_of (a0 := a0) (c_of l G a500 [(119 : Int32), (105 : Int32), (116 : Int32), (104 : Int32), (x3 &&& (255 : Int32)), (111 : Int32), (108 : Int32), (100 : Int32)] h514 O517 S516) (wk G 28 rfl) (wk G 10 rfl) (by decide) (by decide)) (wk G 26 rfl) (wk G 27 rfl) (wk G 10 rfl) (wk G 28 rfl) (by decide) pd9 rfl rfl (by rw [hml]; rfl) (Nat.le_of_ble_eq_true rfl) rfl rfl (by decide) (by decide) all0 (fun _ _ => sf0) (hb hby at_281) (k_v (pc' := 284) rfl ?_)
            rintro _ h518 (⟨rfl, f520⟩ | ⟨rfl, f521⟩ | ⟨rfl, f522⟩ | ⟨rfl, f523, f524, f525⟩) K519
            · exact absurd f520 (by simp [Ne.symm c468])
            · exact absurd f521 (by simp)
            · exact absurd f522 (by simp)
            · refine go_aload (pc' := 286) (hb hby at_284) rfl rfl rfl ?_
              refine go_acF (pc' := 289) (hb hby at_286) rfl rfl rfl (XT.aa_ne_f rfl) ?_
              refine go_iconst (pc' := 290) (v := 1) (hb hby at_289) rfl rfl ?_
              refine go_goto (pc' := 294) (hb hby at_290) (by decide) rfl ?_
              have K526 : Keep h0 h499 [] := (K513.ext X502)
              have K527 : Keep h0 h514 [] := (K526.trans K515 (allS (Or.inr (Nat.le_trans K513.1 (Nat.le_of_eq g501))) all0))
              have K528 : Keep h0 h518 [] := (K527.trans K519 all0)
              refine go_ireturn hret hlk rfl (by simp) (hb hby at_294) (by decide) (by decide) ⟨_, rfl, rfl⟩ K528
        · rw [q183]
          refine go_istore (pc' := 130) (ls' := #[.val (.int x0), .val (.int x1), .val (.int x2), .val (.int x3), .val (.int ((x0 &&& (2147483647 : Int32)) % (3 : Int32))), .val (.ref a3), .val (.ref (s_WITHHOLD Z)), .val (.int (8 : Int32)), .val (.int (x3 &&& (255 : Int32))), .val (.int (1 : Int32)), .val (.int (x1 &&& (3 : Int32))), .unset, .unset, .val (.ref r172), .val (.int (5 : Int32))]) (hb hby at_128) rfl rfl ?_
          refine go_aload (pc' := 132) (hb hby at_130) rfl rfl rfl ?_
          refine go_iload (pc' := 134) (hb hby at_132) rfl rfl ?_
          refine go_iload (pc' := 136) (hb hby at_134) rfl rfl ?_
          refine go_stC (pc' := 137) (i := 5) (x' := (x3 &&& (255 : Int32))) (vs' := [(.int (119 : Int32)), (.int (105 : Int32)), (.int (116 : Int32)), (.int (104 : Int32)), (.int (104 : Int32)), (.int (x3 &&& (255 : Int32))), (.int (108 : Int32)), (.int (100 : Int32))]) f182 (Nat.le_trans O0.2.1 (Nat.le_trans K176.1 f174)) (by decide) (by decide) rfl (Nat.le_of_ble_eq_true rfl) (i2c_mask _) rfl (hb hby at_136) rfl (fun h529 W530 A531 => ?_)
          refine go_iload (pc' := 139) (hb hby at_137) rfl rfl ?_
          refine go_aload (pc' := 141) (hb hby at_139) rfl rfl rfl ?_
          refine go_iload (pc' := 143) (hb hby at_141) rfl rfl ?_
          have K532 : Keep h2 h180 [] := (K177.trans K181 (allS (Or.inr f174) all0))
          have K533 : Keep h2 h529 [] := (K532.wr W530 (Or.inr f174))
          have S534 := (S11.keep K533)
          refine go_old (fun O535 => ?_)
          have E536 := (E7.keep K533)
          refine callV0 (cells' := 3) (slots' := 44) (Wd := 1) (argsL := [(.int (5 : Int32))]) (rest := [(.int (x3 &&& (255 : Int32)))]) (pay_chr G O535 (i := 5) (c := (111 : Int32)) S534 rfl (Nat.le_of_ble_eq_true rfl) rfl (by decide) (by decide)) E536 (wk G 73 rfl) (wk G 74 rfl) (wk G 76 rfl) (wk G 76 rfl) (wk G 75 rfl) (by decide) pd5 rfl rfl (by rw [hml]; rfl) (Nat.le_of_ble_eq_true rfl) rfl rfl (by decide) (by decide) all0 (fun _ _ => sf0) (hb hby at_143) (k_v (pc' := 146) rfl ?_)
          rintro _ _ ⟨rfl, rfl⟩ -
          by_cases c537 : (x3 &&& (255 : Int32)) = (111 : Int32)
          · refine go_icF (pc' := 149) (hb hby at_146) rfl (XT.ii_ne_f c537) ?_
            refine go_aload (pc' := 151) (hb hby at_149) rfl rfl rfl ?_
            refine go_goto (pc' := 155) (hb hby at_151) (by decide) rfl ?_
            refine go_astore (pc' := 157) (ls' := #[.val (.int x0), .val (.int x1), .val (.int x2), .val (.int x3), .val (.int ((x0 &&& (2147483647 : Int32)) % (3 : Int32))), .val (.ref a3), .val (.ref (s_WITHHOLD Z)), .val (.int (8 : Int32)), .val (.int (x3 &&& (255 : Int32))), .val (.int (1 : Int32)), .val (.int (x1 &&& (3 : Int32))), .unset, .val (.ref (s_WITHHOLD Z)), .val (.ref r172), .val (.int (5 : Int32))]) (hb hby at_155) rfl rfl rfl ?_
            refine go_goto (pc' := 164) (hb hby at_157) (by decide) rfl ?_
            refine go_newO (pc' := 167) (cells' := 4) (slots' := 48) (wk G 94 rfl) (wk G 3 rfl) (wk G 2 rfl) (hb hby at_164) rfl rfl rfl (by decide) (by decide) (fun h538 a539 g540 X541 E542 D543 U544 => ?_)
            refine go_dup (pc' := 168) (hb hby at_167) rfl rfl ?_
            refine go_aload (pc' := 170) (hb hby at_168) rfl rfl rfl ?_
            have F545 := D543 (Or.inr (wk G 5 rfl)) (ty := (.array .byte)) (by decide)
            have F546 := D543 (Or.inr (wk G 6 rfl)) (ty := .byte) (by decide)
            have K547 : Keep h529 h538 [] := ((Keep.refl h529 []).ext X541)
            have A548 := (A531.keep K547 nin0)
            refine go_old (fun O549 => ?_)
            have K550 : Keep h0 h170 [] := (K176.trans K171 all0)
            have K551 : Keep h0 h180 [] := (K550.trans K181 (allS (Or.inr (Nat.le_trans K176.1 f174)) all0))
            have K552 : Keep h0 h529 [] := (K551.wr W530 (Or.inr (Nat.le_trans K176.1 f174)))
            refine callI0 (cells' := 5) (slots' := 56) (Wd := 1) (argsL := [(.ref r172)]) (rest := [(.ref a539)]) (pay_new G O549 (cs := [(119 : Int32), (105 : Int32), (116 : Int32), (104 : Int32), (104 : Int32), (x3 &&& (255 : Int32)), (108 : Int32), (100 : Int32)]) (n := 8) (Nat.le_trans O0.2.1 (Nat.le_trans K552.1 (Nat.le_of_eq g540))) E542 F545 F546 A548 rfl rfl (by decide) (by decide) (c8c (by decide) (c8c (by decide) (c8c (by decide) (c8c (by decide) (c8c (by decide) (c8c (c8_m _) (c8c (by decide) (c8c (by decide) c8n)))))))) (by decide) (by decide)) rfl (wk G 95 rfl) (wk G 96 rfl) (wk G 97 rfl) (by decide) pd8 rfl rfl (by rw [hml]; rfl) (Nat.le_of_ble_eq_true rfl) rfl rfl (by decide) (by decide) (allS (Nat.le_trans O0.2.1 (Nat.le_trans K552.1 (Nat.le_of_eq g540))) all0) (fun _ hal => (sfS (safe_null hal E542 F545) sf0)) (hb hby at_170) (k_n (pc' := 173) rfl ?_)
            rintro h553 S555 K554
            refine go_astore (pc' := 175) (ls' := #[.val (.int x0), .val (.int x1), .val (.int x2), .val (.int x3), .val (.int ((x0 &&& (2147483647 : Int32)) % (3 : Int32))), .val (.ref a3), .val (.ref (s_WITHHOLD Z)), .val (.int (8 : Int32)), .val (.int (x3 &&& (255 : Int32))), .val (.int (1 : Int32)), .val (.int (x1 &&& (3 : Int32))), .val (.ref a539), .val (.ref (s_WITHHOLD Z)), .val (.ref r172), .val (.int (5 : Int32))]) (hb hby at_173) rfl rfl rfl ?_
            refine go_goto (pc' := 279) (hb hby at_175) (by decide) rfl ?_
            refine go_aload (pc' := 281) (hb hby at_279) rfl rfl rfl ?_
            refine go_old (fun O556 => ?_)
            refine callS0 (cells' := 6) (slots' := 59) (Wd := 0) (argsL := [(.ref a539)]) (rest := []) (pay_of (a0 := a0) (c_of l G a539 [(119 : Int32), (105 : Int32), (116 : Int32), (104 : Int32), (104 : Int32), (x3 &&& (255 : Int32)), (108 : Int32), (100 : Int32)] h553 O556 S555) (wk G 28 rfl) (wk G 10 rfl) (by decide) (by decide)) (wk G 26 rfl) (wk G 27 rfl) (wk G 10 rfl) (wk G 28 rfl) (by decide) pd9 rfl rfl (by rw [hml]; rfl) (Nat.le_of_ble_eq_true rfl) rfl rfl (by decide) (by decide) all0 (fun _ _ => sf0) (hb hby at_281) (k_v (pc' := 284) rfl ?_)
            rintro _ h557 (⟨rfl, f559⟩ | ⟨rfl, f560⟩ | ⟨rfl, f561⟩ | ⟨rfl, f562, f563, f564⟩) K558
            · refine go_aload (pc' := 286) (hb hby at_284) rfl rfl rfl ?_
              refine go_acF (pc' := 289) (hb hby at_286) rfl rfl rfl (XT.aa_ne_f rfl) ?_
              refine go_iconst (pc' := 290) (v := 1) (hb hby at_289) rfl rfl ?_
              refine go_goto (pc' := 294) (hb hby at_290) (by decide) rfl ?_
              have K565 : Keep h0 h538 [] := (K552.ext X541)
              have K566 : Keep h0 h553 [] := (K565.trans K554 (allS (Or.inr (Nat.le_trans K552.1 (Nat.le_of_eq g540))) all0))
              have K567 : Keep h0 h557 [] := (K566.trans K558 all0)
              refine go_ireturn hret hlk rfl (by simp) (hb hby at_294) (by decide) (by decide) ⟨_, rfl, rfl⟩ K567
            · exact absurd f560 (by simp)
            · exact absurd f561 (by simp)
            · exact absurd (by simp [c537]) f562
          · refine go_icT (pc' := 154) (hb hby at_146) (by decide) rfl (XT.ii_ne_t c537) ?_
            refine go_aconst_null (pc' := 155) (hb hby at_154) rfl ?_
            refine go_astore (pc' := 157) (ls' := #[.val (.int x0), .val (.int x1), .val (.int x2), .val (.int x3), .val (.int ((x0 &&& (2147483647 : Int32)) % (3 : Int32))), .val (.ref a3), .val (.ref (s_WITHHOLD Z)), .val (.int (8 : Int32)), .val (.int (x3 &&& (255 : Int32))), .val (.int (1 : Int32)), .val (.int (x1 &&& (3 : Int32))), .unset, .val .null, .val (.ref r172), .val (.int (5 : Int32))]) (hb hby at_155) rfl rfl rfl ?_
            refine go_goto (pc' := 164) (hb hby at_157) (by decide) rfl ?_
            refine go_newO (pc' := 167) (cells' := 4) (slots' := 48) (wk G 94 rfl) (wk G 3 rfl) (wk G 2 rfl) (hb hby at_164) rfl rfl rfl (by decide) (by decide) (fun h568 a569 g570 X571 E572 D573 U574 => ?_)
            refine go_dup (pc' := 168) (hb hby at_167) rfl rfl ?_
            refine go_aload (pc' := 170) (hb hby at_168) rfl rfl rfl ?_
            have F575 := D573 (Or.inr (wk G 5 rfl)) (ty := (.array .byte)) (by decide)
            have F576 := D573 (Or.inr (wk G 6 rfl)) (ty := .byte) (by decide)
            have K577 : Keep h529 h568 [] := ((Keep.refl h529 []).ext X571)
            have A578 := (A531.keep K577 nin0)
            refine go_old (fun O579 => ?_)
            have K580 : Keep h0 h170 [] := (K176.trans K171 all0)
            have K581 : Keep h0 h180 [] := (K580.trans K181 (allS (Or.inr (Nat.le_trans K176.1 f174)) all0))
            have K582 : Keep h0 h529 [] := (K581.wr W530 (Or.inr (Nat.le_trans K176.1 f174)))
            refine callI0 (cells' := 5) (slots' := 56) (Wd := 1) (argsL := [(.ref r172)]) (rest := [(.ref a569)]) (pay_new G O579 (cs := [(119 : Int32), (105 : Int32), (116 : Int32), (104 : Int32), (104 : Int32), (x3 &&& (255 : Int32)), (108 : Int32), (100 : Int32)]) (n := 8) (Nat.le_trans O0.2.1 (Nat.le_trans K582.1 (Nat.le_of_eq g570))) E572 F575 F576 A578 rfl rfl (by decide) (by decide) (c8c (by decide) (c8c (by decide) (c8c (by decide) (c8c (by decide) (c8c (by decide) (c8c (c8_m _) (c8c (by decide) (c8c (by decide) c8n)))))))) (by decide) (by decide)) rfl (wk G 95 rfl) (wk G 96 rfl) (wk G 97 rfl) (by decide) pd8 rfl rfl (by rw [hml]; rfl) (Nat.le_of_ble_eq_true rfl) rfl rfl (by decide) (by decide) (allS (Nat.le_trans O0.2.1 (Nat.le_trans K582.1 (Nat.le_of_eq g570))) all0) (fun _ hal => (sfS (safe_null hal E572 F575) sf0)) (hb hby at_170) (k_n (pc' := 173) rfl ?_)
            rintro h583 S585 K584
            refine go_astore (pc' := 175) (ls' := #[.val (.int x0), .val (.int x1), .val (.int x2), .val (.int x3), .val (.int ((x0 &&& (2147483647 : Int32)) % (3 : Int32))), .val (.ref a3), .val (.ref (s_WITHHOLD Z)), .val (.int (8 : Int32)), .val (.int (x3 &&& (255 : Int32))), .val (.int (1 : Int32)), .val (.int (x1 &&& (3 : Int32))), .val (.ref a569), .val .null, .val (.ref r172), .val (.int (5 : Int32))]) (hb hby at_173) rfl rfl rfl ?_
            refine go_goto (pc' := 279) (hb hby at_175) (by decide) rfl ?_
            refine go_aload (pc' := 281) (hb hby at_279) rfl rfl rfl ?_
            refine go_old (fun O586 => ?_)
            refine callS0 (cells' := 6) (slots' := 59) (Wd := 0) (argsL := [(.ref a569)]) (rest := []) (pay_of (a0 := a0) (c_of l G a569 [(119 : Int32), (105 : Int32), (116 : Int32), (104 : Int32), (104 : Int32), (x3 &&& (255 : Int32)), (108 : Int32), (100 : Int32)] h583 O586 S585) (wk G 28 rfl) (wk G 10 rfl) (by decide) (by decide)) (wk G 26 rfl) (wk G 27 rfl) (wk G 10 rfl) (wk G 28 rfl) (by decide) pd9 rfl rfl (by rw [hml]; rfl) (Nat.le_of_ble_eq_true rfl) rfl rfl (by decide) (by decide) all0 (fun _ _ => sf0) (hb hby at_281) (k_v (pc' := 284) rfl ?_)
            rintro _ h587 (⟨rfl, f589⟩ | ⟨rfl, f590⟩ | ⟨rfl, f591⟩ | ⟨rfl, f592, f593, f594⟩) K588
            · exact absurd f589 (by simp [Ne.symm c537])
            · exact absurd f590 (by simp)
            · exact absurd f591 (by simp)
            · refine go_aload (pc' := 286) (hb hby at_284) rfl rfl rfl ?_
              refine go_acF (pc' := 289) (hb hby at_286) rfl rfl rfl (XT.aa_ne_f rfl) ?_
              refine go_iconst (pc' := 290) (v := 1) (hb hby at_289) rfl rfl ?_
              refine go_goto (pc' := 294) (hb hby at_290) (by decide) rfl ?_
              have K595 : Keep h0 h568 [] := (K582.ext X571)
              have K596 : Keep h0 h583 [] := (K595.trans K584 (allS (Or.inr (Nat.le_trans K582.1 (Nat.le_of_eq g570))) all0))
              have K597 : Keep h0 h587 [] := (K596.trans K588 all0)
              refine go_ireturn hret hlk rfl (by simp) (hb hby at_294) (by decide) (by decide) ⟨_, rfl, rfl⟩ K597
        · rw [q183]
          refine go_istore (pc' := 130) (ls' := #[.val (.int x0), .val (.int x1), .val (.int x2), .val (.int x3), .val (.int ((x0 &&& (2147483647 : Int32)) % (3 : Int32))), .val (.ref a3), .val (.ref (s_WITHHOLD Z)), .val (.int (8 : Int32)), .val (.int (x3 &&& (255 : Int32))), .val (.int (1 : Int32)), .val (.int (x1 &&& (3 : Int32))), .unset, .unset, .val (.ref r172), .val (.int (6 : Int32))]) (hb hby at_128) rfl rfl ?_
          refine go_aload (pc' := 132) (hb hby at_130) rfl rfl rfl ?_
          refine go_iload (pc' := 134) (hb hby at_132) rfl rfl ?_
          refine go_iload (pc' := 136) (hb hby at_134) rfl rfl ?_
          refine go_stC (pc' := 137) (i := 6) (x' := (x3 &&& (255 : Int32))) (vs' := [(.int (119 : Int32)), (.int (105 : Int32)), (.int (116 : Int32)), (.int (104 : Int32)), (.int (104 : Int32)), (.int (111 : Int32)), (.int (x3 &&& (255 : Int32))), (.int (100 : Int32))]) f182 (Nat.le_trans O0.2.1 (Nat.le_trans K176.1 f174)) (by decide) (by decide) rfl (Nat.le_of_ble_eq_true rfl) (i2c_mask _) rfl (hb hby at_136) rfl (fun h598 W599 A600 => ?_)
          refine go_iload (pc' := 139) (hb hby at_137) rfl rfl ?_
          refine go_aload (pc' := 141) (hb hby at_139) rfl rfl rfl ?_
          refine go_iload (pc' := 143) (hb hby at_141) rfl rfl ?_
          have K601 : Keep h2 h180 [] := (K177.trans K181 (allS (Or.inr f174) all0))
          have K602 : Keep h2 h598 [] := (K601.wr W599 (Or.inr f174))
          have S603 := (S11.keep K602)
          refine go_old (fun O604 => ?_)
          have E605 := (E7.keep K602)
          refine callV0 (cells' := 3) (slots' := 44) (Wd := 1) (argsL := [(.int (6 : Int32))]) (rest := [(.int (x3 &&& (255 : Int32)))]) (pay_chr G O604 (i := 6) (c := (108 : Int32)) S603 rfl (Nat.le_of_ble_eq_true rfl) rfl (by decide) (by decide)) E605 (wk G 73 rfl) (wk G 74 rfl) (wk G 76 rfl) (wk G 76 rfl) (wk G 75 rfl) (by decide) pd5 rfl rfl (by rw [hml]; rfl) (Nat.le_of_ble_eq_true rfl) rfl rfl (by decide) (by decide) all0 (fun _ _ => sf0) (hb hby at_143) (k_v (pc' := 146) rfl ?_)
          rintro _ _ ⟨rfl, rfl⟩ -
          by_cases c606 : (x3 &&& (255 : Int32)) = (108 : Int32)
          · refine go_icF (pc' := 149) (hb hby at_146) rfl (XT.ii_ne_f c606) ?_
            refine go_aload (pc' := 151) (hb hby at_149) rfl rfl rfl ?_
            refine go_goto (pc' := 155) (hb hby at_151) (by decide) rfl ?_
            refine go_astore (pc' := 157) (ls' := #[.val (.int x0), .val (.int x1), .val (.int x2), .val (.int x3), .val (.int ((x0 &&& (2147483647 : Int32)) % (3 : Int32))), .val (.ref a3), .val (.ref (s_WITHHOLD Z)), .val (.int (8 : Int32)), .val (.int (x3 &&& (255 : Int32))), .val (.int (1 : Int32)), .val (.int (x1 &&& (3 : Int32))), .unset, .val (.ref (s_WITHHOLD Z)), .val (.ref r172), .val (.int (6 : Int32))]) (hb hby at_155) rfl rfl rfl ?_
            refine go_goto (pc' := 164) (hb hby at_157) (by decide) rfl ?_
            refine go_newO (pc' := 167) (cells' := 4) (slots' := 48) (wk G 94 rfl) (wk G 3 rfl) (wk G 2 rfl) (hb hby at_164) rfl rfl rfl (by decide) (by decide) (fun h607 a608 g609 X610 E611 D612 U613 => ?_)
            refine go_dup (pc' := 168) (hb hby at_167) rfl rfl ?_
            refine go_aload (pc' := 170) (hb hby at_168) rfl rfl rfl ?_
            have F614 := D612 (Or.inr (wk G 5 rfl)) (ty := (.array .byte)) (by decide)
            have F615 := D612 (Or.inr (wk G 6 rfl)) (ty := .byte) (by decide)
            have K616 : Keep h598 h607 [] := ((Keep.refl h598 []).ext X610)
            have A617 := (A600.keep K616 nin0)
            refine go_old (fun O618 => ?_)
            have K619 : Keep h0 h170 [] := (K176.trans K171 all0)
            have K620 : Keep h0 h180 [] := (K619.trans K181 (allS (Or.inr (Nat.le_trans K176.1 f174)) all0))
            have K621 : Keep h0 h598 [] := (K620.wr W599 (Or.inr (Nat.le_trans K176.1 f174)))
            refine callI0 (cells' := 5) (slots' := 56) (Wd := 1) (argsL := [(.ref r172)]) (rest := [(.ref a608)]) (pay_new G O618 (cs := [(119 : Int32), (105 : Int32), (116 : Int32), (104 : Int32), (104 : Int32), (111 : Int32), (x3 &&& (255 : Int32)), (100 : Int32)]) (n := 8) (Nat.le_trans O0.2.1 (Nat.le_trans K621.1 (Nat.le_of_eq g609))) E611 F614 F615 A617 rfl rfl (by decide) (by decide) (c8c (by decide) (c8c (by decide) (c8c (by decide) (c8c (by decide) (c8c (by decide) (c8c (by decide) (c8c (c8_m _) (c8c (by decide) c8n)))))))) (by decide) (by decide)) rfl (wk G 95 rfl) (wk G 96 rfl) (wk G 97 rfl) (by decide) pd8 rfl rfl (by rw [hml]; rfl) (Nat.le_of_ble_eq_true rfl) rfl rfl (by decide) (by decide) (allS (Nat.le_trans O0.2.1 (Nat.le_trans K621.1 (Nat.le_of_eq g609))) all0) (fun _ hal => (sfS (safe_null hal E611 F614) sf0)) (hb hby at_170) (k_n (pc' := 173) rfl ?_)
            rintro h622 S624 K623
            refine go_astore (pc' := 175) (ls' := #[.val (.int x0), .val (.int x1), .val (.int x2), .val (.int x3), .val (.int ((x0 &&& (2147483647 : Int32)) % (3 : Int32))), .val (.ref a3), .val (.ref (s_WITHHOLD Z)), .val (.int (8 : Int32)), .val (.int (x3 &&& (255 : Int32))), .val (.int (1 : Int32)), .val (.int (x1 &&& (3 : Int32))), .val (.ref a608), .val (.ref (s_WITHHOLD Z)), .val (.ref r172), .val (.int (6 : Int32))]) (hb hby at_173) rfl rfl rfl ?_
            refine go_goto (pc' := 279) (hb hby at_175) (by decide) rfl ?_
            refine go_aload (pc' := 281) (hb hby at_279) rfl rfl rfl ?_
            refine go_old (fun O625 => ?_)
            refine callS0 (cells' := 6) (slots' := 59) (Wd := 0) (argsL := [(.ref a608)]) (rest := []) (pay_of (a0 := a0) (c_of l G a608 [(119 : Int32), (105 : Int32), (116 : Int32), (104 : Int32), (104 : Int32), (111 : Int32), (x3 &&& (255 : Int32)), (100 : Int32)] h622 O625 S624) (wk G 28 rfl) (wk G 10 rfl) (by decide) (by decide)) (wk G 26 rfl) (wk G 27 rfl) (wk G 10 rfl) (wk G 28 rfl) (by decide) pd9 rfl rfl (by rw [hml]; rfl) (Nat.le_of_ble_eq_true rfl) rfl rfl (by decide) (by decide) all0 (fun _ _ => sf0) (hb hby at_281) (k_v (pc' := 284) rfl ?_)
            rintro _ h626 (⟨rfl, f628⟩ | ⟨rfl, f629⟩ | ⟨rfl, f630⟩ | ⟨rfl, f631, f632, f633⟩) K627
            · refine go_aload (pc' := 286) (hb hby at_284) rfl rfl rfl ?_
              refine go_acF (pc' := 289) (hb hby at_286) rfl rfl rfl (XT.aa_ne_f rfl) ?_
              refine go_iconst (pc' := 290) (v := 1) (hb hby at_289) rfl rfl ?_
              refine go_goto (pc' := 294) (hb hby at_290) (by decide) rfl ?_
              have K634 : Keep h0 h607 [] := (K621.ext X610)
              have K635 : Keep h0 h622 [] := (K634.trans K623 (allS (Or.inr (Nat.le_trans K621.1 (Nat.le_of_eq g609))) all0))
              have K636 : Keep h0 h626 [] := (K635.trans K627 all0)
              refine go_ireturn hret hlk rfl (by simp) (hb hby at_294) (by decide) (by decide) ⟨_, rfl, rfl⟩ K636
            · exact absurd f629 (by simp)
            · exact absurd f630 (by simp)
            · exact absurd (by simp [c606]) f631
          · refine go_icT (pc' := 154) (hb hby at_146) (by decide) rfl (XT.ii_ne_t c606) ?_
            refine go_aconst_null (pc' := 155) (hb hby at_154) rfl ?_
            refine go_astore (pc' := 157) (ls' := #[.val (.int x0), .val (.int x1), .val (.int x2), .val (.int x3), .val (.int ((x0 &&& (2147483647 : Int32)) % (3 : Int32))), .val (.ref a3), .val (.ref (s_WITHHOLD Z)), .val (.int (8 : Int32)), .val (.int (x3 &&& (255 : Int32))), .val (.int (1 : Int32)), .val (.int (x1 &&& (3 : Int32))), .unset, .val .null, .val (.ref r172), .val (.int (6 : Int32))]) (hb hby at_155) rfl rfl rfl ?_
            refine go_goto (pc' := 164) (hb hby at_157) (by decide) rfl ?_
            refine go_newO (pc' := 167) (cells' := 4) (slots' := 48) (wk G 94 rfl) (wk G 3 rfl) (wk G 2 rfl) (hb hby at_164) rfl rfl rfl (by decide) (by decide) (fun h637 a638 g639 X640 E641 D642 U643 => ?_)
            refine go_dup (pc' := 168) (hb hby at_167) rfl rfl ?_
            refine go_aload (pc' := 170) (hb hby at_168) rfl rfl rfl ?_
            have F644 := D642 (Or.inr (wk G 5 rfl)) (ty := (.array .byte)) (by decide)
            have F645 := D642 (Or.inr (wk G 6 rfl)) (ty := .byte) (by decide)
            have K646 : Keep h598 h637 [] := ((Keep.refl h598 []).ext X640)
            have A647 := (A600.keep K646 nin0)
            refine go_old (fun O648 => ?_)
            have K649 : Keep h0 h170 [] := (K176.trans K171 all0)
            have K650 : Keep h0 h180 [] := (K649.trans K181 (allS (Or.inr (Nat.le_trans K176.1 f174)) all0))
            have K651 : Keep h0 h598 [] := (K650.wr W599 (Or.inr (Nat.le_trans K176.1 f174)))
            refine callI0 (cells' := 5) (slots' := 56) (Wd := 1) (argsL := [(.ref r172)]) (rest := [(.ref a638)]) (pay_new G O648 (cs := [(119 : Int32), (105 : Int32), (116 : Int32), (104 : Int32), (104 : Int32), (111 : Int32), (x3 &&& (255 : Int32)), (100 : Int32)]) (n := 8) (Nat.le_trans O0.2.1 (Nat.le_trans K651.1 (Nat.le_of_eq g639))) E641 F644 F645 A647 rfl rfl (by decide) (by decide) (c8c (by decide) (c8c (by decide) (c8c (by decide) (c8c (by decide) (c8c (by decide) (c8c (by decide) (c8c (c8_m _) (c8c (by decide) c8n)))))))) (by decide) (by decide)) rfl (wk G 95 rfl) (wk G 96 rfl) (wk G 97 rfl) (by decide) pd8 rfl rfl (by rw [hml]; rfl) (Nat.le_of_ble_eq_true rfl) rfl rfl (by decide) (by decide) (allS (Nat.le_trans O0.2.1 (Nat.le_trans K651.1 (Nat.le_of_eq g639))) all0) (fun _ hal => (sfS (safe_null hal E641 F644) sf0)) (hb hby at_170) (k_n (pc' := 173) rfl ?_)
            rintro h652 S654 K653
            refine go_astore (pc' := 175) (ls' := #[.val (.int x0), .val (.int x1), .val (.int x2), .val (.int x3), .val (.int ((x0 &&& (2147483647 : Int32)) % (3 : Int32))), .val (.ref a3), .val (.ref (s_WITHHOLD Z)), .val (.int (8 : Int32)), .val (.int (x3 &&& (255 : Int32))), .val (.int (1 : Int32)), .val (.int (x1 &&& (3 : Int32))), .val (.ref a638), .val .null, .val (.ref r172), .val (.int (6 : Int32))]) (hb hby at_173) rfl rfl rfl ?_
            refine go_goto (pc' := 279) (hb hby at_175) (by decide) rfl ?_
            refine go_aload (pc' := 281) (hb hby at_279) rfl rfl rfl ?_
            refine go_old (fun O655 => ?_)
            refine callS0 (cells' := 6) (slots' := 59) (Wd := 0) (argsL := [(.ref a638)]) (rest := []) (pay_of (a0 := a0) (c_of l G a638 [(119 : Int32), (105 : Int32), (116 : Int32), (104 : Int32), (104 : Int32), (111 : Int32), (x3 &&& (255 : Int32)), (100 : Int32)] h652 O655 S654) (wk G 28 rfl) (wk G 10 rfl) (by decide) (by decide)) (wk G 26 rfl) (wk G 27 rfl) (wk G 10 rfl) (wk G 28 rfl) (by decide) pd9 rfl rfl (by rw [hml]; rfl) (Nat.le_of_ble_eq_true rfl) rfl rfl (by decide) (by decide) all0 (fun _ _ => sf0) (hb hby at_281) (k_v (pc' := 284) rfl ?_)
            rintro _ h656 (⟨rfl, f658⟩ | ⟨rfl, f659⟩ | ⟨rfl, f660⟩ | ⟨rfl, f661, f662, f663⟩) K657
            · exact absurd f658 (by simp [Ne.symm c606])
            · exact absurd f659 (by simp)
            · exact absurd f660 (by simp)
            · refine go_aload (pc' := 286) (hb hby at_284) rfl rfl rfl ?_
              refine go_acF (pc' := 289) (hb hby at_286) rfl rfl rfl (XT.aa_ne_f rfl) ?_
              refine go_iconst (pc' := 290) (v := 1) (hb hby at_289) rfl rfl ?_
              refine go_goto (pc' := 294) (hb hby at_290) (by decide) rfl ?_
              have K664 : Keep h0 h637 [] := (K651.ext X640)
              have K665 : Keep h0 h652 [] := (K664.trans K653 (allS (Or.inr (Nat.le_trans K651.1 (Nat.le_of_eq g639))) all0))
              have K666 : Keep h0 h656 [] := (K665.trans K657 all0)
              refine go_ireturn hret hlk rfl (by simp) (hb hby at_294) (by decide) (by decide) ⟨_, rfl, rfl⟩ K666
        · rw [q183]
          refine go_istore (pc' := 130) (ls' := #[.val (.int x0), .val (.int x1), .val (.int x2), .val (.int x3), .val (.int ((x0 &&& (2147483647 : Int32)) % (3 : Int32))), .val (.ref a3), .val (.ref (s_WITHHOLD Z)), .val (.int (8 : Int32)), .val (.int (x3 &&& (255 : Int32))), .val (.int (1 : Int32)), .val (.int (x1 &&& (3 : Int32))), .unset, .unset, .val (.ref r172), .val (.int (7 : Int32))]) (hb hby at_128) rfl rfl ?_
          refine go_aload (pc' := 132) (hb hby at_130) rfl rfl rfl ?_
          refine go_iload (pc' := 134) (hb hby at_132) rfl rfl ?_
          refine go_iload (pc' := 136) (hb hby at_134) rfl rfl ?_
          refine go_stC (pc' := 137) (i := 7) (x' := (x3 &&& (255 : Int32))) (vs' := [(.int (119 : Int32)), (.int (105 : Int32)), (.int (116 : Int32)), (.int (104 : Int32)), (.int (104 : Int32)), (.int (111 : Int32)), (.int (108 : Int32)), (.int (x3 &&& (255 : Int32)))]) f182 (Nat.le_trans O0.2.1 (Nat.le_trans K176.1 f174)) (by decide) (by decide) rfl (Nat.le_of_ble_eq_true rfl) (i2c_mask _) rfl (hb hby at_136) rfl (fun h667 W668 A669 => ?_)
          refine go_iload (pc' := 139) (hb hby at_137) rfl rfl ?_
          refine go_aload (pc' := 141) (hb hby at_139) rfl rfl rfl ?_
          refine go_iload (pc' := 143) (hb hby at_141) rfl rfl ?_
          have K670 : Keep h2 h180 [] := (K177.trans K181 (allS (Or.inr f174) all0))
          have K671 : Keep h2 h667 [] := (K670.wr W668 (Or.inr f174))
          have S672 := (S11.keep K671)
          refine go_old (fun O673 => ?_)
          have E674 := (E7.keep K671)
          refine callV0 (cells' := 3) (slots' := 44) (Wd := 1) (argsL := [(.int (7 : Int32))]) (rest := [(.int (x3 &&& (255 : Int32)))]) (pay_chr G O673 (i := 7) (c := (100 : Int32)) S672 rfl (Nat.le_of_ble_eq_true rfl) rfl (by decide) (by decide)) E674 (wk G 73 rfl) (wk G 74 rfl) (wk G 76 rfl) (wk G 76 rfl) (wk G 75 rfl) (by decide) pd5 rfl rfl (by rw [hml]; rfl) (Nat.le_of_ble_eq_true rfl) rfl rfl (by decide) (by decide) all0 (fun _ _ => sf0) (hb hby at_143) (k_v (pc' := 146) rfl ?_)
          rintro _ _ ⟨rfl, rfl⟩ -
          by_cases c675 : (x3 &&& (255 : Int32)) = (100 : Int32)
          · refine go_icF (pc' := 149) (hb hby at_146) rfl (XT.ii_ne_f c675) ?_
            refine go_aload (pc' := 151) (hb hby at_149) rfl rfl rfl ?_
            refine go_goto (pc' := 155) (hb hby at_151) (by decide) rfl ?_
            refine go_astore (pc' := 157) (ls' := #[.val (.int x0), .val (.int x1), .val (.int x2), .val (.int x3), .val (.int ((x0 &&& (2147483647 : Int32)) % (3 : Int32))), .val (.ref a3), .val (.ref (s_WITHHOLD Z)), .val (.int (8 : Int32)), .val (.int (x3 &&& (255 : Int32))), .val (.int (1 : Int32)), .val (.int (x1 &&& (3 : Int32))), .unset, .val (.ref (s_WITHHOLD Z)), .val (.ref r172), .val (.int (7 : Int32))]) (hb hby at_155) rfl rfl rfl ?_
            refine go_goto (pc' := 164) (hb hby at_157) (by decide) rfl ?_
            refine go_newO (pc' := 167) (cells' := 4) (slots' := 48) (wk G 94 rfl) (wk G 3 rfl) (wk G 2 rfl) (hb hby at_164) rfl rfl rfl (by decide) (by decide) (fun h676 a677 g678 X679 E680 D681 U682 => ?_)
            refine go_dup (pc' := 168) (hb hby at_167) rfl rfl ?_
            refine go_aload (pc' := 170) (hb hby at_168) rfl rfl rfl ?_
            have F683 := D681 (Or.inr (wk G 5 rfl)) (ty := (.array .byte)) (by decide)
            have F684 := D681 (Or.inr (wk G 6 rfl)) (ty := .byte) (by decide)
            have K685 : Keep h667 h676 [] := ((Keep.refl h667 []).ext X679)
            have A686 := (A669.keep K685 nin0)
            refine go_old (fun O687 => ?_)
            have K688 : Keep h0 h170 [] := (K176.trans K171 all0)
            have K689 : Keep h0 h180 [] := (K688.trans K181 (allS (Or.inr (Nat.le_trans K176.1 f174)) all0))
            have K690 : Keep h0 h667 [] := (K689.wr W668 (Or.inr (Nat.le_trans K176.1 f174)))
            refine callI0 (cells' := 5) (slots' := 56) (Wd := 1) (argsL := [(.ref r172)]) (rest := [(.ref a677)]) (pay_new G O687 (cs := [(119 : Int32), (105 : Int32), (116 : Int32), (104 : Int32), (104 : Int32), (111 : Int32), (108 : Int32), (x3 &&& (255 : Int32))]) (n := 8) (Nat.le_trans O0.2.1 (Nat.le_trans K690.1 (Nat.le_of_eq g678))) E680 F683 F684 A686 rfl rfl (by decide) (by decide) (c8c (by decide) (c8c (by decide) (c8c (by decide) (c8c (by decide) (c8c (by decide) (c8c (by decide) (c8c (by decide) (c8c (c8_m _) c8n)))))))) (by decide) (by decide)) rfl (wk G 95 rfl) (wk G 96 rfl) (wk G 97 rfl) (by decide) pd8 rfl rfl (by rw [hml]; rfl) (Nat.le_of_ble_eq_true rfl) rfl rfl (by decide) (by decide) (allS (Nat.le_trans O0.2.1 (Nat.le_trans K690.1 (Nat.le_of_eq g678))) all0) (fun _ hal => (sfS (safe_null hal E680 F683) sf0)) (hb hby at_170) (k_n (pc' := 173) rfl ?_)
            rintro h691 S693 K692
            refine go_astore (pc' := 175) (ls' := #[.val (.int x0), .val (.int x1), .val (.int x2), .val (.int x3), .val (.int ((x0 &&& (2147483647 : Int32)) % (3 : Int32))), .val (.ref a3), .val (.ref (s_WITHHOLD Z)), .val (.int (8 : Int32)), .val (.int (x3 &&& (255 : Int32))), .val (.int (1 : Int32)), .val (.int (x1 &&& (3 : Int32))), .val (.ref a677), .val (.ref (s_WITHHOLD Z)), .val (.ref r172), .val (.int (7 : Int32))]) (hb hby at_173) rfl rfl rfl ?_
            refine go_goto (pc' := 279) (hb hby at_175) (by decide) rfl ?_
            refine go_aload (pc' := 281) (hb hby at_279) rfl rfl rfl ?_
            refine go_old (fun O694 => ?_)
            refine callS0 (cells' := 6) (slots' := 59) (Wd := 0) (argsL := [(.ref a677)]) (rest := []) (pay_of (a0 := a0) (c_of l G a677 [(119 : Int32), (105 : Int32), (116 : Int32), (104 : Int32), (104 : Int32), (111 : Int32), (108 : Int32), (x3 &&& (255 : Int32))] h691 O694 S693) (wk G 28 rfl) (wk G 10 rfl) (by decide) (by decide)) (wk G 26 rfl) (wk G 27 rfl) (wk G 10 rfl) (wk G 28 rfl) (by decide) pd9 rfl rfl (by rw [hml]; rfl) (Nat.le_of_ble_eq_true rfl) rfl rfl (by decide) (by decide) all0 (fun _ _ => sf0) (hb hby at_281) (k_v (pc' := 284) rfl ?_)
            rintro _ h695 (⟨rfl, f697⟩ | ⟨rfl, f698⟩ | ⟨rfl, f699⟩ | ⟨rfl, f700, f701, f702⟩) K696
            · refine go_aload (pc' := 286) (hb hby at_284) rfl rfl rfl ?_
              refine go_acF (pc' := 289) (hb hby at_286) rfl rfl rfl (XT.aa_ne_f rfl) ?_
              refine go_iconst (pc' := 290) (v := 1) (hb hby at_289) rfl rfl ?_
              refine go_goto (pc' := 294) (hb hby at_290) (by decide) rfl ?_
              have K703 : Keep h0 h676 [] := (K690.ext X679)
              have K704 : Keep h0 h691 [] := (K703.trans K692 (allS (Or.inr (Nat.le_trans K690.1 (Nat.le_of_eq g678))) all0))
              have K705 : Keep h0 h695 [] := (K704.trans K696 all0)
              refine go_ireturn hret hlk rfl (by simp) (hb hby at_294) (by decide) (by decide) ⟨_, rfl, rfl⟩ K705
            · exact absurd f698 (by simp)
            · exact absurd f699 (by simp)
            · exact absurd (by simp [c675]) f700
          · refine go_icT (pc' := 154) (hb hby at_146) (by decide) rfl (XT.ii_ne_t c675) ?_
            refine go_aconst_null (pc' := 155) (hb hby at_154) rfl ?_
            refine go_astore (pc' := 157) (ls' := #[.val (.int x0), .val (.int x1), .val (.int x2), .val (.int x3), .val (.int ((x0 &&& (2147483647 : Int32)) % (3 : Int32))), .val (.ref a3), .val (.ref (s_WITHHOLD Z)), .val (.int (8 : Int32)), .val (.int (x3 &&& (255 : Int32))), .val (.int (1 : Int32)), .val (.int (x1 &&& (3 : Int32))), .unset, .val .null, .val (.ref r172), .val (.int (7 : Int32))]) (hb hby at_155) rfl rfl rfl ?_
            refine go_goto (pc' := 164) (hb hby at_157) (by decide) rfl ?_
            refine go_newO (pc' := 167) (cells' := 4) (slots' := 48) (wk G 94 rfl) (wk G 3 rfl) (wk G 2 rfl) (hb hby at_164) rfl rfl rfl (by decide) (by decide) (fun h706 a707 g708 X709 E710 D711 U712 => ?_)
            refine go_dup (pc' := 168) (hb hby at_167) rfl rfl ?_
            refine go_aload (pc' := 170) (hb hby at_168) rfl rfl rfl ?_
            have F713 := D711 (Or.inr (wk G 5 rfl)) (ty := (.array .byte)) (by decide)
            have F714 := D711 (Or.inr (wk G 6 rfl)) (ty := .byte) (by decide)
            have K715 : Keep h667 h706 [] := ((Keep.refl h667 []).ext X709)
            have A716 := (A669.keep K715 nin0)
            refine go_old (fun O717 => ?_)
            have K718 : Keep h0 h170 [] := (K176.trans K171 all0)
            have K719 : Keep h0 h180 [] := (K718.trans K181 (allS (Or.inr (Nat.le_trans K176.1 f174)) all0))
            have K720 : Keep h0 h667 [] := (K719.wr W668 (Or.inr (Nat.le_trans K176.1 f174)))
            refine callI0 (cells' := 5) (slots' := 56) (Wd := 1) (argsL := [(.ref r172)]) (rest := [(.ref a707)]) (pay_new G O717 (cs := [(119 : Int32), (105 : Int32), (116 : Int32), (104 : Int32), (104 : Int32), (111 : Int32), (108 : Int32), (x3 &&& (255 : Int32))]) (n := 8) (Nat.le_trans O0.2.1 (Nat.le_trans K720.1 (Nat.le_of_eq g708))) E710 F713 F714 A716 rfl rfl (by decide) (by decide) (c8c (by decide) (c8c (by decide) (c8c (by decide) (c8c (by decide) (c8c (by decide) (c8c (by decide) (c8c (by decide) (c8c (c8_m _) c8n)))))))) (by decide) (by decide)) rfl (wk G 95 rfl) (wk G 96 rfl) (wk G 97 rfl) (by decide) pd8 rfl rfl (by rw [hml]; rfl) (Nat.le_of_ble_eq_true rfl) rfl rfl (by decide) (by decide) (allS (Nat.le_trans O0.2.1 (Nat.le_trans K720.1 (Nat.le_of_eq g708))) all0) (fun _ hal => (sfS (safe_null hal E710 F713) sf0)) (hb hby at_170) (k_n (pc' := 173) rfl ?_)
            rintro h721 S723 K722
            refine go_astore (pc' := 175) (ls' := #[.val (.int x0), .val (.int x1), .val (.int x2), .val (.int x3), .val (.int ((x0 &&& (2147483647 : Int32)) % (3 : Int32))), .val (.ref a3), .val (.ref (s_WITHHOLD Z)), .val (.int (8 : Int32)), .val (.int (x3 &&& (255 : Int32))), .val (.int (1 : Int32)), .val (.int (x1 &&& (3 : Int32))), .val (.ref a707), .val .null, .val (.ref r172), .val (.int (7 : Int32))]) (hb hby at_173) rfl rfl rfl ?_
            refine go_goto (pc' := 279) (hb hby at_175) (by decide) rfl ?_
            refine go_aload (pc' := 281) (hb hby at_279) rfl rfl rfl ?_
            refine go_old (fun O724 => ?_)
            refine callS0 (cells' := 6) (slots' := 59) (Wd := 0) (argsL := [(.ref a707)]) (rest := []) (pay_of (a0 := a0) (c_of l G a707 [(119 : Int32), (105 : Int32), (116 : Int32), (104 : Int32), (104 : Int32), (111 : Int32), (108 : Int32), (x3 &&& (255 : Int32))] h721 O724 S723) (wk G 28 rfl) (wk G 10 rfl) (by decide) (by decide)) (wk G 26 rfl) (wk G 27 rfl) (wk G 10 rfl) (wk G 28 rfl) (by decide) pd9 rfl rfl (by rw [hml]; rfl) (Nat.le_of_ble_eq_true rfl) rfl rfl (by decide) (by decide) all0 (fun _ _ => sf0) (hb hby at_281) (k_v (pc' := 284) rfl ?_)
            rintro _ h725 (⟨rfl, f727⟩ | ⟨rfl, f728⟩ | ⟨rfl, f729⟩ | ⟨rfl, f730, f731, f732⟩) K726
            · exact absurd f727 (by simp [Ne.symm c675])
            · exact absurd f728 (by simp)
            · exact absurd f729 (by simp)
            · refine go_aload (pc' := 286) (hb hby at_284) rfl rfl rfl ?_
              refine go_acF (pc' := 289) (hb hby at_286) rfl rfl rfl (XT.aa_ne_f rfl) ?_
              refine go_iconst (pc' := 290) (v := 1) (hb hby at_289) rfl rfl ?_
              refine go_goto (pc' := 294) (hb hby at_290) (by decide) rfl ?_
              have K733 : Keep h0 h706 [] := (K720.ext X709)
              have K734 : Keep h0 h721 [] := (K733.trans K722 (allS (Or.inr (Nat.le_trans K720.1 (Nat.le_of_eq g708))) all0))
              have K735 : Keep h0 h725 [] := (K734.trans K726 all0)
              refine go_ireturn hret hlk rfl (by simp) (hb hby at_294) (by decide) (by decide) ⟨_, rfl, rfl⟩ K735
      · refine go_ifT (pc' := 178) (hb hby at_99) (by decide) rfl (XT.i0_ne_t c169) ?_
        refine go_iload (pc' := 180) (hb hby at_178) rfl rfl ?_
        refine go_iconst (pc' := 181) (v := 1) (hb hby at_180) rfl rfl ?_
        by_cases c736 : (x1 &&& (3 : Int32)) = (1 : Int32)
        · refine go_icF (pc' := 184) (hb hby at_181) rfl (XT.ii_ne_f c736) ?_
          refine go_iload (pc' := 186) (hb hby at_184) rfl rfl ?_
          refine go_iconst (pc' := 187) (v := 1) (hb hby at_186) rfl rfl ?_
          refine go_isub (pc' := 188) (z := (7 : Int32)) (hb hby at_187) rfl (by decide) ?_
          refine callS0 (cells' := 3) (slots' := 43) (Wd := 0) (argsL := [(.int (7 : Int32))]) (rest := []) (pay_of (a0 := a0) (c_sized7 l G  h2 O12 ) (wk G 64 rfl) (wk G 63 rfl) (by decide) (by decide)) (wk G 61 rfl) (wk G 62 rfl) (wk G 63 rfl) (wk G 64 rfl) (by decide) pd6 rfl rfl (by rw [hml]; rfl) (Nat.le_of_ble_eq_true rfl) rfl rfl (by decide) (by decide) all0 (fun _ _ => sf0) (hb hby at_188) (k_v (pc' := 191) rfl ?_)
          rintro _ h737 ⟨r739, r740, rfl, f741, f742⟩ K738
          refine go_astore (pc' := 193) (ls' := #[.val (.int x0), .val (.int x1), .val (.int x2), .val (.int x3), .val (.int ((x0 &&& (2147483647 : Int32)) % (3 : Int32))), .val (.ref a3), .val (.ref (s_WITHHOLD Z)), .val (.int (8 : Int32)), .val (.int (x3 &&& (255 : Int32))), .val (.int (1 : Int32)), .val (.int (x1 &&& (3 : Int32))), .unset, .unset, .val (.ref r739), .unset]) (hb hby at_191) rfl rfl rfl ?_
          refine go_aload (pc' := 195) (hb hby at_193) rfl rfl rfl ?_
          refine go_aload (pc' := 197) (hb hby at_195) rfl rfl rfl ?_
          have K743 : Keep h0 h2 [] := ((Keep.refl h0 []).ext X4)
          have K744 : Keep h2 h737 [] := ((Keep.refl h2 []).trans K738 all0)
          have S745 := (S11.keep K744)
          refine go_old (fun O746 => ?_)
          refine callS0 (cells' := 3) (slots' := 43) (Wd := 0) (argsL := [(.ref r739), (.ref a3)]) (rest := []) (pay_of (a0 := a0) (c_fill78 l G r739 a3 r740 (119 : Int32) (105 : Int32) (116 : Int32) (104 : Int32) (104 : Int32) (111 : Int32) (108 : Int32) (100 : Int32) h737 O746 (Nat.le_trans O0.2.1 (Nat.le_trans K743.1 f741)) f742 S745) (wk G 68 rfl) (wk G 63 rfl) (by decide) (by decide)) (wk G 66 rfl) (wk G 67 rfl) (wk G 63 rfl) (wk G 68 rfl) (by decide) pd7 rfl rfl (by rw [hml]; rfl) (Nat.le_of_ble_eq_true rfl) rfl rfl (by decide) (by decide) (allS (Nat.le_trans O0.2.1 (Nat.le_trans K743.1 f741)) all0) (fun _ hal => (sfS (Safe.arv hal f742 (by simp)) sf0)) (hb hby at_197) (k_n (pc' := 200) rfl ?_)
          rintro  h747 f749 K748
          refine go_newO (pc' := 203) (cells' := 4) (slots' := 47) (wk G 94 rfl) (wk G 3 rfl) (wk G 2 rfl) (hb hby at_200) rfl rfl rfl (by decide) (by decide) (fun h750 a751 g752 X753 E754 D755 U756 => ?_)
          refine go_dup (pc' := 204) (hb hby at_203) rfl rfl ?_
          refine go_aload (pc' := 206) (hb hby at_204) rfl rfl rfl ?_
          have F757 := D755 (Or.inr (wk G 5 rfl)) (ty := (.array .byte)) (by decide)
          have F758 := D755 (Or.inr (wk G 6 rfl)) (ty := .byte) (by decide)
          have K759 : Keep h747 h750 [] := ((Keep.refl h747 []).ext X753)
          have A760 := (f749.keep K759 nin0)
          refine go_old (fun O761 => ?_)
          have K762 : Keep h0 h737 [] := (K743.trans K738 all0)
          have K763 : Keep h0 h747 [] := (K762.trans K748 (allS (Or.inr (Nat.le_trans K743.1 f741)) all0))
          refine callI0 (cells' := 5) (slots' := 54) (Wd := 1) (argsL := [(.ref r739)]) (rest := [(.ref a751)]) (pay_new G O761 (cs := [(119 : Int32), (105 : Int32), (116 : Int32), (104 : Int32), (104 : Int32), (111 : Int32), (108 : Int32)]) (n := 7) (Nat.le_trans O0.2.1 (Nat.le_trans K763.1 (Nat.le_of_eq g752))) E754 F757 F758 A760 rfl rfl (by decide) (by decide) (c8c (by decide) (c8c (by decide) (c8c (by decide) (c8c (by decide) (c8c (by decide) (c8c (by decide) (c8c (by decide) c8n))))))) (by decide) (by decide)) rfl (wk G 95 rfl) (wk G 96 rfl) (wk G 97 rfl) (by decide) pd8 rfl rfl (by rw [hml]; rfl) (Nat.le_of_ble_eq_true rfl) rfl rfl (by decide) (by decide) (allS (Nat.le_trans O0.2.1 (Nat.le_trans K763.1 (Nat.le_of_eq g752))) all0) (fun _ hal => (sfS (safe_null hal E754 F757) sf0)) (hb hby at_206) (k_n (pc' := 209) rfl ?_)
          rintro h764 S766 K765
          refine go_astore (pc' := 211) (ls' := #[.val (.int x0), .val (.int x1), .val (.int x2), .val (.int x3), .val (.int ((x0 &&& (2147483647 : Int32)) % (3 : Int32))), .val (.ref a3), .val (.ref (s_WITHHOLD Z)), .val (.int (8 : Int32)), .val (.int (x3 &&& (255 : Int32))), .val (.int (1 : Int32)), .val (.int (x1 &&& (3 : Int32))), .val (.ref a751), .unset, .val (.ref r739), .unset]) (hb hby at_209) rfl rfl rfl ?_
          refine go_aconst_null (pc' := 212) (hb hby at_211) rfl ?_
          refine go_astore (pc' := 214) (ls' := #[.val (.int x0), .val (.int x1), .val (.int x2), .val (.int x3), .val (.int ((x0 &&& (2147483647 : Int32)) % (3 : Int32))), .val (.ref a3), .val (.ref (s_WITHHOLD Z)), .val (.int (8 : Int32)), .val (.int (x3 &&& (255 : Int32))), .val (.int (1 : Int32)), .val (.int (x1 &&& (3 : Int32))), .val (.ref a751), .val .null, .val (.ref r739), .unset]) (hb hby at_212) rfl rfl rfl ?_
          refine go_goto (pc' := 279) (hb hby at_214) (by decide) rfl ?_
          refine go_aload (pc' := 281) (hb hby at_279) rfl rfl rfl ?_
          refine go_old (fun O767 => ?_)
          refine callS0 (cells' := 6) (slots' := 57) (Wd := 0) (argsL := [(.ref a751)]) (rest := []) (pay_of (a0 := a0) (c_of l G a751 [(119 : Int32), (105 : Int32), (116 : Int32), (104 : Int32), (104 : Int32), (111 : Int32), (108 : Int32)] h764 O767 S766) (wk G 28 rfl) (wk G 10 rfl) (by decide) (by decide)) (wk G 26 rfl) (wk G 27 rfl) (wk G 10 rfl) (wk G 28 rfl) (by decide) pd9 rfl rfl (by rw [hml]; rfl) (Nat.le_of_ble_eq_true rfl) rfl rfl (by decide) (by decide) all0 (fun _ _ => sf0) (hb hby at_281) (k_v (pc' := 284) rfl ?_)
          rintro _ h768 (⟨rfl, f770⟩ | ⟨rfl, f771⟩ | ⟨rfl, f772⟩ | ⟨rfl, f773, f774, f775⟩) K769
          · exact absurd f770 (by simp)
          · exact absurd f771 (by simp)
          · exact absurd f772 (by simp)
          · refine go_aload (pc' := 286) (hb hby at_284) rfl rfl rfl ?_
            refine go_acF (pc' := 289) (hb hby at_286) rfl rfl rfl (XT.aa_ne_f rfl) ?_
            refine go_iconst (pc' := 290) (v := 1) (hb hby at_289) rfl rfl ?_
            refine go_goto (pc' := 294) (hb hby at_290) (by decide) rfl ?_
            have K776 : Keep h0 h750 [] := (K763.ext X753)
            have K777 : Keep h0 h764 [] := (K776.trans K765 (allS (Or.inr (Nat.le_trans K763.1 (Nat.le_of_eq g752))) all0))
            have K778 : Keep h0 h768 [] := (K777.trans K769 all0)
            refine go_ireturn hret hlk rfl (by simp) (hb hby at_294) (by decide) (by decide) ⟨_, rfl, rfl⟩ K778
        · refine go_icT (pc' := 217) (hb hby at_181) (by decide) rfl (XT.ii_ne_t c736) ?_
          refine go_iload (pc' := 219) (hb hby at_217) rfl rfl ?_
          refine go_iconst (pc' := 220) (v := 2) (hb hby at_219) rfl rfl ?_
          by_cases c779 : (x1 &&& (3 : Int32)) = (2 : Int32)
          · refine go_icF (pc' := 223) (hb hby at_220) rfl (XT.ii_ne_f c779) ?_
            refine go_iload (pc' := 225) (hb hby at_223) rfl rfl ?_
            refine go_iconst (pc' := 226) (v := 1) (hb hby at_225) rfl rfl ?_
            refine go_iadd (pc' := 227) (z := (9 : Int32)) (hb hby at_226) rfl (by decide) ?_
            refine callS0 (cells' := 3) (slots' := 45) (Wd := 0) (argsL := [(.int (9 : Int32))]) (rest := []) (pay_of (a0 := a0) (c_sized9 l G  h2 O12 ) (wk G 64 rfl) (wk G 63 rfl) (by decide) (by decide)) (wk G 61 rfl) (wk G 62 rfl) (wk G 63 rfl) (wk G 64 rfl) (by decide) pd6 rfl rfl (by rw [hml]; rfl) (Nat.le_of_ble_eq_true rfl) rfl rfl (by decide) (by decide) all0 (fun _ _ => sf0) (hb hby at_227) (k_v (pc' := 230) rfl ?_)
            rintro _ h780 ⟨r782, r783, rfl, f784, f785⟩ K781
            refine go_astore (pc' := 232) (ls' := #[.val (.int x0), .val (.int x1), .val (.int x2), .val (.int x3), .val (.int ((x0 &&& (2147483647 : Int32)) % (3 : Int32))), .val (.ref a3), .val (.ref (s_WITHHOLD Z)), .val (.int (8 : Int32)), .val (.int (x3 &&& (255 : Int32))), .val (.int (1 : Int32)), .val (.int (x1 &&& (3 : Int32))), .unset, .unset, .val (.ref r782), .unset]) (hb hby at_230) rfl rfl rfl ?_
            refine go_aload (pc' := 234) (hb hby at_232) rfl rfl rfl ?_
            refine go_aload (pc' := 236) (hb hby at_234) rfl rfl rfl ?_
            have K786 : Keep h0 h2 [] := ((Keep.refl h0 []).ext X4)
            have K787 : Keep h2 h780 [] := ((Keep.refl h2 []).trans K781 all0)
            have S788 := (S11.keep K787)
            refine go_old (fun O789 => ?_)
            refine callS0 (cells' := 3) (slots' := 45) (Wd := 0) (argsL := [(.ref r782), (.ref a3)]) (rest := []) (pay_of (a0 := a0) (c_fill98 l G r782 a3 r783 (119 : Int32) (105 : Int32) (116 : Int32) (104 : Int32) (104 : Int32) (111 : Int32) (108 : Int32) (100 : Int32) h780 O789 (Nat.le_trans O0.2.1 (Nat.le_trans K786.1 f784)) f785 S788) (wk G 68 rfl) (wk G 63 rfl) (by decide) (by decide)) (wk G 66 rfl) (wk G 67 rfl) (wk G 63 rfl) (wk G 68 rfl) (by decide) pd7 rfl rfl (by rw [hml]; rfl) (Nat.le_of_ble_eq_true rfl) rfl rfl (by decide) (by decide) (allS (Nat.le_trans O0.2.1 (Nat.le_trans K786.1 f784)) all0) (fun _ hal => (sfS (Safe.arv hal f785 (by simp)) sf0)) (hb hby at_236) (k_n (pc' := 239) rfl ?_)
            rintro  h790 f792 K791
            refine go_aload (pc' := 241) (hb hby at_239) rfl rfl rfl ?_
            refine go_iload (pc' := 243) (hb hby at_241) rfl rfl ?_
            refine go_iload (pc' := 245) (hb hby at_243) rfl rfl ?_
            refine go_stC (pc' := 246) (i := 8) (x' := (x3 &&& (255 : Int32))) (vs' := [(.int (119 : Int32)), (.int (105 : Int32)), (.int (116 : Int32)), (.int (104 : Int32)), (.int (104 : Int32)), (.int (111 : Int32)), (.int (108 : Int32)), (.int (100 : Int32)), (.int (x3 &&& (255 : Int32)))]) f792 (Nat.le_trans O0.2.1 (Nat.le_trans K786.1 f784)) (by decide) (by decide) rfl (Nat.le_of_ble_eq_true rfl) (i2c_mask _) rfl (hb hby at_245) rfl (fun h793 W794 A795 => ?_)
            refine go_newO (pc' := 249) (cells' := 4) (slots' := 49) (wk G 94 rfl) (wk G 3 rfl) (wk G 2 rfl) (hb hby at_246) rfl rfl rfl (by decide) (by decide) (fun h796 a797 g798 X799 E800 D801 U802 => ?_)
            refine go_dup (pc' := 250) (hb hby at_249) rfl rfl ?_
            refine go_aload (pc' := 252) (hb hby at_250) rfl rfl rfl ?_
            have F803 := D801 (Or.inr (wk G 5 rfl)) (ty := (.array .byte)) (by decide)
            have F804 := D801 (Or.inr (wk G 6 rfl)) (ty := .byte) (by decide)
            have K805 : Keep h793 h796 [] := ((Keep.refl h793 []).ext X799)
            have A806 := (A795.keep K805 nin0)
            refine go_old (fun O807 => ?_)
            have K808 : Keep h0 h780 [] := (K786.trans K781 all0)
            have K809 : Keep h0 h790 [] := (K808.trans K791 (allS (Or.inr (Nat.le_trans K786.1 f784)) all0))
            have K810 : Keep h0 h793 [] := (K809.wr W794 (Or.inr (Nat.le_trans K786.1 f784)))
            refine callI0 (cells' := 5) (slots' := 58) (Wd := 1) (argsL := [(.ref r782)]) (rest := [(.ref a797)]) (pay_new G O807 (cs := [(119 : Int32), (105 : Int32), (116 : Int32), (104 : Int32), (104 : Int32), (111 : Int32), (108 : Int32), (100 : Int32), (x3 &&& (255 : Int32))]) (n := 9) (Nat.le_trans O0.2.1 (Nat.le_trans K810.1 (Nat.le_of_eq g798))) E800 F803 F804 A806 rfl rfl (by decide) (by decide) (c8c (by decide) (c8c (by decide) (c8c (by decide) (c8c (by decide) (c8c (by decide) (c8c (by decide) (c8c (by decide) (c8c (by decide) (c8c (c8_m _) c8n))))))))) (by decide) (by decide)) rfl (wk G 95 rfl) (wk G 96 rfl) (wk G 97 rfl) (by decide) pd8 rfl rfl (by rw [hml]; rfl) (Nat.le_of_ble_eq_true rfl) rfl rfl (by decide) (by decide) (allS (Nat.le_trans O0.2.1 (Nat.le_trans K810.1 (Nat.le_of_eq g798))) all0) (fun _ hal => (sfS (safe_null hal E800 F803) sf0)) (hb hby at_252) (k_n (pc' := 255) rfl ?_)
            rintro h811 S813 K812
            refine go_astore (pc' := 257) (ls' := #[.val (.int x0), .val (.int x1), .val (.int x2), .val (.int x3), .val (.int ((x0 &&& (2147483647 : Int32)) % (3 : Int32))), .val (.ref a3), .val (.ref (s_WITHHOLD Z)), .val (.int (8 : Int32)), .val (.int (x3 &&& (255 : Int32))), .val (.int (1 : Int32)), .val (.int (x1 &&& (3 : Int32))), .val (.ref a797), .unset, .val (.ref r782), .unset]) (hb hby at_255) rfl rfl rfl ?_
            refine go_aconst_null (pc' := 258) (hb hby at_257) rfl ?_
            refine go_astore (pc' := 260) (ls' := #[.val (.int x0), .val (.int x1), .val (.int x2), .val (.int x3), .val (.int ((x0 &&& (2147483647 : Int32)) % (3 : Int32))), .val (.ref a3), .val (.ref (s_WITHHOLD Z)), .val (.int (8 : Int32)), .val (.int (x3 &&& (255 : Int32))), .val (.int (1 : Int32)), .val (.int (x1 &&& (3 : Int32))), .val (.ref a797), .val .null, .val (.ref r782), .unset]) (hb hby at_258) rfl rfl rfl ?_
            refine go_goto (pc' := 279) (hb hby at_260) (by decide) rfl ?_
            refine go_aload (pc' := 281) (hb hby at_279) rfl rfl rfl ?_
            refine go_old (fun O814 => ?_)
            refine callS0 (cells' := 6) (slots' := 61) (Wd := 0) (argsL := [(.ref a797)]) (rest := []) (pay_of (a0 := a0) (c_of l G a797 [(119 : Int32), (105 : Int32), (116 : Int32), (104 : Int32), (104 : Int32), (111 : Int32), (108 : Int32), (100 : Int32), (x3 &&& (255 : Int32))] h811 O814 S813) (wk G 28 rfl) (wk G 10 rfl) (by decide) (by decide)) (wk G 26 rfl) (wk G 27 rfl) (wk G 10 rfl) (wk G 28 rfl) (by decide) pd9 rfl rfl (by rw [hml]; rfl) (Nat.le_of_ble_eq_true rfl) rfl rfl (by decide) (by decide) all0 (fun _ _ => sf0) (hb hby at_281) (k_v (pc' := 284) rfl ?_)
            rintro _ h815 (⟨rfl, f817⟩ | ⟨rfl, f818⟩ | ⟨rfl, f819⟩ | ⟨rfl, f820, f821, f822⟩) K816
            · exact absurd f817 (by simp)
            · exact absurd f818 (by simp)
            · exact absurd f819 (by simp)
            · refine go_aload (pc' := 286) (hb hby at_284) rfl rfl rfl ?_
              refine go_acF (pc' := 289) (hb hby at_286) rfl rfl rfl (XT.aa_ne_f rfl) ?_
              refine go_iconst (pc' := 290) (v := 1) (hb hby at_289) rfl rfl ?_
              refine go_goto (pc' := 294) (hb hby at_290) (by decide) rfl ?_
              have K823 : Keep h0 h796 [] := (K810.ext X799)
              have K824 : Keep h0 h811 [] := (K823.trans K812 (allS (Or.inr (Nat.le_trans K810.1 (Nat.le_of_eq g798))) all0))
              have K825 : Keep h0 h815 [] := (K824.trans K816 all0)
              refine go_ireturn hret hlk rfl (by simp) (hb hby at_294) (by decide) (by decide) ⟨_, rfl, rfl⟩ K825
          · refine go_icT (pc' := 263) (hb hby at_220) (by decide) rfl (XT.ii_ne_t c779) ?_
            refine go_iload (pc' := 265) (hb hby at_263) rfl rfl ?_
            refine go_ifF (pc' := 268) (hb hby at_265) rfl (by decide) ?_
            refine go_aconst_null (pc' := 269) (hb hby at_268) rfl ?_
            refine go_goto (pc' := 274) (hb hby at_269) (by decide) rfl ?_
            refine go_astore (pc' := 276) (ls' := #[.val (.int x0), .val (.int x1), .val (.int x2), .val (.int x3), .val (.int ((x0 &&& (2147483647 : Int32)) % (3 : Int32))), .val (.ref a3), .val (.ref (s_WITHHOLD Z)), .val (.int (8 : Int32)), .val (.int (x3 &&& (255 : Int32))), .val (.int (1 : Int32)), .val (.int (x1 &&& (3 : Int32))), .val .null, .unset, .unset, .unset]) (hb hby at_274) rfl rfl rfl ?_
            refine go_aconst_null (pc' := 277) (hb hby at_276) rfl ?_
            refine go_astore (pc' := 279) (ls' := #[.val (.int x0), .val (.int x1), .val (.int x2), .val (.int x3), .val (.int ((x0 &&& (2147483647 : Int32)) % (3 : Int32))), .val (.ref a3), .val (.ref (s_WITHHOLD Z)), .val (.int (8 : Int32)), .val (.int (x3 &&& (255 : Int32))), .val (.int (1 : Int32)), .val (.int (x1 &&& (3 : Int32))), .val .null, .val .null, .unset, .unset]) (hb hby at_277) rfl rfl rfl ?_
            refine go_aload (pc' := 281) (hb hby at_279) rfl rfl rfl ?_
            refine callS0 (cells' := 3) (slots' := 39) (Wd := 0) (argsL := [.null]) (rest := []) (pay_of (a0 := a0) (c_ofnull l G  h2 O12 ) (wk G 28 rfl) (wk G 10 rfl) (by decide) (by decide)) (wk G 26 rfl) (wk G 27 rfl) (wk G 10 rfl) (wk G 28 rfl) (by decide) pd9 rfl rfl (by rw [hml]; rfl) (Nat.le_of_ble_eq_true rfl) rfl rfl (by decide) (by decide) all0 (fun _ _ => sf0) (hb hby at_281) (k_v (pc' := 284) rfl ?_)
            rintro _ h826 rfl K827
            refine go_aload (pc' := 286) (hb hby at_284) rfl rfl rfl ?_
            refine go_acF (pc' := 289) (hb hby at_286) rfl rfl rfl (XT.aa_ne_f rfl) ?_
            refine go_iconst (pc' := 290) (v := 1) (hb hby at_289) rfl rfl ?_
            refine go_goto (pc' := 294) (hb hby at_290) (by decide) rfl ?_
            have K828 : Keep h0 h2 [] := ((Keep.refl h0 []).ext X4)
            have K829 : Keep h0 h826 [] := (K828.trans K827 all0)
            refine go_ireturn hret hlk rfl (by simp) (hb hby at_294) (by decide) (by decide) ⟨_, rfl, rfl⟩ K829
  · refine go_ifT (pc' := 18) (hb hby at_10) (by decide) rfl (XT.i0_ne_t c1) ?_
    refine go_iload (pc' := 20) (hb hby at_18) rfl rfl ?_
    refine go_iconst (pc' := 21) (v := 1) (hb hby at_20) rfl rfl ?_
    by_cases c830 : ((x0 &&& (2147483647 : Int32)) % (3 : Int32)) = (1 : Int32)
    · refine go_icF (pc' := 24) (hb hby at_21) rfl (XT.ii_ne_f c830) ?_
      refine go_ldcH (pc' := 26) (cells' := 2) (slots' := 32) (n := 28) (vs := (([(100 : Int32), (101 : Int32), (108 : Int32), (105 : Int32), (118 : Int32), (101 : Int32), (114 : Int32)] : List Int32).map fun c => c.toInt8.toInt32).map Value.int) (z := (7 : Int32)) rfl (by decide) (wk G 59 rfl) (wS G) (by decide +kernel) (by decide) (by decide) (by decide) (by decide) (hb hby at_24) rfl rfl rfl (by decide) (by decide) (fun h831 a832 t834 k835 X833 E836 F837 F838 A839 => ?_)
      have S840 : Str Z h831 a832 [(100 : Int32), (101 : Int32), (108 : Int32), (105 : Int32), (118 : Int32), (101 : Int32), (114 : Int32)] := ⟨t834, k835, E836, F838, F837, A839, by decide, by decide⟩
      refine go_goto (pc' := 31) (hb hby at_26) (by decide) rfl ?_
      refine go_astore (pc' := 33) (ls' := #[.val (.int x0), .val (.int x1), .val (.int x2), .val (.int x3), .val (.int ((x0 &&& (2147483647 : Int32)) % (3 : Int32))), .val (.ref a832), .unset, .unset, .unset, .unset, .unset, .unset, .unset, .unset, .unset]) (hb hby at_31) rfl rfl rfl ?_
      refine go_iload (pc' := 35) (hb hby at_33) rfl rfl ?_
      refine go_ifT (pc' := 44) (hb hby at_35) (by decide) rfl (XT.i0_ne_t c1) ?_
      refine go_iload (pc' := 46) (hb hby at_44) rfl rfl ?_
      refine go_iconst (pc' := 47) (v := 1) (hb hby at_46) rfl rfl ?_
      refine go_icF (pc' := 50) (hb hby at_47) rfl (XT.ii_ne_f c830) ?_
      refine go_old (fun O841 => ?_)
      refine go_getS (pc' := 53) (wk G 60 rfl) ((se_DELIVER G).1.ext O841.2) (hb hby at_50) rfl ?_
      refine go_goto (pc' := 59) (hb hby at_53) (by decide) rfl ?_
      refine go_astore (pc' := 61) (ls' := #[.val (.int x0), .val (.int x1), .val (.int x2), .val (.int x3), .val (.int ((x0 &&& (2147483647 : Int32)) % (3 : Int32))), .val (.ref a832), .val (.ref (s_DELIVER Z)), .unset, .unset, .unset, .unset, .unset, .unset, .unset, .unset]) (hb hby at_59) rfl rfl rfl ?_
      refine go_aload (pc' := 63) (hb hby at_61) rfl rfl rfl ?_
      refine callV0 (cells' := 2) (slots' := 32) (Wd := 0) (argsL := []) (rest := []) (pay_len G O841 (n := (7 : Int32)) S840 rfl (by decide) (by decide)) E836 (wk G 12 rfl) (wk G 13 rfl) (wk G 15 rfl) (wk G 15 rfl) (wk G 14 rfl) (by decide) pd3 rfl rfl (by rw [hml]; rfl) (Nat.le_of_ble_eq_true rfl) rfl rfl (by decide) (by decide) all0 (fun _ _ => sf0) (hb hby at_63) (k_v (pc' := 66) rfl ?_)
      rintro _ _ ⟨rfl, rfl⟩ -
      refine go_istore (pc' := 68) (ls' := #[.val (.int x0), .val (.int x1), .val (.int x2), .val (.int x3), .val (.int ((x0 &&& (2147483647 : Int32)) % (3 : Int32))), .val (.ref a832), .val (.ref (s_DELIVER Z)), .val (.int (7 : Int32)), .unset, .unset, .unset, .unset, .unset, .unset, .unset]) (hb hby at_66) rfl rfl ?_
      refine go_iload_n (pc' := 69) (hb hby at_68) rfl rfl ?_
      refine go_sipush (pc' := 72) (v := 255) (hb hby at_69) rfl rfl ?_
      refine go_iand (pc' := 73) (z := (x3 &&& (255 : Int32))) (hb hby at_72) rfl rfl ?_
      refine go_i2c (pc' := 74) (z := (x3 &&& (255 : Int32))) (hb hby at_73) rfl (i2c_mask _) ?_
      refine go_istore (pc' := 76) (ls' := #[.val (.int x0), .val (.int x1), .val (.int x2), .val (.int x3), .val (.int ((x0 &&& (2147483647 : Int32)) % (3 : Int32))), .val (.ref a832), .val (.ref (s_DELIVER Z)), .val (.int (7 : Int32)), .val (.int (x3 &&& (255 : Int32))), .unset, .unset, .unset, .unset, .unset, .unset]) (hb hby at_74) rfl rfl ?_
      refine go_iload_n (pc' := 77) (hb hby at_76) rfl rfl ?_
      refine go_bipush (pc' := 79) (v := 8) (hb hby at_77) rfl rfl ?_
      refine go_iushr (pc' := 80) (z := (XT.ushr x3 (8 : Int32))) (hb hby at_79) rfl rfl ?_
      refine go_iconst (pc' := 81) (v := 1) (hb hby at_80) rfl rfl ?_
      refine go_iand (pc' := 82) (z := ((XT.ushr x3 (8 : Int32)) &&& (1 : Int32))) (hb hby at_81) rfl rfl ?_
      by_cases c842 : ((XT.ushr x3 (8 : Int32)) &&& (1 : Int32)) = (0 : Int32)
      · refine go_ifT (pc' := 89) (hb hby at_82) (by decide) rfl (XT.i0_eq_t c842) ?_
        refine go_iconst (pc' := 90) (v := 0) (hb hby at_89) rfl rfl ?_
        refine go_istore (pc' := 92) (ls' := #[.val (.int x0), .val (.int x1), .val (.int x2), .val (.int x3), .val (.int ((x0 &&& (2147483647 : Int32)) % (3 : Int32))), .val (.ref a832), .val (.ref (s_DELIVER Z)), .val (.int (7 : Int32)), .val (.int (x3 &&& (255 : Int32))), .val (.int (0 : Int32)), .unset, .unset, .unset, .unset, .unset]) (hb hby at_90) rfl rfl ?_
        refine go_iload_n (pc' := 93) (hb hby at_92) rfl rfl ?_
        refine go_iconst (pc' := 94) (v := 3) (hb hby at_93) rfl rfl ?_
        refine go_iand (pc' := 95) (z := (x1 &&& (3 : Int32))) (hb hby at_94) rfl rfl ?_
        refine go_istore (pc' := 97) (ls' := #[.val (.int x0), .val (.int x1), .val (.int x2), .val (.int x3), .val (.int ((x0 &&& (2147483647 : Int32)) % (3 : Int32))), .val (.ref a832), .val (.ref (s_DELIVER Z)), .val (.int (7 : Int32)), .val (.int (x3 &&& (255 : Int32))), .val (.int (0 : Int32)), .val (.int (x1 &&& (3 : Int32))), .unset, .unset, .unset, .unset]) (hb hby at_95) rfl rfl ?_
        refine go_iload (pc' := 99) (hb hby at_97) rfl rfl ?_
        by_cases c843 : (x1 &&& (3 : Int32)) = (0 : Int32)
        · refine go_ifF (pc' := 102) (hb hby at_99) rfl (XT.i0_ne_f c843) ?_
          refine go_iload (pc' := 104) (hb hby at_102) rfl rfl ?_
          refine callS0 (cells' := 3) (slots' := 39) (Wd := 0) (argsL := [(.int (7 : Int32))]) (rest := []) (pay_of (a0 := a0) (c_sized7 l G  h831 O841 ) (wk G 64 rfl) (wk G 63 rfl) (by decide) (by decide)) (wk G 61 rfl) (wk G 62 rfl) (wk G 63 rfl) (wk G 64 rfl) (by decide) pd6 rfl rfl (by rw [hml]; rfl) (Nat.le_of_ble_eq_true rfl) rfl rfl (by decide) (by decide) all0 (fun _ _ => sf0) (hb hby at_104) (k_v (pc' := 107) rfl ?_)
          rintro _ h844 ⟨r846, r847, rfl, f848, f849⟩ K845
          refine go_astore (pc' := 109) (ls' := #[.val (.int x0), .val (.int x1), .val (.int x2), .val (.int x3), .val (.int ((x0 &&& (2147483647 : Int32)) % (3 : Int32))), .val (.ref a832), .val (.ref (s_DELIVER Z)), .val (.int (7 : Int32)), .val (.int (x3 &&& (255 : Int32))), .val (.int (0 : Int32)), .val (.int (x1 &&& (3 : Int32))), .unset, .unset, .val (.ref r846), .unset]) (hb hby at_107) rfl rfl rfl ?_
          refine go_aload (pc' := 111) (hb hby at_109) rfl rfl rfl ?_
          refine go_aload (pc' := 113) (hb hby at_111) rfl rfl rfl ?_
          have K850 : Keep h0 h831 [] := ((Keep.refl h0 []).ext X833)
          have K851 : Keep h831 h844 [] := ((Keep.refl h831 []).trans K845 all0)
          have S852 := (S840.keep K851)
          refine go_old (fun O853 => ?_)
          refine callS0 (cells' := 3) (slots' := 39) (Wd := 0) (argsL := [(.ref r846), (.ref a832)]) (rest := []) (pay_of (a0 := a0) (c_fill77 l G r846 a832 r847 (100 : Int32) (101 : Int32) (108 : Int32) (105 : Int32) (118 : Int32) (101 : Int32) (114 : Int32) h844 O853 (Nat.le_trans O0.2.1 (Nat.le_trans K850.1 f848)) f849 S852) (wk G 68 rfl) (wk G 63 rfl) (by decide) (by decide)) (wk G 66 rfl) (wk G 67 rfl) (wk G 63 rfl) (wk G 68 rfl) (by decide) pd7 rfl rfl (by rw [hml]; rfl) (Nat.le_of_ble_eq_true rfl) rfl rfl (by decide) (by decide) (allS (Nat.le_trans O0.2.1 (Nat.le_trans K850.1 f848)) all0) (fun _ hal => (sfS (Safe.arv hal f849 (by simp)) sf0)) (hb hby at_113) (k_n (pc' := 116) rfl ?_)
          rintro  h854 f856 K855
          refine go_iload (pc' := 118) (hb hby at_116) rfl rfl ?_
          refine go_ifT (pc' := 160) (hb hby at_118) (by decide) rfl (by decide) ?_
          refine go_aload (pc' := 162) (hb hby at_160) rfl rfl rfl ?_
          refine go_astore (pc' := 164) (ls' := #[.val (.int x0), .val (.int x1), .val (.int x2), .val (.int x3), .val (.int ((x0 &&& (2147483647 : Int32)) % (3 : Int32))), .val (.ref a832), .val (.ref (s_DELIVER Z)), .val (.int (7 : Int32)), .val (.int (x3 &&& (255 : Int32))), .val (.int (0 : Int32)), .val (.int (x1 &&& (3 : Int32))), .unset, .val (.ref (s_DELIVER Z)), .val (.ref r846), .unset]) (hb hby at_162) rfl rfl rfl ?_
          refine go_newO (pc' := 167) (cells' := 4) (slots' := 43) (wk G 94 rfl) (wk G 3 rfl) (wk G 2 rfl) (hb hby at_164) rfl rfl rfl (by decide) (by decide) (fun h857 a858 g859 X860 E861 D862 U863 => ?_)
          refine go_dup (pc' := 168) (hb hby at_167) rfl rfl ?_
          refine go_aload (pc' := 170) (hb hby at_168) rfl rfl rfl ?_
          have F864 := D862 (Or.inr (wk G 5 rfl)) (ty := (.array .byte)) (by decide)
          have F865 := D862 (Or.inr (wk G 6 rfl)) (ty := .byte) (by decide)
          have K866 : Keep h854 h857 [] := ((Keep.refl h854 []).ext X860)
          have A867 := (f856.keep K866 nin0)
          refine go_old (fun O868 => ?_)
          have K869 : Keep h0 h844 [] := (K850.trans K845 all0)
          have K870 : Keep h0 h854 [] := (K869.trans K855 (allS (Or.inr (Nat.le_trans K850.1 f848)) all0))
          refine callI0 (cells' := 5) (slots' := 50) (Wd := 1) (argsL := [(.ref r846)]) (rest := [(.ref a858)]) (pay_new G O868 (cs := [(100 : Int32), (101 : Int32), (108 : Int32), (105 : Int32), (118 : Int32), (101 : Int32), (114 : Int32)]) (n := 7) (Nat.le_trans O0.2.1 (Nat.le_trans K870.1 (Nat.le_of_eq g859))) E861 F864 F865 A867 rfl rfl (by decide) (by decide) (c8c (by decide) (c8c (by decide) (c8c (by decide) (c8c (by decide) (c8c (by decide) (c8c (by decide) (c8c (by decide) c8n))))))) (by decide) (by decide)) rfl (wk G 95 rfl) (wk G 96 rfl) (wk G 97 rfl) (by decide) pd8 rfl rfl (by rw [hml]; rfl) (Nat.le_of_ble_eq_true rfl) rfl rfl (by decide) (by decide) (allS (Nat.le_trans O0.2.1 (Nat.le_trans K870.1 (Nat.le_of_eq g859))) all0) (fun _ hal => (sfS (safe_null hal E861 F864) sf0)) (hb hby at_170) (k_n (pc' := 173) rfl ?_)
          rintro h871 S873 K872
          refine go_astore (pc' := 175) (ls' := #[.val (.int x0), .val (.int x1), .val (.int x2), .val (.int x3), .val (.int ((x0 &&& (2147483647 : Int32)) % (3 : Int32))), .val (.ref a832), .val (.ref (s_DELIVER Z)), .val (.int (7 : Int32)), .val (.int (x3 &&& (255 : Int32))), .val (.int (0 : Int32)), .val (.int (x1 &&& (3 : Int32))), .val (.ref a858), .val (.ref (s_DELIVER Z)), .val (.ref r846), .unset]) (hb hby at_173) rfl rfl rfl ?_
          refine go_goto (pc' := 279) (hb hby at_175) (by decide) rfl ?_
          refine go_aload (pc' := 281) (hb hby at_279) rfl rfl rfl ?_
          refine go_old (fun O874 => ?_)
          refine callS0 (cells' := 6) (slots' := 53) (Wd := 0) (argsL := [(.ref a858)]) (rest := []) (pay_of (a0 := a0) (c_of l G a858 [(100 : Int32), (101 : Int32), (108 : Int32), (105 : Int32), (118 : Int32), (101 : Int32), (114 : Int32)] h871 O874 S873) (wk G 28 rfl) (wk G 10 rfl) (by decide) (by decide)) (wk G 26 rfl) (wk G 27 rfl) (wk G 10 rfl) (wk G 28 rfl) (by decide) pd9 rfl rfl (by rw [hml]; rfl) (Nat.le_of_ble_eq_true rfl) rfl rfl (by decide) (by decide) all0 (fun _ _ => sf0) (hb hby at_281) (k_v (pc' := 284) rfl ?_)
          rintro _ h875 (⟨rfl, f877⟩ | ⟨rfl, f878⟩ | ⟨rfl, f879⟩ | ⟨rfl, f880, f881, f882⟩) K876
          · exact absurd f877 (by simp)
          · refine go_aload (pc' := 286) (hb hby at_284) rfl rfl rfl ?_
            refine go_acF (pc' := 289) (hb hby at_286) rfl rfl rfl (XT.aa_ne_f rfl) ?_
            refine go_iconst (pc' := 290) (v := 1) (hb hby at_289) rfl rfl ?_
            refine go_goto (pc' := 294) (hb hby at_290) (by decide) rfl ?_
            have K883 : Keep h0 h857 [] := (K870.ext X860)
            have K884 : Keep h0 h871 [] := (K883.trans K872 (allS (Or.inr (Nat.le_trans K870.1 (Nat.le_of_eq g859))) all0))
            have K885 : Keep h0 h875 [] := (K884.trans K876 all0)
            refine go_ireturn hret hlk rfl (by simp) (hb hby at_294) (by decide) (by decide) ⟨_, rfl, rfl⟩ K885
          · exact absurd f879 (by simp)
          · exact absurd (by simp) f881
        · refine go_ifT (pc' := 178) (hb hby at_99) (by decide) rfl (XT.i0_ne_t c843) ?_
          refine go_iload (pc' := 180) (hb hby at_178) rfl rfl ?_
          refine go_iconst (pc' := 181) (v := 1) (hb hby at_180) rfl rfl ?_
          by_cases c886 : (x1 &&& (3 : Int32)) = (1 : Int32)
          · refine go_icF (pc' := 184) (hb hby at_181) rfl (XT.ii_ne_f c886) ?_
            refine go_iload (pc' := 186) (hb hby at_184) rfl rfl ?_
            refine go_iconst (pc' := 187) (v := 1) (hb hby at_186) rfl rfl ?_
            refine go_isub (pc' := 188) (z := (6 : Int32)) (hb hby at_187) rfl (by decide) ?_
            refine callS0 (cells' := 3) (slots' := 38) (Wd := 0) (argsL := [(.int (6 : Int32))]) (rest := []) (pay_of (a0 := a0) (c_sized6 l G  h831 O841 ) (wk G 64 rfl) (wk G 63 rfl) (by decide) (by decide)) (wk G 61 rfl) (wk G 62 rfl) (wk G 63 rfl) (wk G 64 rfl) (by decide) pd6 rfl rfl (by rw [hml]; rfl) (Nat.le_of_ble_eq_true rfl) rfl rfl (by decide) (by decide) all0 (fun _ _ => sf0) (hb hby at_188) (k_v (pc' := 191) rfl ?_)
            rintro _ h887 ⟨r889, r890, rfl, f891, f892⟩ K888
            refine go_astore (pc' := 193) (ls' := #[.val (.int x0), .val (.int x1), .val (.int x2), .val (.int x3), .val (.int ((x0 &&& (2147483647 : Int32)) % (3 : Int32))), .val (.ref a832), .val (.ref (s_DELIVER Z)), .val (.int (7 : Int32)), .val (.int (x3 &&& (255 : Int32))), .val (.int (0 : Int32)), .val (.int (x1 &&& (3 : Int32))), .unset, .unset, .val (.ref r889), .unset]) (hb hby at_191) rfl rfl rfl ?_
            refine go_aload (pc' := 195) (hb hby at_193) rfl rfl rfl ?_
            refine go_aload (pc' := 197) (hb hby at_195) rfl rfl rfl ?_
            have K893 : Keep h0 h831 [] := ((Keep.refl h0 []).ext X833)
            have K894 : Keep h831 h887 [] := ((Keep.refl h831 []).trans K888 all0)
            have S895 := (S840.keep K894)
            refine go_old (fun O896 => ?_)
            refine callS0 (cells' := 3) (slots' := 38) (Wd := 0) (argsL := [(.ref r889), (.ref a832)]) (rest := []) (pay_of (a0 := a0) (c_fill67 l G r889 a832 r890 (100 : Int32) (101 : Int32) (108 : Int32) (105 : Int32) (118 : Int32) (101 : Int32) (114 : Int32) h887 O896 (Nat.le_trans O0.2.1 (Nat.le_trans K893.1 f891)) f892 S895) (wk G 68 rfl) (wk G 63 rfl) (by decide) (by decide)) (wk G 66 rfl) (wk G 67 rfl) (wk G 63 rfl) (wk G 68 rfl) (by decide) pd7 rfl rfl (by rw [hml]; rfl) (Nat.le_of_ble_eq_true rfl) rfl rfl (by decide) (by decide) (allS (Nat.le_trans O0.2.1 (Nat.le_trans K893.1 f891)) all0) (fun _ hal => (sfS (Safe.arv hal f892 (by simp)) sf0)) (hb hby at_197) (k_n (pc' := 200) rfl ?_)
            rintro  h897 f899 K898
            refine go_newO (pc' := 203) (cells' := 4) (slots' := 42) (wk G 94 rfl) (wk G 3 rfl) (wk G 2 rfl) (hb hby at_200) rfl rfl rfl (by decide) (by decide) (fun h900 a901 g902 X903 E904 D905 U906 => ?_)
            refine go_dup (pc' := 204) (hb hby at_203) rfl rfl ?_
            refine go_aload (pc' := 206) (hb hby at_204) rfl rfl rfl ?_
            have F907 := D905 (Or.inr (wk G 5 rfl)) (ty := (.array .byte)) (by decide)
            have F908 := D905 (Or.inr (wk G 6 rfl)) (ty := .byte) (by decide)
            have K909 : Keep h897 h900 [] := ((Keep.refl h897 []).ext X903)
            have A910 := (f899.keep K909 nin0)
            refine go_old (fun O911 => ?_)
            have K912 : Keep h0 h887 [] := (K893.trans K888 all0)
            have K913 : Keep h0 h897 [] := (K912.trans K898 (allS (Or.inr (Nat.le_trans K893.1 f891)) all0))
            refine callI0 (cells' := 5) (slots' := 48) (Wd := 1) (argsL := [(.ref r889)]) (rest := [(.ref a901)]) (pay_new G O911 (cs := [(100 : Int32), (101 : Int32), (108 : Int32), (105 : Int32), (118 : Int32), (101 : Int32)]) (n := 6) (Nat.le_trans O0.2.1 (Nat.le_trans K913.1 (Nat.le_of_eq g902))) E904 F907 F908 A910 rfl rfl (by decide) (by decide) (c8c (by decide) (c8c (by decide) (c8c (by decide) (c8c (by decide) (c8c (by decide) (c8c (by decide) c8n)))))) (by decide) (by decide)) rfl (wk G 95 rfl) (wk G 96 rfl) (wk G 97 rfl) (by decide) pd8 rfl rfl (by rw [hml]; rfl) (Nat.le_of_ble_eq_true rfl) rfl rfl (by decide) (by decide) (allS (Nat.le_trans O0.2.1 (Nat.le_trans K913.1 (Nat.le_of_eq g902))) all0) (fun _ hal => (sfS (safe_null hal E904 F907) sf0)) (hb hby at_206) (k_n (pc' := 209) rfl ?_)
            rintro h914 S916 K915
            refine go_astore (pc' := 211) (ls' := #[.val (.int x0), .val (.int x1), .val (.int x2), .val (.int x3), .val (.int ((x0 &&& (2147483647 : Int32)) % (3 : Int32))), .val (.ref a832), .val (.ref (s_DELIVER Z)), .val (.int (7 : Int32)), .val (.int (x3 &&& (255 : Int32))), .val (.int (0 : Int32)), .val (.int (x1 &&& (3 : Int32))), .val (.ref a901), .unset, .val (.ref r889), .unset]) (hb hby at_209) rfl rfl rfl ?_
            refine go_aconst_null (pc' := 212) (hb hby at_211) rfl ?_
            refine go_astore (pc' := 214) (ls' := #[.val (.int x0), .val (.int x1), .val (.int x2), .val (.int x3), .val (.int ((x0 &&& (2147483647 : Int32)) % (3 : Int32))), .val (.ref a832), .val (.ref (s_DELIVER Z)), .val (.int (7 : Int32)), .val (.int (x3 &&& (255 : Int32))), .val (.int (0 : Int32)), .val (.int (x1 &&& (3 : Int32))), .val (.ref a901), .val .null, .val (.ref r889), .unset]) (hb hby at_212) rfl rfl rfl ?_
            refine go_goto (pc' := 279) (hb hby at_214) (by decide) rfl ?_
            refine go_aload (pc' := 281) (hb hby at_279) rfl rfl rfl ?_
            refine go_old (fun O917 => ?_)
            refine callS0 (cells' := 6) (slots' := 51) (Wd := 0) (argsL := [(.ref a901)]) (rest := []) (pay_of (a0 := a0) (c_of l G a901 [(100 : Int32), (101 : Int32), (108 : Int32), (105 : Int32), (118 : Int32), (101 : Int32)] h914 O917 S916) (wk G 28 rfl) (wk G 10 rfl) (by decide) (by decide)) (wk G 26 rfl) (wk G 27 rfl) (wk G 10 rfl) (wk G 28 rfl) (by decide) pd9 rfl rfl (by rw [hml]; rfl) (Nat.le_of_ble_eq_true rfl) rfl rfl (by decide) (by decide) all0 (fun _ _ => sf0) (hb hby at_281) (k_v (pc' := 284) rfl ?_)
            rintro _ h918 (⟨rfl, f920⟩ | ⟨rfl, f921⟩ | ⟨rfl, f922⟩ | ⟨rfl, f923, f924, f925⟩) K919
            · exact absurd f920 (by simp)
            · exact absurd f921 (by simp)
            · exact absurd f922 (by simp)
            · refine go_aload (pc' := 286) (hb hby at_284) rfl rfl rfl ?_
              refine go_acF (pc' := 289) (hb hby at_286) rfl rfl rfl (XT.aa_ne_f rfl) ?_
              refine go_iconst (pc' := 290) (v := 1) (hb hby at_289) rfl rfl ?_
              refine go_goto (pc' := 294) (hb hby at_290) (by decide) rfl ?_
              have K926 : Keep h0 h900 [] := (K913.ext X903)
              have K927 : Keep h0 h914 [] := (K926.trans K915 (allS (Or.inr (Nat.le_trans K913.1 (Nat.le_of_eq g902))) all0))
              have K928 : Keep h0 h918 [] := (K927.trans K919 all0)
              refine go_ireturn hret hlk rfl (by simp) (hb hby at_294) (by decide) (by decide) ⟨_, rfl, rfl⟩ K928
          · refine go_icT (pc' := 217) (hb hby at_181) (by decide) rfl (XT.ii_ne_t c886) ?_
            refine go_iload (pc' := 219) (hb hby at_217) rfl rfl ?_
            refine go_iconst (pc' := 220) (v := 2) (hb hby at_219) rfl rfl ?_
            by_cases c929 : (x1 &&& (3 : Int32)) = (2 : Int32)
            · refine go_icF (pc' := 223) (hb hby at_220) rfl (XT.ii_ne_f c929) ?_
              refine go_iload (pc' := 225) (hb hby at_223) rfl rfl ?_
              refine go_iconst (pc' := 226) (v := 1) (hb hby at_225) rfl rfl ?_
              refine go_iadd (pc' := 227) (z := (8 : Int32)) (hb hby at_226) rfl (by decide) ?_
              refine callS0 (cells' := 3) (slots' := 40) (Wd := 0) (argsL := [(.int (8 : Int32))]) (rest := []) (pay_of (a0 := a0) (c_sized8 l G  h831 O841 ) (wk G 64 rfl) (wk G 63 rfl) (by decide) (by decide)) (wk G 61 rfl) (wk G 62 rfl) (wk G 63 rfl) (wk G 64 rfl) (by decide) pd6 rfl rfl (by rw [hml]; rfl) (Nat.le_of_ble_eq_true rfl) rfl rfl (by decide) (by decide) all0 (fun _ _ => sf0) (hb hby at_227) (k_v (pc' := 230) rfl ?_)
              rintro _ h930 ⟨r932, r933, rfl, f934, f935⟩ K931
              refine go_astore (pc' := 232) (ls' := #[.val (.int x0), .val (.int x1), .val (.int x2), .val (.int x3), .val (.int ((x0 &&& (2147483647 : Int32)) % (3 : Int32))), .val (.ref a832), .val (.ref (s_DELIVER Z)), .val (.int (7 : Int32)), .val (.int (x3 &&& (255 : Int32))), .val (.int (0 : Int32)), .val (.int (x1 &&& (3 : Int32))), .unset, .unset, .val (.ref r932), .unset]) (hb hby at_230) rfl rfl rfl ?_
              refine go_aload (pc' := 234) (hb hby at_232) rfl rfl rfl ?_
              refine go_aload (pc' := 236) (hb hby at_234) rfl rfl rfl ?_
              have K936 : Keep h0 h831 [] := ((Keep.refl h0 []).ext X833)
              have K937 : Keep h831 h930 [] := ((Keep.refl h831 []).trans K931 all0)
              have S938 := (S840.keep K937)
              refine go_old (fun O939 => ?_)
              refine callS0 (cells' := 3) (slots' := 40) (Wd := 0) (argsL := [(.ref r932), (.ref a832)]) (rest := []) (pay_of (a0 := a0) (c_fill87 l G r932 a832 r933 (100 : Int32) (101 : Int32) (108 : Int32) (105 : Int32) (118 : Int32) (101 : Int32) (114 : Int32) h930 O939 (Nat.le_trans O0.2.1 (Nat.le_trans K936.1 f934)) f935 S938) (wk G 68 rfl) (wk G 63 rfl) (by decide) (by decide)) (wk G 66 rfl) (wk G 67 rfl) (wk G 63 rfl) (wk G 68 rfl) (by decide) pd7 rfl rfl (by rw [hml]; rfl) (Nat.le_of_ble_eq_true rfl) rfl rfl (by decide) (by decide) (allS (Nat.le_trans O0.2.1 (Nat.le_trans K936.1 f934)) all0) (fun _ hal => (sfS (Safe.arv hal f935 (by simp)) sf0)) (hb hby at_236) (k_n (pc' := 239) rfl ?_)
              rintro  h940 f942 K941
              refine go_aload (pc' := 241) (hb hby at_239) rfl rfl rfl ?_
              refine go_iload (pc' := 243) (hb hby at_241) rfl rfl ?_
              refine go_iload (pc' := 245) (hb hby at_243) rfl rfl ?_
              refine go_stC (pc' := 246) (i := 7) (x' := (x3 &&& (255 : Int32))) (vs' := [(.int (100 : Int32)), (.int (101 : Int32)), (.int (108 : Int32)), (.int (105 : Int32)), (.int (118 : Int32)), (.int (101 : Int32)), (.int (114 : Int32)), (.int (x3 &&& (255 : Int32)))]) f942 (Nat.le_trans O0.2.1 (Nat.le_trans K936.1 f934)) (by decide) (by decide) rfl (Nat.le_of_ble_eq_true rfl) (i2c_mask _) rfl (hb hby at_245) rfl (fun h943 W944 A945 => ?_)
              refine go_newO (pc' := 249) (cells' := 4) (slots' := 44) (wk G 94 rfl) (wk G 3 rfl) (wk G 2 rfl) (hb hby at_246) rfl rfl rfl (by decide) (by decide) (fun h946 a947 g948 X949 E950 D951 U952 => ?_)
              refine go_dup (pc' := 250) (hb hby at_249) rfl rfl ?_
              refine go_aload (pc' := 252) (hb hby at_250) rfl rfl rfl ?_
              have F953 := D951 (Or.inr (wk G 5 rfl)) (ty := (.array .byte)) (by decide)
              have F954 := D951 (Or.inr (wk G 6 rfl)) (ty := .byte) (by decide)
              have K955 : Keep h943 h946 [] := ((Keep.refl h943 []).ext X949)
              have A956 := (A945.keep K955 nin0)
              refine go_old (fun O957 => ?_)
              have K958 : Keep h0 h930 [] := (K936.trans K931 all0)
              have K959 : Keep h0 h940 [] := (K958.trans K941 (allS (Or.inr (Nat.le_trans K936.1 f934)) all0))
              have K960 : Keep h0 h943 [] := (K959.wr W944 (Or.inr (Nat.le_trans K936.1 f934)))
              refine callI0 (cells' := 5) (slots' := 52) (Wd := 1) (argsL := [(.ref r932)]) (rest := [(.ref a947)]) (pay_new G O957 (cs := [(100 : Int32), (101 : Int32), (108 : Int32), (105 : Int32), (118 : Int32), (101 : Int32), (114 : Int32), (x3 &&& (255 : Int32))]) (n := 8) (Nat.le_trans O0.2.1 (Nat.le_trans K960.1 (Nat.le_of_eq g948))) E950 F953 F954 A956 rfl rfl (by decide) (by decide) (c8c (by decide) (c8c (by decide) (c8c (by decide) (c8c (by decide) (c8c (by decide) (c8c (by decide) (c8c (by decide) (c8c (c8_m _) c8n)))))))) (by decide) (by decide)) rfl (wk G 95 rfl) (wk G 96 rfl) (wk G 97 rfl) (by decide) pd8 rfl rfl (by rw [hml]; rfl) (Nat.le_of_ble_eq_true rfl) rfl rfl (by decide) (by decide) (allS (Nat.le_trans O0.2.1 (Nat.le_trans K960.1 (Nat.le_of_eq g948))) all0) (fun _ hal => (sfS (safe_null hal E950 F953) sf0)) (hb hby at_252) (k_n (pc' := 255) rfl ?_)
              rintro h961 S963 K962
              refine go_astore (pc' := 257) (ls' := #[.val (.int x0), .val (.int x1), .val (.int x2), .val (.int x3), .val (.int ((x0 &&& (2147483647 : Int32)) % (3 : Int32))), .val (.ref a832), .val (.ref (s_DELIVER Z)), .val (.int (7 : Int32)), .val (.int (x3 &&& (255 : Int32))), .val (.int (0 : Int32)), .val (.int (x1 &&& (3 : Int32))), .val (.ref a947), .unset, .val (.ref r932), .unset]) (hb hby at_255) rfl rfl rfl ?_
              refine go_aconst_null (pc' := 258) (hb hby at_257) rfl ?_
              refine go_astore (pc' := 260) (ls' := #[.val (.int x0), .val (.int x1), .val (.int x2), .val (.int x3), .val (.int ((x0 &&& (2147483647 : Int32)) % (3 : Int32))), .val (.ref a832), .val (.ref (s_DELIVER Z)), .val (.int (7 : Int32)), .val (.int (x3 &&& (255 : Int32))), .val (.int (0 : Int32)), .val (.int (x1 &&& (3 : Int32))), .val (.ref a947), .val .null, .val (.ref r932), .unset]) (hb hby at_258) rfl rfl rfl ?_
              refine go_goto (pc' := 279) (hb hby at_260) (by decide) rfl ?_
              refine go_aload (pc' := 281) (hb hby at_279) rfl rfl rfl ?_
              refine go_old (fun O964 => ?_)
              refine callS0 (cells' := 6) (slots' := 55) (Wd := 0) (argsL := [(.ref a947)]) (rest := []) (pay_of (a0 := a0) (c_of l G a947 [(100 : Int32), (101 : Int32), (108 : Int32), (105 : Int32), (118 : Int32), (101 : Int32), (114 : Int32), (x3 &&& (255 : Int32))] h961 O964 S963) (wk G 28 rfl) (wk G 10 rfl) (by decide) (by decide)) (wk G 26 rfl) (wk G 27 rfl) (wk G 10 rfl) (wk G 28 rfl) (by decide) pd9 rfl rfl (by rw [hml]; rfl) (Nat.le_of_ble_eq_true rfl) rfl rfl (by decide) (by decide) all0 (fun _ _ => sf0) (hb hby at_281) (k_v (pc' := 284) rfl ?_)
              rintro _ h965 (⟨rfl, f967⟩ | ⟨rfl, f968⟩ | ⟨rfl, f969⟩ | ⟨rfl, f970, f971, f972⟩) K966
              · exact absurd f967 (by simp)
              · exact absurd f968 (by simp)
              · exact absurd f969 (by simp)
              · refine go_aload (pc' := 286) (hb hby at_284) rfl rfl rfl ?_
                refine go_acF (pc' := 289) (hb hby at_286) rfl rfl rfl (XT.aa_ne_f rfl) ?_
                refine go_iconst (pc' := 290) (v := 1) (hb hby at_289) rfl rfl ?_
                refine go_goto (pc' := 294) (hb hby at_290) (by decide) rfl ?_
                have K973 : Keep h0 h946 [] := (K960.ext X949)
                have K974 : Keep h0 h961 [] := (K973.trans K962 (allS (Or.inr (Nat.le_trans K960.1 (Nat.le_of_eq g948))) all0))
                have K975 : Keep h0 h965 [] := (K974.trans K966 all0)
                refine go_ireturn hret hlk rfl (by simp) (hb hby at_294) (by decide) (by decide) ⟨_, rfl, rfl⟩ K975
            · refine go_icT (pc' := 263) (hb hby at_220) (by decide) rfl (XT.ii_ne_t c929) ?_
              refine go_iload (pc' := 265) (hb hby at_263) rfl rfl ?_
              refine go_ifT (pc' := 272) (hb hby at_265) (by decide) rfl (by decide) ?_
              refine go_ldcH (pc' := 274) (cells' := 4) (slots' := 36) (n := 0) (vs := (([] : List Int32).map fun c => c.toInt8.toInt32).map Value.int) (z := (0 : Int32)) rfl (by decide) (wk G 25 rfl) (wS G) (by decide +kernel) (by decide) (by decide) (by decide) (by decide) (hb hby at_272) rfl rfl rfl (by decide) (by decide) (fun h976 a977 t979 k980 X978 E981 F982 F983 A984 => ?_)
              have S985 : Str Z h976 a977 [] := ⟨t979, k980, E981, F983, F982, A984, by decide, by decide⟩
              refine go_astore (pc' := 276) (ls' := #[.val (.int x0), .val (.int x1), .val (.int x2), .val (.int x3), .val (.int ((x0 &&& (2147483647 : Int32)) % (3 : Int32))), .val (.ref a832), .val (.ref (s_DELIVER Z)), .val (.int (7 : Int32)), .val (.int (x3 &&& (255 : Int32))), .val (.int (0 : Int32)), .val (.int (x1 &&& (3 : Int32))), .val (.ref a977), .unset, .unset, .unset]) (hb hby at_274) rfl rfl rfl ?_
              refine go_aconst_null (pc' := 277) (hb hby at_276) rfl ?_
              refine go_astore (pc' := 279) (ls' := #[.val (.int x0), .val (.int x1), .val (.int x2), .val (.int x3), .val (.int ((x0 &&& (2147483647 : Int32)) % (3 : Int32))), .val (.ref a832), .val (.ref (s_DELIVER Z)), .val (.int (7 : Int32)), .val (.int (x3 &&& (255 : Int32))), .val (.int (0 : Int32)), .val (.int (x1 &&& (3 : Int32))), .val (.ref a977), .val .null, .unset, .unset]) (hb hby at_277) rfl rfl rfl ?_
              refine go_aload (pc' := 281) (hb hby at_279) rfl rfl rfl ?_
              refine go_old (fun O986 => ?_)
              refine callS0 (cells' := 5) (slots' := 39) (Wd := 0) (argsL := [(.ref a977)]) (rest := []) (pay_of (a0 := a0) (c_of l G a977 [] h976 O986 S985) (wk G 28 rfl) (wk G 10 rfl) (by decide) (by decide)) (wk G 26 rfl) (wk G 27 rfl) (wk G 10 rfl) (wk G 28 rfl) (by decide) pd9 rfl rfl (by rw [hml]; rfl) (Nat.le_of_ble_eq_true rfl) rfl rfl (by decide) (by decide) all0 (fun _ _ => sf0) (hb hby at_281) (k_v (pc' := 284) rfl ?_)
              rintro _ h987 (⟨rfl, f989⟩ | ⟨rfl, f990⟩ | ⟨rfl, f991⟩ | ⟨rfl, f992, f993, f994⟩) K988
              · exact absurd f989 (by simp)
              · exact absurd f990 (by simp)
              · exact absurd f991 (by simp)
              · refine go_aload (pc' := 286) (hb hby at_284) rfl rfl rfl ?_
                refine go_acF (pc' := 289) (hb hby at_286) rfl rfl rfl (XT.aa_ne_f rfl) ?_
                refine go_iconst (pc' := 290) (v := 1) (hb hby at_289) rfl rfl ?_
                refine go_goto (pc' := 294) (hb hby at_290) (by decide) rfl ?_
                have K995 : Keep h0 h831 [] := ((Keep.refl h0 []).ext X833)
                have K996 : Keep h0 h976 [] := (K995.ext X978)
                have K997 : Keep h0 h987 [] := (K996.trans K988 all0)
                refine go_ireturn hret hlk rfl (by simp) (hb hby at_294) (by decide) (by decide) ⟨_, rfl, rfl⟩ K997
      · refine go_ifF (pc' := 85) (hb hby at_82) rfl (XT.i0_eq_f c842) ?_
        refine go_iconst (pc' := 86) (v := 1) (hb hby at_85) rfl rfl ?_
        refine go_goto (pc' := 90) (hb hby at_86) (by decide) rfl ?_
        refine go_istore (pc' := 92) (ls' := #[.val (.int x0), .val (.int x1), .val (.int x2), .val (.int x3), .val (.int ((x0 &&& (2147483647 : Int32)) % (3 : Int32))), .val (.ref a832), .val (.ref (s_DELIVER Z)), .val (.int (7 : Int32)), .val (.int (x3 &&& (255 : Int32))), .val (.int (1 : Int32)), .unset, .unset, .unset, .unset, .unset]) (hb hby at_90) rfl rfl ?_
        refine go_iload_n (pc' := 93) (hb hby at_92) rfl rfl ?_
        refine go_iconst (pc' := 94) (v := 3) (hb hby at_93) rfl rfl ?_
        refine go_iand (pc' := 95) (z := (x1 &&& (3 : Int32))) (hb hby at_94) rfl rfl ?_
        refine go_istore (pc' := 97) (ls' := #[.val (.int x0), .val (.int x1), .val (.int x2), .val (.int x3), .val (.int ((x0 &&& (2147483647 : Int32)) % (3 : Int32))), .val (.ref a832), .val (.ref (s_DELIVER Z)), .val (.int (7 : Int32)), .val (.int (x3 &&& (255 : Int32))), .val (.int (1 : Int32)), .val (.int (x1 &&& (3 : Int32))), .unset, .unset, .unset, .unset]) (hb hby at_95) rfl rfl ?_
        refine go_iload (pc' := 99) (hb hby at_97) rfl rfl ?_
        by_cases c998 : (x1 &&& (3 : Int32)) = (0 : Int32)
        · refine go_ifF (pc' := 102) (hb hby at_99) rfl (XT.i0_ne_f c998) ?_
          refine go_iload (pc' := 104) (hb hby at_102) rfl rfl ?_
          refine callS0 (cells' := 3) (slots' := 39) (Wd := 0) (argsL := [(.int (7 : Int32))]) (rest := []) (pay_of (a0 := a0) (c_sized7 l G  h831 O841 ) (wk G 64 rfl) (wk G 63 rfl) (by decide) (by decide)) (wk G 61 rfl) (wk G 62 rfl) (wk G 63 rfl) (wk G 64 rfl) (by decide) pd6 rfl rfl (by rw [hml]; rfl) (Nat.le_of_ble_eq_true rfl) rfl rfl (by decide) (by decide) all0 (fun _ _ => sf0) (hb hby at_104) (k_v (pc' := 107) rfl ?_)
          rintro _ h999 ⟨r1001, r1002, rfl, f1003, f1004⟩ K1000
          refine go_astore (pc' := 109) (ls' := #[.val (.int x0), .val (.int x1), .val (.int x2), .val (.int x3), .val (.int ((x0 &&& (2147483647 : Int32)) % (3 : Int32))), .val (.ref a832), .val (.ref (s_DELIVER Z)), .val (.int (7 : Int32)), .val (.int (x3 &&& (255 : Int32))), .val (.int (1 : Int32)), .val (.int (x1 &&& (3 : Int32))), .unset, .unset, .val (.ref r1001), .unset]) (hb hby at_107) rfl rfl rfl ?_
          refine go_aload (pc' := 111) (hb hby at_109) rfl rfl rfl ?_
          refine go_aload (pc' := 113) (hb hby at_111) rfl rfl rfl ?_
          have K1005 : Keep h0 h831 [] := ((Keep.refl h0 []).ext X833)
          have K1006 : Keep h831 h999 [] := ((Keep.refl h831 []).trans K1000 all0)
          have S1007 := (S840.keep K1006)
          refine go_old (fun O1008 => ?_)
          refine callS0 (cells' := 3) (slots' := 39) (Wd := 0) (argsL := [(.ref r1001), (.ref a832)]) (rest := []) (pay_of (a0 := a0) (c_fill77 l G r1001 a832 r1002 (100 : Int32) (101 : Int32) (108 : Int32) (105 : Int32) (118 : Int32) (101 : Int32) (114 : Int32) h999 O1008 (Nat.le_trans O0.2.1 (Nat.le_trans K1005.1 f1003)) f1004 S1007) (wk G 68 rfl) (wk G 63 rfl) (by decide) (by decide)) (wk G 66 rfl) (wk G 67 rfl) (wk G 63 rfl) (wk G 68 rfl) (by decide) pd7 rfl rfl (by rw [hml]; rfl) (Nat.le_of_ble_eq_true rfl) rfl rfl (by decide) (by decide) (allS (Nat.le_trans O0.2.1 (Nat.le_trans K1005.1 f1003)) all0) (fun _ hal => (sfS (Safe.arv hal f1004 (by simp)) sf0)) (hb hby at_113) (k_n (pc' := 116) rfl ?_)
          rintro  h1009 f1011 K1010
          refine go_iload (pc' := 118) (hb hby at_116) rfl rfl ?_
          refine go_ifF (pc' := 121) (hb hby at_118) rfl (by decide) ?_
          refine go_iload_n (pc' := 122) (hb hby at_121) rfl rfl ?_
          refine go_ldcI (pc' := 124) (v := (2147483647 : Int32)) (wk G 0 rfl) (hb hby at_122) rfl ?_
          refine go_iand (pc' := 125) (z := (x2 &&& (2147483647 : Int32))) (hb hby at_124) rfl rfl ?_
          refine go_iload (pc' := 127) (hb hby at_125) rfl rfl ?_
          refine go_irem (pc' := 128) (z := ((x2 &&& (2147483647 : Int32)) % (7 : Int32))) (hb hby at_127) rfl (by decide) rfl ?_
          rcases rem7 ((x2 &&& (2147483647 : Int32))) (and_nn _ _ (by decide)) with q1012 | q1012 | q1012 | q1012 | q1012 | q1012 | q1012
          · rw [q1012]
            refine go_istore (pc' := 130) (ls' := #[.val (.int x0), .val (.int x1), .val (.int x2), .val (.int x3), .val (.int ((x0 &&& (2147483647 : Int32)) % (3 : Int32))), .val (.ref a832), .val (.ref (s_DELIVER Z)), .val (.int (7 : Int32)), .val (.int (x3 &&& (255 : Int32))), .val (.int (1 : Int32)), .val (.int (x1 &&& (3 : Int32))), .unset, .unset, .val (.ref r1001), .val (.int (0 : Int32))]) (hb hby at_128) rfl rfl ?_
            refine go_aload (pc' := 132) (hb hby at_130) rfl rfl rfl ?_
            refine go_iload (pc' := 134) (hb hby at_132) rfl rfl ?_
            refine go_iload (pc' := 136) (hb hby at_134) rfl rfl ?_
            refine go_stC (pc' := 137) (i := 0) (x' := (x3 &&& (255 : Int32))) (vs' := [(.int (x3 &&& (255 : Int32))), (.int (101 : Int32)), (.int (108 : Int32)), (.int (105 : Int32)), (.int (118 : Int32)), (.int (101 : Int32)), (.int (114 : Int32))]) f1011 (Nat.le_trans O0.2.1 (Nat.le_trans K1005.1 f1003)) (by decide) (by decide) rfl (Nat.le_of_ble_eq_true rfl) (i2c_mask _) rfl (hb hby at_136) rfl (fun h1013 W1014 A1015 => ?_)
            refine go_iload (pc' := 139) (hb hby at_137) rfl rfl ?_
            refine go_aload (pc' := 141) (hb hby at_139) rfl rfl rfl ?_
            refine go_iload (pc' := 143) (hb hby at_141) rfl rfl ?_
            have K1016 : Keep h831 h1009 [] := (K1006.trans K1010 (allS (Or.inr f1003) all0))
            have K1017 : Keep h831 h1013 [] := (K1016.wr W1014 (Or.inr f1003))
            have S1018 := (S840.keep K1017)
            refine go_old (fun O1019 => ?_)
            have E1020 := (E836.keep K1017)
            refine callV0 (cells' := 3) (slots' := 39) (Wd := 1) (argsL := [(.int (0 : Int32))]) (rest := [(.int (x3 &&& (255 : Int32)))]) (pay_chr G O1019 (i := 0) (c := (100 : Int32)) S1018 rfl (Nat.le_of_ble_eq_true rfl) rfl (by decide) (by decide)) E1020 (wk G 73 rfl) (wk G 74 rfl) (wk G 76 rfl) (wk G 76 rfl) (wk G 75 rfl) (by decide) pd5 rfl rfl (by rw [hml]; rfl) (Nat.le_of_ble_eq_true rfl) rfl rfl (by decide) (by decide) all0 (fun _ _ => sf0) (hb hby at_143) (k_v (pc' := 146) rfl ?_)
            rintro _ _ ⟨rfl, rfl⟩ -
            by_cases c1021 : (x3 &&& (255 : Int32)) = (100 : Int32)
            · refine go_icF (pc' := 149) (hb hby at_146) rfl (XT.ii_ne_f c1021) ?_
              refine go_aload (pc' := 151) (hb hby at_149) rfl rfl rfl ?_
              refine go_goto (pc' := 155) (hb hby at_151) (by decide) rfl ?_
              refine go_astore (pc' := 157) (ls' := #[.val (.int x0), .val (.int x1), .val (.int x2), .val (.int x3), .val (.int ((x0 &&& (2147483647 : Int32)) % (3 : Int32))), .val (.ref a832), .val (.ref (s_DELIVER Z)), .val (.int (7 : Int32)), .val (.int (x3 &&& (255 : Int32))), .val (.int (1 : Int32)), .val (.int (x1 &&& (3 : Int32))), .unset, .val (.ref (s_DELIVER Z)), .val (.ref r1001), .val (.int (0 : Int32))]) (hb hby at_155) rfl rfl rfl ?_
              refine go_goto (pc' := 164) (hb hby at_157) (by decide) rfl ?_
              refine go_newO (pc' := 167) (cells' := 4) (slots' := 43) (wk G 94 rfl) (wk G 3 rfl) (wk G 2 rfl) (hb hby at_164) rfl rfl rfl (by decide) (by decide) (fun h1022 a1023 g1024 X1025 E1026 D1027 U1028 => ?_)
              refine go_dup (pc' := 168) (hb hby at_167) rfl rfl ?_
              refine go_aload (pc' := 170) (hb hby at_168) rfl rfl rfl ?_
              have F1029 := D1027 (Or.inr (wk G 5 rfl)) (ty := (.array .byte)) (by decide)
              have F1030 := D1027 (Or.inr (wk G 6 rfl)) (ty := .byte) (by decide)
              have K1031 : Keep h1013 h1022 [] := ((Keep.refl h1013 []).ext X1025)
              have A1032 := (A1015.keep K1031 nin0)
              refine go_old (fun O1033 => ?_)
              have K1034 : Keep h0 h999 [] := (K1005.trans K1000 all0)
              have K1035 : Keep h0 h1009 [] := (K1034.trans K1010 (allS (Or.inr (Nat.le_trans K1005.1 f1003)) all0))
              have K1036 : Keep h0 h1013 [] := (K1035.wr W1014 (Or.inr (Nat.le_trans K1005.1 f1003)))
              refine callI0 (cells' := 5) (slots' := 50) (Wd := 1) (argsL := [(.ref r1001)]) (rest := [(.ref a1023)]) (pay_new G O1033 (cs := [(x3 &&& (255 : Int32)), (101 : Int32), (108 : Int32), (105 : Int32), (118 : Int32), (101 : Int32), (114 : Int32)]) (n := 7) (Nat.le_trans O0.2.1 (Nat.le_trans K1036.1 (Nat.le_of_eq g1024))) E1026 F1029 F1030 A1032 rfl rfl (by decide) (by decide) (c8c (c8_m _) (c8c (by decide) (c8c (by decide) (c8c (by decide) (c8c (by decide) (c8c (by decide) (c8c (by decide) c8n))))))) (by decide) (by decide)) rfl (wk G 95 rfl) (wk G 96 rfl) (wk G 97 rfl) (by decide) pd8 rfl rfl (by rw [hml]; rfl) (Nat.le_of_ble_eq_true rfl) rfl rfl (by decide) (by decide) (allS (Nat.le_trans O0.2.1 (Nat.le_trans K1036.1 (Nat.le_of_eq g1024))) all0) (fun _ hal => (sfS (safe_null hal E1026 F1029) sf0)) (hb hby at_170) (k_n (pc' := 173) rfl ?_)
              rintro h1037 S1039 K1038
              refine go_astore (pc' := 175) (ls' := #[.val (.int x0), .val (.int x1), .val (.int x2), .val (.int x3), .val (.int ((x0 &&& (2147483647 : Int32)) % (3 : Int32))), .val (.ref a832), .val (.ref (s_DELIVER Z)), .val (.int (7 : Int32)), .val (.int (x3 &&& (255 : Int32))), .val (.int (1 : Int32)), .val (.int (x1 &&& (3 : Int32))), .val (.ref a1023), .val (.ref (s_DELIVER Z)), .val (.ref r1001), .val (.int (0 : Int32))]) (hb hby at_173) rfl rfl rfl ?_
              refine go_goto (pc' := 279) (hb hby at_175) (by decide) rfl ?_
              refine go_aload (pc' := 281) (hb hby at_279) rfl rfl rfl ?_
              refine go_old (fun O1040 => ?_)
              refine callS0 (cells' := 6) (slots' := 53) (Wd := 0) (argsL := [(.ref a1023)]) (rest := []) (pay_of (a0 := a0) (c_of l G a1023 [(x3 &&& (255 : Int32)), (101 : Int32), (108 : Int32), (105 : Int32), (118 : Int32), (101 : Int32), (114 : Int32)] h1037 O1040 S1039) (wk G 28 rfl) (wk G 10 rfl) (by decide) (by decide)) (wk G 26 rfl) (wk G 27 rfl) (wk G 10 rfl) (wk G 28 rfl) (by decide) pd9 rfl rfl (by rw [hml]; rfl) (Nat.le_of_ble_eq_true rfl) rfl rfl (by decide) (by decide) all0 (fun _ _ => sf0) (hb hby at_281) (k_v (pc' := 284) rfl ?_)
              rintro _ h1041 (⟨rfl, f1043⟩ | ⟨rfl, f1044⟩ | ⟨rfl, f1045⟩ | ⟨rfl, f1046, f1047, f1048⟩) K1042
              · exact absurd f1043 (by simp)
              · refine go_aload (pc' := 286) (hb hby at_284) rfl rfl rfl ?_
                refine go_acF (pc' := 289) (hb hby at_286) rfl rfl rfl (XT.aa_ne_f rfl) ?_
                refine go_iconst (pc' := 290) (v := 1) (hb hby at_289) rfl rfl ?_
                refine go_goto (pc' := 294) (hb hby at_290) (by decide) rfl ?_
                have K1049 : Keep h0 h1022 [] := (K1036.ext X1025)
                have K1050 : Keep h0 h1037 [] := (K1049.trans K1038 (allS (Or.inr (Nat.le_trans K1036.1 (Nat.le_of_eq g1024))) all0))
                have K1051 : Keep h0 h1041 [] := (K1050.trans K1042 all0)
                refine go_ireturn hret hlk rfl (by simp) (hb hby at_294) (by decide) (by decide) ⟨_, rfl, rfl⟩ K1051
              · exact absurd f1045 (by simp)
              · exact absurd (by simp [c1021]) f1047
            · refine go_icT (pc' := 154) (hb hby at_146) (by decide) rfl (XT.ii_ne_t c1021) ?_
              refine go_aconst_null (pc' := 155) (hb hby at_154) rfl ?_
              refine go_astore (pc' := 157) (ls' := #[.val (.int x0), .val (.int x1), .val (.int x2), .val (.int x3), .val (.int ((x0 &&& (2147483647 : Int32)) % (3 : Int32))), .val (.ref a832), .val (.ref (s_DELIVER Z)), .val (.int (7 : Int32)), .val (.int (x3 &&& (255 : Int32))), .val (.int (1 : Int32)), .val (.int (x1 &&& (3 : Int32))), .unset, .val .null, .val (.ref r1001), .val (.int (0 : Int32))]) (hb hby at_155) rfl rfl rfl ?_
              refine go_goto (pc' := 164) (hb hby at_157) (by decide) rfl ?_
              refine go_newO (pc' := 167) (cells' := 4) (slots' := 43) (wk G 94 rfl) (wk G 3 rfl) (wk G 2 rfl) (hb hby at_164) rfl rfl rfl (by decide) (by decide) (fun h1052 a1053 g1054 X1055 E1056 D1057 U1058 => ?_)
              refine go_dup (pc' := 168) (hb hby at_167) rfl rfl ?_
              refine go_aload (pc' := 170) (hb hby at_168) rfl rfl rfl ?_
              have F1059 := D1057 (Or.inr (wk G 5 rfl)) (ty := (.array .byte)) (by decide)
              have F1060 := D1057 (Or.inr (wk G 6 rfl)) (ty := .byte) (by decide)
              have K1061 : Keep h1013 h1052 [] := ((Keep.refl h1013 []).ext X1055)
              have A1062 := (A1015.keep K1061 nin0)
              refine go_old (fun O1063 => ?_)
              have K1064 : Keep h0 h999 [] := (K1005.trans K1000 all0)
              have K1065 : Keep h0 h1009 [] := (K1064.trans K1010 (allS (Or.inr (Nat.le_trans K1005.1 f1003)) all0))
              have K1066 : Keep h0 h1013 [] := (K1065.wr W1014 (Or.inr (Nat.le_trans K1005.1 f1003)))
              refine callI0 (cells' := 5) (slots' := 50) (Wd := 1) (argsL := [(.ref r1001)]) (rest := [(.ref a1053)]) (pay_new G O1063 (cs := [(x3 &&& (255 : Int32)), (101 : Int32), (108 : Int32), (105 : Int32), (118 : Int32), (101 : Int32), (114 : Int32)]) (n := 7) (Nat.le_trans O0.2.1 (Nat.le_trans K1066.1 (Nat.le_of_eq g1054))) E1056 F1059 F1060 A1062 rfl rfl (by decide) (by decide) (c8c (c8_m _) (c8c (by decide) (c8c (by decide) (c8c (by decide) (c8c (by decide) (c8c (by decide) (c8c (by decide) c8n))))))) (by decide) (by decide)) rfl (wk G 95 rfl) (wk G 96 rfl) (wk G 97 rfl) (by decide) pd8 rfl rfl (by rw [hml]; rfl) (Nat.le_of_ble_eq_true rfl) rfl rfl (by decide) (by decide) (allS (Nat.le_trans O0.2.1 (Nat.le_trans K1066.1 (Nat.le_of_eq g1054))) all0) (fun _ hal => (sfS (safe_null hal E1056 F1059) sf0)) (hb hby at_170) (k_n (pc' := 173) rfl ?_)
              rintro h1067 S1069 K1068
              refine go_astore (pc' := 175) (ls' := #[.val (.int x0), .val (.int x1), .val (.int x2), .val (.int x3), .val (.int ((x0 &&& (2147483647 : Int32)) % (3 : Int32))), .val (.ref a832), .val (.ref (s_DELIVER Z)), .val (.int (7 : Int32)), .val (.int (x3 &&& (255 : Int32))), .val (.int (1 : Int32)), .val (.int (x1 &&& (3 : Int32))), .val (.ref a1053), .val .null, .val (.ref r1001), .val (.int (0 : Int32))]) (hb hby at_173) rfl rfl rfl ?_
              refine go_goto (pc' := 279) (hb hby at_175) (by decide) rfl ?_
              refine go_aload (pc' := 281) (hb hby at_279) rfl rfl rfl ?_
              refine go_old (fun O1070 => ?_)
              refine callS0 (cells' := 6) (slots' := 53) (Wd := 0) (argsL := [(.ref a1053)]) (rest := []) (pay_of (a0 := a0) (c_of l G a1053 [(x3 &&& (255 : Int32)), (101 : Int32), (108 : Int32), (105 : Int32), (118 : Int32), (101 : Int32), (114 : Int32)] h1067 O1070 S1069) (wk G 28 rfl) (wk G 10 rfl) (by decide) (by decide)) (wk G 26 rfl) (wk G 27 rfl) (wk G 10 rfl) (wk G 28 rfl) (by decide) pd9 rfl rfl (by rw [hml]; rfl) (Nat.le_of_ble_eq_true rfl) rfl rfl (by decide) (by decide) all0 (fun _ _ => sf0) (hb hby at_281) (k_v (pc' := 284) rfl ?_)
              rintro _ h1071 (⟨rfl, f1073⟩ | ⟨rfl, f1074⟩ | ⟨rfl, f1075⟩ | ⟨rfl, f1076, f1077, f1078⟩) K1072
              · exact absurd f1073 (by simp)
              · exact absurd f1074 (by simp [Ne.symm c1021])
              · exact absurd f1075 (by simp)
              · refine go_aload (pc' := 286) (hb hby at_284) rfl rfl rfl ?_
                refine go_acF (pc' := 289) (hb hby at_286) rfl rfl rfl (XT.aa_ne_f rfl) ?_
                refine go_iconst (pc' := 290) (v := 1) (hb hby at_289) rfl rfl ?_
                refine go_goto (pc' := 294) (hb hby at_290) (by decide) rfl ?_
                have K1079 : Keep h0 h1052 [] := (K1066.ext X1055)
                have K1080 : Keep h0 h1067 [] := (K1079.trans K1068 (allS (Or.inr (Nat.le_trans K1066.1 (Nat.le_of_eq g1054))) all0))
                have K1081 : Keep h0 h1071 [] := (K1080.trans K1072 all0)
                refine go_ireturn hret hlk rfl (by simp) (hb hby at_294) (by decide) (by decide) ⟨_, rfl, rfl⟩ K1081
          · rw [q1012]
            refine go_istore (pc' := 130) (ls' := #[.val (.int x0), .val (.int x1), .val (.int x2), .val (.int x3), .val (.int ((x0 &&& (2147483647 : Int32)) % (3 : Int32))), .val (.ref a832), .val (.ref (s_DELIVER Z)), .val (.int (7 : Int32)), .val (.int (x3 &&& (255 : Int32))), .val (.int (1 : Int32)), .val (.int (x1 &&& (3 : Int32))), .unset, .unset, .val (.ref r1001), .val (.int (1 : Int32))]) (hb hby at_128) rfl rfl ?_
            refine go_aload (pc' := 132) (hb hby at_130) rfl rfl rfl ?_
            refine go_iload (pc' := 134) (hb hby at_132) rfl rfl ?_
            refine go_iload (pc' := 136) (hb hby at_134) rfl rfl ?_
            refine go_stC (pc' := 137) (i := 1) (x' := (x3 &&& (255 : Int32))) (vs' := [(.int (100 : Int32)), (.int (x3 &&& (255 : Int32))), (.int (108 : Int32)), (.int (105 : Int32)), (.int (118 : Int32)), (.int (101 : Int32)), (.int (114 : Int32))]) f1011 (Nat.le_trans O0.2.1 (Nat.le_trans K1005.1 f1003)) (by decide) (by decide) rfl (Nat.le_of_ble_eq_true rfl) (i2c_mask _) rfl (hb hby at_136) rfl (fun h1082 W1083 A1084 => ?_)
            refine go_iload (pc' := 139) (hb hby at_137) rfl rfl ?_
            refine go_aload (pc' := 141) (hb hby at_139) rfl rfl rfl ?_
            refine go_iload (pc' := 143) (hb hby at_141) rfl rfl ?_
            have K1085 : Keep h831 h1009 [] := (K1006.trans K1010 (allS (Or.inr f1003) all0))
            have K1086 : Keep h831 h1082 [] := (K1085.wr W1083 (Or.inr f1003))
            have S1087 := (S840.keep K1086)
            refine go_old (fun O1088 => ?_)
            have E1089 := (E836.keep K1086)
            refine callV0 (cells' := 3) (slots' := 39) (Wd := 1) (argsL := [(.int (1 : Int32))]) (rest := [(.int (x3 &&& (255 : Int32)))]) (pay_chr G O1088 (i := 1) (c := (101 : Int32)) S1087 rfl (Nat.le_of_ble_eq_true rfl) rfl (by decide) (by decide)) E1089 (wk G 73 rfl) (wk G 74 rfl) (wk G 76 rfl) (wk G 76 rfl) (wk G 75 rfl) (by decide) pd5 rfl rfl (by rw [hml]; rfl) (Nat.le_of_ble_eq_true rfl) rfl rfl (by decide) (by decide) all0 (fun _ _ => sf0) (hb hby at_143) (k_v (pc' := 146) rfl ?_)
            rintro _ _ ⟨rfl, rfl⟩ -
            by_cases c1090 : (x3 &&& (255 : Int32)) = (101 : Int32)
            · refine go_icF (pc' := 149) (hb hby at_146) rfl (XT.ii_ne_f c1090) ?_
              refine go_aload (pc' := 151) (hb hby at_149) rfl rfl rfl ?_
              refine go_goto (pc' := 155) (hb hby at_151) (by decide) rfl ?_
              refine go_astore (pc' := 157) (ls' := #[.val (.int x0), .val (.int x1), .val (.int x2), .val (.int x3), .val (.int ((x0 &&& (2147483647 : Int32)) % (3 : Int32))), .val (.ref a832), .val (.ref (s_DELIVER Z)), .val (.int (7 : Int32)), .val (.int (x3 &&& (255 : Int32))), .val (.int (1 : Int32)), .val (.int (x1 &&& (3 : Int32))), .unset, .val (.ref (s_DELIVER Z)), .val (.ref r1001), .val (.int (1 : Int32))]) (hb hby at_155) rfl rfl rfl ?_
              refine go_goto (pc' := 164) (hb hby at_157) (by decide) rfl ?_
              refine go_newO (pc' := 167) (cells' := 4) (slots' := 43) (wk G 94 rfl) (wk G 3 rfl) (wk G 2 rfl) (hb hby at_164) rfl rfl rfl (by decide) (by decide) (fun h1091 a1092 g1093 X1094 E1095 D1096 U1097 => ?_)
              refine go_dup (pc' := 168) (hb hby at_167) rfl rfl ?_
              refine go_aload (pc' := 170) (hb hby at_168) rfl rfl rfl ?_
              have F1098 := D1096 (Or.inr (wk G 5 rfl)) (ty := (.array .byte)) (by decide)
              have F1099 := D1096 (Or.inr (wk G 6 rfl)) (ty := .byte) (by decide)
              have K1100 : Keep h1082 h1091 [] := ((Keep.refl h1082 []).ext X1094)
              have A1101 := (A1084.keep K1100 nin0)
              refine go_old (fun O1102 => ?_)
              have K1103 : Keep h0 h999 [] := (K1005.trans K1000 all0)
              have K1104 : Keep h0 h1009 [] := (K1103.trans K1010 (allS (Or.inr (Nat.le_trans K1005.1 f1003)) all0))
              have K1105 : Keep h0 h1082 [] := (K1104.wr W1083 (Or.inr (Nat.le_trans K1005.1 f1003)))
              refine callI0 (cells' := 5) (slots' := 50) (Wd := 1) (argsL := [(.ref r1001)]) (rest := [(.ref a1092)]) (pay_new G O1102 (cs := [(100 : Int32), (x3 &&& (255 : Int32)), (108 : Int32), (105 : Int32), (118 : Int32), (101 : Int32), (114 : Int32)]) (n := 7) (Nat.le_trans O0.2.1 (Nat.le_trans K1105.1 (Nat.le_of_eq g1093))) E1095 F1098 F1099 A1101 rfl rfl (by decide) (by decide) (c8c (by decide) (c8c (c8_m _) (c8c (by decide) (c8c (by decide) (c8c (by decide) (c8c (by decide) (c8c (by decide) c8n))))))) (by decide) (by decide)) rfl (wk G 95 rfl) (wk G 96 rfl) (wk G 97 rfl) (by decide) pd8 rfl rfl (by rw [hml]; rfl) (Nat.le_of_ble_eq_true rfl) rfl rfl (by decide) (by decide) (allS (Nat.le_trans O0.2.1 (Nat.le_trans K1105.1 (Nat.le_of_eq g1093))) all0) (fun _ hal => (sfS (safe_null hal E1095 F1098) sf0)) (hb hby at_170) (k_n (pc' := 173) rfl ?_)
              rintro h1106 S1108 K1107
              refine go_astore (pc' := 175) (ls' := #[.val (.int x0), .val (.int x1), .val (.int x2), .val (.int x3), .val (.int ((x0 &&& (2147483647 : Int32)) % (3 : Int32))), .val (.ref a832), .val (.ref (s_DELIVER Z)), .val (.int (7 : Int32)), .val (.int (x3 &&& (255 : Int32))), .val (.int (1 : Int32)), .val (.int (x1 &&& (3 : Int32))), .val (.ref a1092), .val (.ref (s_DELIVER Z)), .val (.ref r1001), .val (.int (1 : Int32))]) (hb hby at_173) rfl rfl rfl ?_
              refine go_goto (pc' := 279) (hb hby at_175) (by decide) rfl ?_
              refine go_aload (pc' := 281) (hb hby at_279) rfl rfl rfl ?_
              refine go_old (fun O1109 => ?_)
              refine callS0 (cells' := 6) (slots' := 53) (Wd := 0) (argsL := [(.ref a1092)]) (rest := []) (pay_of (a0 := a0) (c_of l G a1092 [(100 : Int32), (x3 &&& (255 : Int32)), (108 : Int32), (105 : Int32), (118 : Int32), (101 : Int32), (114 : Int32)] h1106 O1109 S1108) (wk G 28 rfl) (wk G 10 rfl) (by decide) (by decide)) (wk G 26 rfl) (wk G 27 rfl) (wk G 10 rfl) (wk G 28 rfl) (by decide) pd9 rfl rfl (by rw [hml]; rfl) (Nat.le_of_ble_eq_true rfl) rfl rfl (by decide) (by decide) all0 (fun _ _ => sf0) (hb hby at_281) (k_v (pc' := 284) rfl ?_)
              rintro _ h1110 (⟨rfl, f1112⟩ | ⟨rfl, f1113⟩ | ⟨rfl, f1114⟩ | ⟨rfl, f1115, f1116, f1117⟩) K1111
              · exact absurd f1112 (by simp)
              · refine go_aload (pc' := 286) (hb hby at_284) rfl rfl rfl ?_
                refine go_acF (pc' := 289) (hb hby at_286) rfl rfl rfl (XT.aa_ne_f rfl) ?_
                refine go_iconst (pc' := 290) (v := 1) (hb hby at_289) rfl rfl ?_
                refine go_goto (pc' := 294) (hb hby at_290) (by decide) rfl ?_
                have K1118 : Keep h0 h1091 [] := (K1105.ext X1094)
                have K1119 : Keep h0 h1106 [] := (K1118.trans K1107 (allS (Or.inr (Nat.le_trans K1105.1 (Nat.le_of_eq g1093))) all0))
                have K1120 : Keep h0 h1110 [] := (K1119.trans K1111 all0)
                refine go_ireturn hret hlk rfl (by simp) (hb hby at_294) (by decide) (by decide) ⟨_, rfl, rfl⟩ K1120
              · exact absurd f1114 (by simp)
              · exact absurd (by simp [c1090]) f1116
            · refine go_icT (pc' := 154) (hb hby at_146) (by decide) rfl (XT.ii_ne_t c1090) ?_
              refine go_aconst_null (pc' := 155) (hb hby at_154) rfl ?_
              refine go_astore (pc' := 157) (ls' := #[.val (.int x0), .val (.int x1), .val (.int x2), .val (.int x3), .val (.int ((x0 &&& (2147483647 : Int32)) % (3 : Int32))), .val (.ref a832), .val (.ref (s_DELIVER Z)), .val (.int (7 : Int32)), .val (.int (x3 &&& (255 : Int32))), .val (.int (1 : Int32)), .val (.int (x1 &&& (3 : Int32))), .unset, .val .null, .val (.ref r1001), .val (.int (1 : Int32))]) (hb hby at_155) rfl rfl rfl ?_
              refine go_goto (pc' := 164) (hb hby at_157) (by decide) rfl ?_
              refine go_newO (pc' := 167) (cells' := 4) (slots' := 43) (wk G 94 rfl) (wk G 3 rfl) (wk G 2 rfl) (hb hby at_164) rfl rfl rfl (by decide) (by decide) (fun h1121 a1122 g1123 X1124 E1125 D1126 U1127 => ?_)
              refine go_dup (pc' := 168) (hb hby at_167) rfl rfl ?_
              refine go_aload (pc' := 170) (hb hby at_168) rfl rfl rfl ?_
              have F1128 := D1126 (Or.inr (wk G 5 rfl)) (ty := (.array .byte)) (by decide)
              have F1129 := D1126 (Or.inr (wk G 6 rfl)) (ty := .byte) (by decide)
              have K1130 : Keep h1082 h1121 [] := ((Keep.refl h1082 []).ext X1124)
              have A1131 := (A1084.keep K1130 nin0)
              refine go_old (fun O1132 => ?_)
              have K1133 : Keep h0 h999 [] := (K1005.trans K1000 all0)
              have K1134 : Keep h0 h1009 [] := (K1133.trans K1010 (allS (Or.inr (Nat.le_trans K1005.1 f1003)) all0))
              have K1135 : Keep h0 h1082 [] := (K1134.wr W1083 (Or.inr (Nat.le_trans K1005.1 f1003)))
              refine callI0 (cells' := 5) (slots' := 50) (Wd := 1) (argsL := [(.ref r1001)]) (rest := [(.ref a1122)]) (pay_new G O1132 (cs := [(100 : Int32), (x3 &&& (255 : Int32)), (108 : Int32), (105 : Int32), (118 : Int32), (101 : Int32), (114 : Int32)]) (n := 7) (Nat.le_trans O0.2.1 (Nat.le_trans K1135.1 (Nat.le_of_eq g1123))) E1125 F1128 F1129 A1131 rfl rfl (by decide) (by decide) (c8c (by decide) (c8c (c8_m _) (c8c (by decide) (c8c (by decide) (c8c (by decide) (c8c (by decide) (c8c (by decide) c8n))))))) (by decide) (by decide)) rfl (wk G 95 rfl) (wk G 96 rfl) (wk G 97 rfl) (by decide) pd8 rfl rfl (by rw [hml]; rfl) (Nat.le_of_ble_eq_true rfl) rfl rfl (by decide) (by decide) (allS (Nat.le_trans O0.2.1 (Nat.le_trans K1135.1 (Nat.le_of_eq g1123))) all0) (fun _ hal => (sfS (safe_null hal E1125 F1128) sf0)) (hb hby at_170) (k_n (pc' := 173) rfl ?_)
              rintro h1136 S1138 K1137
              refine go_astore (pc' := 175) (ls' := #[.val (.int x0), .val (.int x1), .val (.int x2), .val (.int x3), .val (.int ((x0 &&& (2147483647 : Int32)) % (3 : Int32))), .val (.ref a832), .val (.ref (s_DELIVER Z)), .val (.int (7 : Int32)), .val (.int (x3 &&& (255 : Int32))), .val (.int (1 : Int32)), .val (.int (x1 &&& (3 : Int32))), .val (.ref a1122), .val .null, .val (.ref r1001), .val (.int (1 : Int32))]) (hb hby at_173) rfl rfl rfl ?_
              refine go_goto (pc' := 279) (hb hby at_175) (by decide) rfl ?_
              refine go_aload (pc' := 281) (hb hby at_279) rfl rfl rfl ?_
              refine go_old (fun O1139 => ?_)
              refine callS0 (cells' := 6) (slots' := 53) (Wd := 0) (argsL := [(.ref a1122)]) (rest := []) (pay_of (a0 := a0) (c_of l G a1122 [(100 : Int32), (x3 &&& (255 : Int32)), (108 : Int32), (105 : Int32), (118 : Int32), (101 : Int32), (114 : Int32)] h1136 O1139 S1138) (wk G 28 rfl) (wk G 10 rfl) (by decide) (by decide)) (wk G 26 rfl) (wk G 27 rfl) (wk G 10 rfl) (wk G 28 rfl) (by decide) pd9 rfl rfl (by rw [hml]; rfl) (Nat.le_of_ble_eq_true rfl) rfl rfl (by decide) (by decide) all0 (fun _ _ => sf0) (hb hby at_281) (k_v (pc' := 284) rfl ?_)
              rintro _ h1140 (⟨rfl, f1142⟩ | ⟨rfl, f1143⟩ | ⟨rfl, f1144⟩ | ⟨rfl, f1145, f1146, f1147⟩) K1141
              · exact absurd f1142 (by simp)
              · exact absurd f1143 (by simp [Ne.symm c1090])
              · exact absurd f1144 (by simp)
              · refine go_aload (pc' := 286) (hb hby at_284) rfl rfl rfl ?_
                refine go_acF (pc' := 289) (hb hby at_286) rfl rfl rfl (XT.aa_ne_f rfl) ?_
                refine go_iconst (pc' := 290) (v := 1) (hb hby at_289) rfl rfl ?_
                refine go_goto (pc' := 294) (hb hby at_290) (by decide) rfl ?_
                have K1148 : Keep h0 h1121 [] := (K1135.ext X1124)
                have K1149 : Keep h0 h1136 [] := (K1148.trans K1137 (allS (Or.inr (Nat.le_trans K1135.1 (Nat.le_of_eq g1123))) all0))
                have K1150 : Keep h0 h1140 [] := (K1149.trans K1141 all0)
                refine go_ireturn hret hlk rfl (by simp) (hb hby at_294) (by decide) (by decide) ⟨_, rfl, rfl⟩ K1150
          · rw [q1012]
            refine go_istore (pc' := 130) (ls' := #[.val (.int x0), .val (.int x1), .val (.int x2), .val (.int x3), .val (.int ((x0 &&& (2147483647 : Int32)) % (3 : Int32))), .val (.ref a832), .val (.ref (s_DELIVER Z)), .val (.int (7 : Int32)), .val (.int (x3 &&& (255 : Int32))), .val (.int (1 : Int32)), .val (.int (x1 &&& (3 : Int32))), .unset, .unset, .val (.ref r1001), .val (.int (2 : Int32))]) (hb hby at_128) rfl rfl ?_
            refine go_aload (pc' := 132) (hb hby at_130) rfl rfl rfl ?_
            refine go_iload (pc' := 134) (hb hby at_132) rfl rfl ?_
            refine go_iload (pc' := 136) (hb hby at_134) rfl rfl ?_
            refine go_stC (pc' := 137) (i := 2) (x' := (x3 &&& (255 : Int32))) (vs' := [(.int (100 : Int32)), (.int (101 : Int32)), (.int (x3 &&& (255 : Int32))), (.int (105 : Int32)), (.int (118 : Int32)), (.int (101 : Int32)), (.int (114 : Int32))]) f1011 (Nat.le_trans O0.2.1 (Nat.le_trans K1005.1 f1003)) (by decide) (by decide) rfl (Nat.le_of_ble_eq_true rfl) (i2c_mask _) rfl (hb hby at_136) rfl (fun h1151 W1152 A1153 => ?_)
            refine go_iload (pc' := 139) (hb hby at_137) rfl rfl ?_
            refine go_aload (pc' := 141) (hb hby at_139) rfl rfl rfl ?_
            refine go_iload (pc' := 143) (hb hby at_141) rfl rfl ?_
            have K1154 : Keep h831 h1009 [] := (K1006.trans K1010 (allS (Or.inr f1003) all0))
            have K1155 : Keep h831 h1151 [] := (K1154.wr W1152 (Or.inr f1003))
            have S1156 := (S840.keep K1155)
            refine go_old (fun O1157 => ?_)
            have E1158 := (E836.keep K1155)
            refine callV0 (cells' := 3) (slots' := 39) (Wd := 1) (argsL := [(.int (2 : Int32))]) (rest := [(.int (x3 &&& (255 : Int32)))]) (pay_chr G O1157 (i := 2) (c := (108 : Int32)) S1156 rfl (Nat.le_of_ble_eq_true rfl) rfl (by decide) (by decide)) E1158 (wk G 73 rfl) (wk G 74 rfl) (wk G 76 rfl) (wk G 76 rfl) (wk G 75 rfl) (by decide) pd5 rfl rfl (by rw [hml]; rfl) (Nat.le_of_ble_eq_true rfl) rfl rfl (by decide) (by decide) all0 (fun _ _ => sf0) (hb hby at_143) (k_v (pc' := 146) rfl ?_)
            rintro _ _ ⟨rfl, rfl⟩ -
            by_cases c1159 : (x3 &&& (255 : Int32)) = (108 : Int32)
            · refine go_icF (pc' := 149) (hb hby at_146) rfl (XT.ii_ne_f c1159) ?_
              refine go_aload (pc' := 151) (hb hby at_149) rfl rfl rfl ?_
              refine go_goto (pc' := 155) (hb hby at_151) (by decide) rfl ?_
              refine go_astore (pc' := 157) (ls' := #[.val (.int x0), .val (.int x1), .val (.int x2), .val (.int x3), .val (.int ((x0 &&& (2147483647 : Int32)) % (3 : Int32))), .val (.ref a832), .val (.ref (s_DELIVER Z)), .val (.int (7 : Int32)), .val (.int (x3 &&& (255 : Int32))), .val (.int (1 : Int32)), .val (.int (x1 &&& (3 : Int32))), .unset, .val (.ref (s_DELIVER Z)), .val (.ref r1001), .val (.int (2 : Int32))]) (hb hby at_155) rfl rfl rfl ?_
              refine go_goto (pc' := 164) (hb hby at_157) (by decide) rfl ?_
              refine go_newO (pc' := 167) (cells' := 4) (slots' := 43) (wk G 94 rfl) (wk G 3 rfl) (wk G 2 rfl) (hb hby at_164) rfl rfl rfl (by decide) (by decide) (fun h1160 a1161 g1162 X1163 E1164 D1165 U1166 => ?_)
              refine go_dup (pc' := 168) (hb hby at_167) rfl rfl ?_
              refine go_aload (pc' := 170) (hb hby at_168) rfl rfl rfl ?_
              have F1167 := D1165 (Or.inr (wk G 5 rfl)) (ty := (.array .byte)) (by decide)
              have F1168 := D1165 (Or.inr (wk G 6 rfl)) (ty := .byte) (by decide)
              have K1169 : Keep h1151 h1160 [] := ((Keep.refl h1151 []).ext X1163)
              have A1170 := (A1153.keep K1169 nin0)
              refine go_old (fun O1171 => ?_)
              have K1172 : Keep h0 h999 [] := (K1005.trans K1000 all0)
              have K1173 : Keep h0 h1009 [] := (K1172.trans K1010 (allS (Or.inr (Nat.le_trans K1005.1 f1003)) all0))
              have K1174 : Keep h0 h1151 [] := (K1173.wr W1152 (Or.inr (Nat.le_trans K1005.1 f1003)))
              refine callI0 (cells' := 5) (slots' := 50) (Wd := 1) (argsL := [(.ref r1001)]) (rest := [(.ref a1161)]) (pay_new G O1171 (cs := [(100 : Int32), (101 : Int32), (x3 &&& (255 : Int32)), (105 : Int32), (118 : Int32), (101 : Int32), (114 : Int32)]) (n := 7) (Nat.le_trans O0.2.1 (Nat.le_trans K1174.1 (Nat.le_of_eq g1162))) E1164 F1167 F1168 A1170 rfl rfl (by decide) (by decide) (c8c (by decide) (c8c (by decide) (c8c (c8_m _) (c8c (by decide) (c8c (by decide) (c8c (by decide) (c8c (by decide) c8n))))))) (by decide) (by decide)) rfl (wk G 95 rfl) (wk G 96 rfl) (wk G 97 rfl) (by decide) pd8 rfl rfl (by rw [hml]; rfl) (Nat.le_of_ble_eq_true rfl) rfl rfl (by decide) (by decide) (allS (Nat.le_trans O0.2.1 (Nat.le_trans K1174.1 (Nat.le_of_eq g1162))) all0) (fun _ hal => (sfS (safe_null hal E1164 F1167) sf0)) (hb hby at_170) (k_n (pc' := 173) rfl ?_)
              rintro h1175 S1177 K1176
              refine go_astore (pc' := 175) (ls' := #[.val (.int x0), .val (.int x1), .val (.int x2), .val (.int x3), .val (.int ((x0 &&& (2147483647 : Int32)) % (3 : Int32))), .val (.ref a832), .val (.ref (s_DELIVER Z)), .val (.int (7 : Int32)), .val (.int (x3 &&& (255 : Int32))), .val (.int (1 : Int32)), .val (.int (x1 &&& (3 : Int32))), .val (.ref a1161), .val (.ref (s_DELIVER Z)), .val (.ref r1001), .val (.int (2 : Int32))]) (hb hby at_173) rfl rfl rfl ?_
              refine go_goto (pc' := 279) (hb hby at_175) (by decide) rfl ?_
              refine go_aload (pc' := 281) (hb hby at_279) rfl rfl rfl ?_
              refine go_old (fun O1178 => ?_)
              refine callS0 (cells' := 6) (slots' := 53) (Wd := 0) (argsL := [(.ref a1161)]) (rest := []) (pay_of (a0 := a0) (c_of l G a1161 [(100 : Int32), (101 : Int32), (x3 &&& (255 : Int32)), (105 : Int32), (118 : Int32), (101 : Int32), (114 : Int32)] h1175 O1178 S1177) (wk G 28 rfl) (wk G 10 rfl) (by decide) (by decide)) (wk G 26 rfl) (wk G 27 rfl) (wk G 10 rfl) (wk G 28 rfl) (by decide) pd9 rfl rfl (by rw [hml]; rfl) (Nat.le_of_ble_eq_true rfl) rfl rfl (by decide) (by decide) all0 (fun _ _ => sf0) (hb hby at_281) (k_v (pc' := 284) rfl ?_)
              rintro _ h1179 (⟨rfl, f1181⟩ | ⟨rfl, f1182⟩ | ⟨rfl, f1183⟩ | ⟨rfl, f1184, f1185, f1186⟩) K1180
              · exact absurd f1181 (by simp)
              · refine go_aload (pc' := 286) (hb hby at_284) rfl rfl rfl ?_
                refine go_acF (pc' := 289) (hb hby at_286) rfl rfl rfl (XT.aa_ne_f rfl) ?_
                refine go_iconst (pc' := 290) (v := 1) (hb hby at_289) rfl rfl ?_
                refine go_goto (pc' := 294) (hb hby at_290) (by decide) rfl ?_
                have K1187 : Keep h0 h1160 [] := (K1174.ext X1163)
                have K1188 : Keep h0 h1175 [] := (K1187.trans K1176 (allS (Or.inr (Nat.le_trans K1174.1 (Nat.le_of_eq g1162))) all0))
                have K1189 : Keep h0 h1179 [] := (K1188.trans K1180 all0)
                refine go_ireturn hret hlk rfl (by simp) (hb hby at_294) (by decide) (by decide) ⟨_, rfl, rfl⟩ K1189
              · exact absurd f1183 (by simp)
              · exact absurd (by simp [c1159]) f1185
            · refine go_icT (pc' := 154) (hb hby at_146) (by decide) rfl (XT.ii_ne_t c1159) ?_
              refine go_aconst_null (pc' := 155) (hb hby at_154) rfl ?_
              refine go_astore (pc' := 157) (ls' := #[.val (.int x0), .val (.int x1), .val (.int x2), .val (.int x3), .val (.int ((x0 &&& (2147483647 : Int32)) % (3 : Int32))), .val (.ref a832), .val (.ref (s_DELIVER Z)), .val (.int (7 : Int32)), .val (.int (x3 &&& (255 : Int32))), .val (.int (1 : Int32)), .val (.int (x1 &&& (3 : Int32))), .unset, .val .null, .val (.ref r1001), .val (.int (2 : Int32))]) (hb hby at_155) rfl rfl rfl ?_
              refine go_goto (pc' := 164) (hb hby at_157) (by decide) rfl ?_
              refine go_newO (pc' := 167) (cells' := 4) (slots' := 43) (wk G 94 rfl) (wk G 3 rfl) (wk G 2 rfl) (hb hby at_164) rfl rfl rfl (by decide) (by decide) (fun h1190 a1191 g1192 X1193 E1194 D1195 U1196 => ?_)
              refine go_dup (pc' := 168) (hb hby at_167) rfl rfl ?_
              refine go_aload (pc' := 170) (hb hby at_168) rfl rfl rfl ?_
              have F1197 := D1195 (Or.inr (wk G 5 rfl)) (ty := (.array .byte)) (by decide)
              have F1198 := D1195 (Or.inr (wk G 6 rfl)) (ty := .byte) (by decide)
              have K1199 : Keep h1151 h1190 [] := ((Keep.refl h1151 []).ext X1193)
              have A1200 := (A1153.keep K1199 nin0)
              refine go_old (fun O1201 => ?_)
              have K1202 : Keep h0 h999 [] := (K1005.trans K1000 all0)
              have K1203 : Keep h0 h1009 [] := (K1202.trans K1010 (allS (Or.inr (Nat.le_trans K1005.1 f1003)) all0))
              have K1204 : Keep h0 h1151 [] := (K1203.wr W1152 (Or.inr (Nat.le_trans K1005.1 f1003)))
              refine callI0 (cells' := 5) (slots' := 50) (Wd := 1) (argsL := [(.ref r1001)]) (rest := [(.ref a1191)]) (pay_new G O1201 (cs := [(100 : Int32), (101 : Int32), (x3 &&& (255 : Int32)), (105 : Int32), (118 : Int32), (101 : Int32), (114 : Int32)]) (n := 7) (Nat.le_trans O0.2.1 (Nat.le_trans K1204.1 (Nat.le_of_eq g1192))) E1194 F1197 F1198 A1200 rfl rfl (by decide) (by decide) (c8c (by decide) (c8c (by decide) (c8c (c8_m _) (c8c (by decide) (c8c (by decide) (c8c (by decide) (c8c (by decide) c8n))))))) (by decide) (by decide)) rfl (wk G 95 rfl) (wk G 96 rfl) (wk G 97 rfl) (by decide) pd8 rfl rfl (by rw [hml]; rfl) (Nat.le_of_ble_eq_true rfl) rfl rfl (by decide) (by decide) (allS (Nat.le_trans O0.2.1 (Nat.le_trans K1204.1 (Nat.le_of_eq g1192))) all0) (fun _ hal => (sfS (safe_null hal E1194 F1197) sf0)) (hb hby at_170) (k_n (pc' := 173) rfl ?_)
              rintro h1205 S1207 K1206
              refine go_astore (pc' := 175) (ls' := #[.val (.int x0), .val (.int x1), .val (.int x2), .val (.int x3), .val (.int ((x0 &&& (2147483647 : Int32)) % (3 : Int32))), .val (.ref a832), .val (.ref (s_DELIVER Z)), .val (.int (7 : Int32)), .val (.int (x3 &&& (255 : Int32))), .val (.int (1 : Int32)), .val (.int (x1 &&& (3 : Int32))), .val (.ref a1191), .val .null, .val (.ref r1001), .val (.int (2 : Int32))]) (hb hby at_173) rfl rfl rfl ?_
              refine go_goto (pc' := 279) (hb hby at_175) (by decide) rfl ?_
              refine go_aload (pc' := 281) (hb hby at_279) rfl rfl rfl ?_
              refine go_old (fun O1208 => ?_)
              refine callS0 (cells' := 6) (slots' := 53) (Wd := 0) (argsL := [(.ref a1191)]) (rest := []) (pay_of (a0 := a0) (c_of l G a1191 [(100 : Int32), (101 : Int32), (x3 &&& (255 : Int32)), (105 : Int32), (118 : Int32), (101 : Int32), (114 : Int32)] h1205 O1208 S1207) (wk G 28 rfl) (wk G 10 rfl) (by decide) (by decide)) (wk G 26 rfl) (wk G 27 rfl) (wk G 10 rfl) (wk G 28 rfl) (by decide) pd9 rfl rfl (by rw [hml]; rfl) (Nat.le_of_ble_eq_true rfl) rfl rfl (by decide) (by decide) all0 (fun _ _ => sf0) (hb hby at_281) (k_v (pc' := 284) rfl ?_)
              rintro _ h1209 (⟨rfl, f1211⟩ | ⟨rfl, f1212⟩ | ⟨rfl, f1213⟩ | ⟨rfl, f1214, f1215, f1216⟩) K1210
              · exact absurd f1211 (by simp)
              · exact absurd f1212 (by simp [Ne.symm c1159])
              · exact absurd f1213 (by simp)
              · refine go_aload (pc' := 286) (hb hby at_284) rfl rfl rfl ?_
                refine go_acF (pc' := 289) (hb hby at_286) rfl rfl rfl (XT.aa_ne_f rfl) ?_
                refine go_iconst (pc' := 290) (v := 1) (hb hby at_289) rfl rfl ?_
                refine go_goto (pc' := 294) (hb hby at_290) (by decide) rfl ?_
                have K1217 : Keep h0 h1190 [] := (K1204.ext X1193)
                have K1218 : Keep h0 h1205 [] := (K1217.trans K1206 (allS (Or.inr (Nat.le_trans K1204.1 (Nat.le_of_eq g1192))) all0))
                have K1219 : Keep h0 h1209 [] := (K1218.trans K1210 all0)
                refine go_ireturn hret hlk rfl (by simp) (hb hby at_294) (by decide) (by decide) ⟨_, rfl, rfl⟩ K1219
          · rw [q1012]
            refine go_istore (pc' := 130) (ls' := #[.val (.int x0), .val (.int x1), .val (.int x2), .val (.int x3), .val (.int ((x0 &&& (2147483647 : Int32)) % (3 : Int32))), .val (.ref a832), .val (.ref (s_DELIVER Z)), .val (.int (7 : Int32)), .val (.int (x3 &&& (255 : Int32))), .val (.int (1 : Int32)), .val (.int (x1 &&& (3 : Int32))), .unset, .unset, .val (.ref r1001), .val (.int (3 : Int32))]) (hb hby at_128) rfl rfl ?_
            refine go_aload (pc' := 132) (hb hby at_130) rfl rfl rfl ?_
            refine go_iload (pc' := 134) (hb hby at_132) rfl rfl ?_
            refine go_iload (pc' := 136) (hb hby at_134) rfl rfl ?_
            refine go_stC (pc' := 137) (i := 3) (x' := (x3 &&& (255 : Int32))) (vs' := [(.int (100 : Int32)), (.int (101 : Int32)), (.int (108 : Int32)), (.int (x3 &&& (255 : Int32))), (.int (118 : Int32)), (.int (101 : Int32)), (.int (114 : Int32))]) f1011 (Nat.le_trans O0.2.1 (Nat.le_trans K1005.1 f1003)) (by decide) (by decide) rfl (Nat.le_of_ble_eq_true rfl) (i2c_mask _) rfl (hb hby at_136) rfl (fun h1220 W1221 A1222 => ?_)
            refine go_iload (pc' := 139) (hb hby at_137) rfl rfl ?_
            refine go_aload (pc' := 141) (hb hby at_139) rfl rfl rfl ?_
            refine go_iload (pc' := 143) (hb hby at_141) rfl rfl ?_
            have K1223 : Keep h831 h1009 [] := (K1006.trans K1010 (allS (Or.inr f1003) all0))
            have K1224 : Keep h831 h1220 [] := (K1223.wr W1221 (Or.inr f1003))
            have S1225 := (S840.keep K1224)
            refine go_old (fun O1226 => ?_)
            have E1227 := (E836.keep K1224)
            refine callV0 (cells' := 3) (slots' := 39) (Wd := 1) (argsL := [(.int (3 : Int32))]) (rest := [(.int (x3 &&& (255 : Int32)))]) (pay_chr G O1226 (i := 3) (c := (105 : Int32)) S1225 rfl (Nat.le_of_ble_eq_true rfl) rfl (by decide) (by decide)) E1227 (wk G 73 rfl) (wk G 74 rfl) (wk G 76 rfl) (wk G 76 rfl) (wk G 75 rfl) (by decide) pd5 rfl rfl (by rw [hml]; rfl) (Nat.le_of_ble_eq_true rfl) rfl rfl (by decide) (by decide) all0 (fun _ _ => sf0) (hb hby at_143) (k_v (pc' := 146) rfl ?_)
            rintro _ _ ⟨rfl, rfl⟩ -
            by_cases c1228 : (x3 &&& (255 : Int32)) = (105 : Int32)
            · refine go_icF (pc' := 149) (hb hby at_146) rfl (XT.ii_ne_f c1228) ?_
              refine go_aload (pc' := 151) (hb hby at_149) rfl rfl rfl ?_
              refine go_goto (pc' := 155) (hb hby at_151) (by decide) rfl ?_
              refine go_astore (pc' := 157) (ls' := #[.val (.int x0), .val (.int x1), .val (.int x2), .val (.int x3), .val (.int ((x0 &&& (2147483647 : Int32)) % (3 : Int32))), .val (.ref a832), .val (.ref (s_DELIVER Z)), .val (.int (7 : Int32)), .val (.int (x3 &&& (255 : Int32))), .val (.int (1 : Int32)), .val (.int (x1 &&& (3 : Int32))), .unset, .val (.ref (s_DELIVER Z)), .val (.ref r1001), .val (.int (3 : Int32))]) (hb hby at_155) rfl rfl rfl ?_
              refine go_goto (pc' := 164) (hb hby at_157) (by decide) rfl ?_
              refine go_newO (pc' := 167) (cells' := 4) (slots' := 43) (wk G 94 rfl) (wk G 3 rfl) (wk G 2 rfl) (hb hby at_164) rfl rfl rfl (by decide) (by decide) (fun h1229 a1230 g1231 X1232 E1233 D1234 U1235 => ?_)
              refine go_dup (pc' := 168) (hb hby at_167) rfl rfl ?_
              refine go_aload (pc' := 170) (hb hby at_168) rfl rfl rfl ?_
              have F1236 := D1234 (Or.inr (wk G 5 rfl)) (ty := (.array .byte)) (by decide)
              have F1237 := D1234 (Or.inr (wk G 6 rfl)) (ty := .byte) (by decide)
              have K1238 : Keep h1220 h1229 [] := ((Keep.refl h1220 []).ext X1232)
              have A1239 := (A1222.keep K1238 nin0)
              refine go_old (fun O1240 => ?_)
              have K1241 : Keep h0 h999 [] := (K1005.trans K1000 all0)
              have K1242 : Keep h0 h1009 [] := (K1241.trans K1010 (allS (Or.inr (Nat.le_trans K1005.1 f1003)) all0))
              have K1243 : Keep h0 h1220 [] := (K1242.wr W1221 (Or.inr (Nat.le_trans K1005.1 f1003)))
              refine callI0 (cells' := 5) (slots' := 50) (Wd := 1) (argsL := [(.ref r1001)]) (rest := [(.ref a1230)]) (pay_new G O1240 (cs := [(100 : Int32), (101 : Int32), (108 : Int32), (x3 &&& (255 : Int32)), (118 : Int32), (101 : Int32), (114 : Int32)]) (n := 7) (Nat.le_trans O0.2.1 (Nat.le_trans K1243.1 (Nat.le_of_eq g1231))) E1233 F1236 F1237 A1239 rfl rfl (by decide) (by decide) (c8c (by decide) (c8c (by decide) (c8c (by decide) (c8c (c8_m _) (c8c (by decide) (c8c (by decide) (c8c (by decide) c8n))))))) (by decide) (by decide)) rfl (wk G 95 rfl) (wk G 96 rfl) (wk G 97 rfl) (by decide) pd8 rfl rfl (by rw [hml]; rfl) (Nat.le_of_ble_eq_true rfl) rfl rfl (by decide) (by decide) (allS (Nat.le_trans O0.2.1 (Nat.le_trans K1243.1 (Nat.le_of_eq g1231))) all0) (fun _ hal => (sfS (safe_null hal E1233 F1236) sf0)) (hb hby at_170) (k_n (pc' := 173) rfl ?_)
              rintro h1244 S1246 K1245
              refine go_astore (pc' := 175) (ls' := #[.val (.int x0), .val (.int x1), .val (.int x2), .val (.int x3), .val (.int ((x0 &&& (2147483647 : Int32)) % (3 : Int32))), .val (.ref a832), .val (.ref (s_DELIVER Z)), .val (.int (7 : Int32)), .val (.int (x3 &&& (255 : Int32))), .val (.int (1 : Int32)), .val (.int (x1 &&& (3 : Int32))), .val (.ref a1230), .val (.ref (s_DELIVER Z)), .val (.ref r1001), .val (.int (3 : Int32))]) (hb hby at_173) rfl rfl rfl ?_
              refine go_goto (pc' := 279) (hb hby at_175) (by decide) rfl ?_
              refine go_aload (pc' := 281) (hb hby at_279) rfl rfl rfl ?_
              refine go_old (fun O1247 => ?_)
              refine callS0 (cells' := 6) (slots' := 53) (Wd := 0) (argsL := [(.ref a1230)]) (rest := []) (pay_of (a0 := a0) (c_of l G a1230 [(100 : Int32), (101 : Int32), (108 : Int32), (x3 &&& (255 : Int32)), (118 : Int32), (101 : Int32), (114 : Int32)] h1244 O1247 S1246) (wk G 28 rfl) (wk G 10 rfl) (by decide) (by decide)) (wk G 26 rfl) (wk G 27 rfl) (wk G 10 rfl) (wk G 28 rfl) (by decide) pd9 rfl rfl (by rw [hml]; rfl) (Nat.le_of_ble_eq_true rfl) rfl rfl (by decide) (by decide) all0 (fun _ _ => sf0) (hb hby at_281) (k_v (pc' := 284) rfl ?_)
              rintro _ h1248 (⟨rfl, f1250⟩ | ⟨rfl, f1251⟩ | ⟨rfl, f1252⟩ | ⟨rfl, f1253, f1254, f1255⟩) K1249
              · exact absurd f1250 (by simp)
              · refine go_aload (pc' := 286) (hb hby at_284) rfl rfl rfl ?_
                refine go_acF (pc' := 289) (hb hby at_286) rfl rfl rfl (XT.aa_ne_f rfl) ?_
                refine go_iconst (pc' := 290) (v := 1) (hb hby at_289) rfl rfl ?_
                refine go_goto (pc' := 294) (hb hby at_290) (by decide) rfl ?_
                have K1256 : Keep h0 h1229 [] := (K1243.ext X1232)
                have K1257 : Keep h0 h1244 [] := (K1256.trans K1245 (allS (Or.inr (Nat.le_trans K1243.1 (Nat.le_of_eq g1231))) all0))
                have K1258 : Keep h0 h1248 [] := (K1257.trans K1249 all0)
                refine go_ireturn hret hlk rfl (by simp) (hb hby at_294) (by decide) (by decide) ⟨_, rfl, rfl⟩ K1258
              · exact absurd f1252 (by simp)
              · exact absurd (by simp [c1228]) f1254
            · refine go_icT (pc' := 154) (hb hby at_146) (by decide) rfl (XT.ii_ne_t c1228) ?_
              refine go_aconst_null (pc' := 155) (hb hby at_154) rfl ?_
              refine go_astore (pc' := 157) (ls' := #[.val (.int x0), .val (.int x1), .val (.int x2), .val (.int x3), .val (.int ((x0 &&& (2147483647 : Int32)) % (3 : Int32))), .val (.ref a832), .val (.ref (s_DELIVER Z)), .val (.int (7 : Int32)), .val (.int (x3 &&& (255 : Int32))), .val (.int (1 : Int32)), .val (.int (x1 &&& (3 : Int32))), .unset, .val .null, .val (.ref r1001), .val (.int (3 : Int32))]) (hb hby at_155) rfl rfl rfl ?_
              refine go_goto (pc' := 164) (hb hby at_157) (by decide) rfl ?_
              refine go_newO (pc' := 167) (cells' := 4) (slots' := 43) (wk G 94 rfl) (wk G 3 rfl) (wk G 2 rfl) (hb hby at_164) rfl rfl rfl (by decide) (by decide) (fun h1259 a1260 g1261 X1262 E1263 D1264 U1265 => ?_)
              refine go_dup (pc' := 168) (hb hby at_167) rfl rfl ?_
              refine go_aload (pc' := 170) (hb hby at_168) rfl rfl rfl ?_
              have F1266 := D1264 (Or.inr (wk G 5 rfl)) (ty := (.array .byte)) (by decide)
              have F1267 := D1264 (Or.inr (wk G 6 rfl)) (ty := .byte) (by decide)
              have K1268 : Keep h1220 h1259 [] := ((Keep.refl h1220 []).ext X1262)
              have A1269 := (A1222.keep K1268 nin0)
              refine go_old (fun O1270 => ?_)
              have K1271 : Keep h0 h999 [] := (K1005.trans K1000 all0)
              have K1272 : Keep h0 h1009 [] := (K1271.trans K1010 (allS (Or.inr (Nat.le_trans K1005.1 f1003)) all0))
              have K1273 : Keep h0 h1220 [] := (K1272.wr W1221 (Or.inr (Nat.le_trans K1005.1 f1003)))
              refine callI0 (cells' := 5) (slots' := 50) (Wd := 1) (argsL := [(.ref r1001)]) (rest := [(.ref a1260)]) (pay_new G O1270 (cs := [(100 : Int32), (101 : Int32), (108 : Int32), (x3 &&& (255 : Int32)), (118 : Int32), (101 : Int32), (114 : Int32)]) (n := 7) (Nat.le_trans O0.2.1 (Nat.le_trans K1273.1 (Nat.le_of_eq g1261))) E1263 F1266 F1267 A1269 rfl rfl (by decide) (by decide) (c8c (by decide) (c8c (by decide) (c8c (by decide) (c8c (c8_m _) (c8c (by decide) (c8c (by decide) (c8c (by decide) c8n))))))) (by decide) (by decide)) rfl (wk G 95 rfl) (wk G 96 rfl) (wk G 97 rfl) (by decide) pd8 rfl rfl (by rw [hml]; rfl) (Nat.le_of_ble_eq_true rfl) rfl rfl (by decide) (by decide) (allS (Nat.le_trans O0.2.1 (Nat.le_trans K1273.1 (Nat.le_of_eq g1261))) all0) (fun _ hal => (sfS (safe_null hal E1263 F1266) sf0)) (hb hby at_170) (k_n (pc' := 173) rfl ?_)
              rintro h1274 S1276 K1275
              refine go_astore (pc' := 175) (ls' := #[.val (.int x0), .val (.int x1), .val (.int x2), .val (.int x3), .val (.int ((x0 &&& (2147483647 : Int32)) % (3 : Int32))), .val (.ref a832), .val (.ref (s_DELIVER Z)), .val (.int (7 : Int32)), .val (.int (x3 &&& (255 : Int32))), .val (.int (1 : Int32)), .val (.int (x1 &&& (3 : Int32))), .val (.ref a1260), .val .null, .val (.ref r1001), .val (.int (3 : Int32))]) (hb hby at_173) rfl rfl rfl ?_
              refine go_goto (pc' := 279) (hb hby at_175) (by decide) rfl ?_
              refine go_aload (pc' := 281) (hb hby at_279) rfl rfl rfl ?_
              refine go_old (fun O1277 => ?_)
              refine callS0 (cells' := 6) (slots' := 53) (Wd := 0) (argsL := [(.ref a1260)]) (rest := []) (pay_of (a0 := a0) (c_of l G a1260 [(100 : Int32), (101 : Int32), (108 : Int32), (x3 &&& (255 : Int32)), (118 : Int32), (101 : Int32), (114 : Int32)] h1274 O1277 S1276) (wk G 28 rfl) (wk G 10 rfl) (by decide) (by decide)) (wk G 26 rfl) (wk G 27 rfl) (wk G 10 rfl) (wk G 28 rfl) (by decide) pd9 rfl rfl (by rw [hml]; rfl) (Nat.le_of_ble_eq_true rfl) rfl rfl (by decide) (by decide) all0 (fun _ _ => sf0) (hb hby at_281) (k_v (pc' := 284) rfl ?_)
              rintro _ h1278 (⟨rfl, f1280⟩ | ⟨rfl, f1281⟩ | ⟨rfl, f1282⟩ | ⟨rfl, f1283, f1284, f1285⟩) K1279
              · exact absurd f1280 (by simp)
              · exact absurd f1281 (by simp [Ne.symm c1228])
              · exact absurd f1282 (by simp)
              · refine go_aload (pc' := 286) (hb hby at_284) rfl rfl rfl ?_
                refine go_acF (pc' := 289) (hb hby at_286) rfl rfl rfl (XT.aa_ne_f rfl) ?_
                refine go_iconst (pc' := 290) (v := 1) (hb hby at_289) rfl rfl ?_
                refine go_goto (pc' := 294) (hb hby at_290) (by decide) rfl ?_
                have K1286 : Keep h0 h1259 [] := (K1273.ext X1262)
                have K1287 : Keep h0 h1274 [] := (K1286.trans K1275 (allS (Or.inr (Nat.le_trans K1273.1 (Nat.le_of_eq g1261))) all0))
                have K1288 : Keep h0 h1278 [] := (K1287.trans K1279 all0)
                refine go_ireturn hret hlk rfl (by simp) (hb hby at_294) (by decide) (by decide) ⟨_, rfl, rfl⟩ K1288
          · rw [q1012]
            refine go_istore (pc' := 130) (ls' := #[.val (.int x0), .val (.int x1), .val (.int x2), .val (.int x3), .val (.int ((x0 &&& (2147483647 : Int32)) % (3 : Int32))), .val (.ref a832), .val (.ref (s_DELIVER Z)), .val (.int (7 : Int32)), .val (.int (x3 &&& (255 : Int32))), .val (.int (1 : Int32)), .val (.int (x1 &&& (3 : Int32))), .unset, .unset, .val (.ref r1001), .val (.int (4 : Int32))]) (hb hby at_128) rfl rfl ?_
            refine go_aload (pc' := 132) (hb hby at_130) rfl rfl rfl ?_
            refine go_iload (pc' := 134) (hb hby at_132) rfl rfl ?_
            refine go_iload (pc' := 136) (hb hby at_134) rfl rfl ?_
            refine go_stC (pc' := 137) (i := 4) (x' := (x3 &&& (255 : Int32))) (vs' := [(.int (100 : Int32)), (.int (101 : Int32)), (.int (108 : Int32)), (.int (105 : Int32)), (.int (x3 &&& (255 : Int32))), (.int (101 : Int32)), (.int (114 : Int32))]) f1011 (Nat.le_trans O0.2.1 (Nat.le_trans K1005.1 f1003)) (by decide) (by decide) rfl (Nat.le_of_ble_eq_true rfl) (i2c_mask _) rfl (hb hby at_136) rfl (fun h1289 W1290 A1291 => ?_)
            refine go_iload (pc' := 139) (hb hby at_137) rfl rfl ?_
            refine go_aload (pc' := 141) (hb hby at_139) rfl rfl rfl ?_
            refine go_iload (pc' := 143) (hb hby at_141) rfl rfl ?_
            have K1292 : Keep h831 h1009 [] := (K1006.trans K1010 (allS (Or.inr f1003) all0))
            have K1293 : Keep h831 h1289 [] := (K1292.wr W1290 (Or.inr f1003))
            have S1294 := (S840.keep K1293)
            refine go_old (fun O1295 => ?_)
            have E1296 := (E836.keep K1293)
            refine callV0 (cells' := 3) (slots' := 39) (Wd := 1) (argsL := [(.int (4 : Int32))]) (rest := [(.int (x3 &&& (255 : Int32)))]) (pay_chr G O1295 (i := 4) (c := (118 : Int32)) S1294 rfl (Nat.le_of_ble_eq_true rfl) rfl (by decide) (by decide)) E1296 (wk G 73 rfl) (wk G 74 rfl) (wk G 76 rfl) (wk G 76 rfl) (wk G 75 rfl) (by decide) pd5 rfl rfl (by rw [hml]; rfl) (Nat.le_of_ble_eq_true rfl) rfl rfl (by decide) (by decide) all0 (fun _ _ => sf0) (hb hby at_143) (k_v (pc' := 146) rfl ?_)
            rintro _ _ ⟨rfl, rfl⟩ -
            by_cases c1297 : (x3 &&& (255 : Int32)) = (118 : Int32)
            · refine go_icF (pc' := 149) (hb hby at_146) rfl (XT.ii_ne_f c1297) ?_
              refine go_aload (pc' := 151) (hb hby at_149) rfl rfl rfl ?_
              refine go_goto (pc' := 155) (hb hby at_151) (by decide) rfl ?_
              refine go_astore (pc' := 157) (ls' := #[.val (.int x0), .val (.int x1), .val (.int x2), .val (.int x3), .val (.int ((x0 &&& (2147483647 : Int32)) % (3 : Int32))), .val (.ref a832), .val (.ref (s_DELIVER Z)), .val (.int (7 : Int32)), .val (.int (x3 &&& (255 : Int32))), .val (.int (1 : Int32)), .val (.int (x1 &&& (3 : Int32))), .unset, .val (.ref (s_DELIVER Z)), .val (.ref r1001), .val (.int (4 : Int32))]) (hb hby at_155) rfl rfl rfl ?_
              refine go_goto (pc' := 164) (hb hby at_157) (by decide) rfl ?_
              refine go_newO (pc' := 167) (cells' := 4) (slots' := 43) (wk G 94 rfl) (wk G 3 rfl) (wk G 2 rfl) (hb hby at_164) rfl rfl rfl (by decide) (by decide) (fun h1298 a1299 g1300 X1301 E1302 D1303 U1304 => ?_)
              refine go_dup (pc' := 168) (hb hby at_167) rfl rfl ?_
              refine go_aload (pc' := 170) (hb hby at_168) rfl rfl rfl ?_
              have F1305 := D1303 (Or.inr (wk G 5 rfl)) (ty := (.array .byte)) (by decide)
              have F1306 := D1303 (Or.inr (wk G 6 rfl)) (ty := .byte) (by decide)
              have K1307 : Keep h1289 h1298 [] := ((Keep.refl h1289 []).ext X1301)
              have A1308 := (A1291.keep K1307 nin0)
              refine go_old (fun O1309 => ?_)
              have K1310 : Keep h0 h999 [] := (K1005.trans K1000 all0)
              have K1311 : Keep h0 h1009 [] := (K1310.trans K1010 (allS (Or.inr (Nat.le_trans K1005.1 f1003)) all0))
              have K1312 : Keep h0 h1289 [] := (K1311.wr W1290 (Or.inr (Nat.le_trans K1005.1 f1003)))
              refine callI0 (cells' := 5) (slots' := 50) (Wd := 1) (argsL := [(.ref r1001)]) (rest := [(.ref a1299)]) (pay_new G O1309 (cs := [(100 : Int32), (101 : Int32), (108 : Int32), (105 : Int32), (x3 &&& (255 : Int32)), (101 : Int32), (114 : Int32)]) (n := 7) (Nat.le_trans O0.2.1 (Nat.le_trans K1312.1 (Nat.le_of_eq g1300))) E1302 F1305 F1306 A1308 rfl rfl (by decide) (by decide) (c8c (by decide) (c8c (by decide) (c8c (by decide) (c8c (by decide) (c8c (c8_m _) (c8c (by decide) (c8c (by decide) c8n))))))) (by decide) (by decide)) rfl (wk G 95 rfl) (wk G 96 rfl) (wk G 97 rfl) (by decide) pd8 rfl rfl (by rw [hml]; rfl) (Nat.le_of_ble_eq_true rfl) rfl rfl (by decide) (by decide) (allS (Nat.le_trans O0.2.1 (Nat.le_trans K1312.1 (Nat.le_of_eq g1300))) all0) (fun _ hal => (sfS (safe_null hal E1302 F1305) sf0)) (hb hby at_170) (k_n (pc' := 173) rfl ?_)
              rintro h1313 S1315 K1314
              refine go_astore (pc' := 175) (ls' := #[.val (.int x0), .val (.int x1), .val (.int x2), .val (.int x3), .val (.int ((x0 &&& (2147483647 : Int32)) % (3 : Int32))), .val (.ref a832), .val (.ref (s_DELIVER Z)), .val (.int (7 : Int32)), .val (.int (x3 &&& (255 : Int32))), .val (.int (1 : Int32)), .val (.int (x1 &&& (3 : Int32))), .val (.ref a1299), .val (.ref (s_DELIVER Z)), .val (.ref r1001), .val (.int (4 : Int32))]) (hb hby at_173) rfl rfl rfl ?_
              refine go_goto (pc' := 279) (hb hby at_175) (by decide) rfl ?_
              refine go_aload (pc' := 281) (hb hby at_279) rfl rfl rfl ?_
              refine go_old (fun O1316 => ?_)
              refine callS0 (cells' := 6) (slots' := 53) (Wd := 0) (argsL := [(.ref a1299)]) (rest := []) (pay_of (a0 := a0) (c_of l G a1299 [(100 : Int32), (101 : Int32), (108 : Int32), (105 : Int32), (x3 &&& (255 : Int32)), (101 : Int32), (114 : Int32)] h1313 O1316 S1315) (wk G 28 rfl) (wk G 10 rfl) (by decide) (by decide)) (wk G 26 rfl) (wk G 27 rfl) (wk G 10 rfl) (wk G 28 rfl) (by decide) pd9 rfl rfl (by rw [hml]; rfl) (Nat.le_of_ble_eq_true rfl) rfl rfl (by decide) (by decide) all0 (fun _ _ => sf0) (hb hby at_281) (k_v (pc' := 284) rfl ?_)
              rintro _ h1317 (⟨rfl, f1319⟩ | ⟨rfl, f1320⟩ | ⟨rfl, f1321⟩ | ⟨rfl, f1322, f1323, f1324⟩) K1318
              · exact absurd f1319 (by simp)
              · refine go_aload (pc' := 286) (hb hby at_284) rfl rfl rfl ?_
                refine go_acF (pc' := 289) (hb hby at_286) rfl rfl rfl (XT.aa_ne_f rfl) ?_
                refine go_iconst (pc' := 290) (v := 1) (hb hby at_289) rfl rfl ?_
                refine go_goto (pc' := 294) (hb hby at_290) (by decide) rfl ?_
                have K1325 : Keep h0 h1298 [] := (K1312.ext X1301)
                have K1326 : Keep h0 h1313 [] := (K1325.trans K1314 (allS (Or.inr (Nat.le_trans K1312.1 (Nat.le_of_eq g1300))) all0))
                have K1327 : Keep h0 h1317 [] := (K1326.trans K1318 all0)
                refine go_ireturn hret hlk rfl (by simp) (hb hby at_294) (by decide) (by decide) ⟨_, rfl, rfl⟩ K1327
              · exact absurd f1321 (by simp)
              · exact absurd (by simp [c1297]) f1323
            · refine go_icT (pc' := 154) (hb hby at_146) (by decide) rfl (XT.ii_ne_t c1297) ?_
              refine go_aconst_null (pc' := 155) (hb hby at_154) rfl ?_
              refine go_astore (pc' := 157) (ls' := #[.val (.int x0), .val (.int x1), .val (.int x2), .val (.int x3), .val (.int ((x0 &&& (2147483647 : Int32)) % (3 : Int32))), .val (.ref a832), .val (.ref (s_DELIVER Z)), .val (.int (7 : Int32)), .val (.int (x3 &&& (255 : Int32))), .val (.int (1 : Int32)), .val (.int (x1 &&& (3 : Int32))), .unset, .val .null, .val (.ref r1001), .val (.int (4 : Int32))]) (hb hby at_155) rfl rfl rfl ?_
              refine go_goto (pc' := 164) (hb hby at_157) (by decide) rfl ?_
              refine go_newO (pc' := 167) (cells' := 4) (slots' := 43) (wk G 94 rfl) (wk G 3 rfl) (wk G 2 rfl) (hb hby at_164) rfl rfl rfl (by decide) (by decide) (fun h1328 a1329 g1330 X1331 E1332 D1333 U1334 => ?_)
              refine go_dup (pc' := 168) (hb hby at_167) rfl rfl ?_
              refine go_aload (pc' := 170) (hb hby at_168) rfl rfl rfl ?_
              have F1335 := D1333 (Or.inr (wk G 5 rfl)) (ty := (.array .byte)) (by decide)
              have F1336 := D1333 (Or.inr (wk G 6 rfl)) (ty := .byte) (by decide)
              have K1337 : Keep h1289 h1328 [] := ((Keep.refl h1289 []).ext X1331)
              have A1338 := (A1291.keep K1337 nin0)
              refine go_old (fun O1339 => ?_)
              have K1340 : Keep h0 h999 [] := (K1005.trans K1000 all0)
              have K1341 : Keep h0 h1009 [] := (K1340.trans K1010 (allS (Or.inr (Nat.le_trans K1005.1 f1003)) all0))
              have K1342 : Keep h0 h1289 [] := (K1341.wr W1290 (Or.inr (Nat.le_trans K1005.1 f1003)))
              refine callI0 (cells' := 5) (slots' := 50) (Wd := 1) (argsL := [(.ref r1001)]) (rest := [(.ref a1329)]) (pay_new G O1339 (cs := [(100 : Int32), (101 : Int32), (108 : Int32), (105 : Int32), (x3 &&& (255 : Int32)), (101 : Int32), (114 : Int32)]) (n := 7) (Nat.le_trans O0.2.1 (Nat.le_trans K1342.1 (Nat.le_of_eq g1330))) E1332 F1335 F1336 A1338 rfl rfl (by decide) (by decide) (c8c (by decide) (c8c (by decide) (c8c (by decide) (c8c (by decide) (c8c (c8_m _) (c8c (by decide) (c8c (by decide) c8n))))))) (by decide) (by decide)) rfl (wk G 95 rfl) (wk G 96 rfl) (wk G 97 rfl) (by decide) pd8 rfl rfl (by rw [hml]; rfl) (Nat.le_of_ble_eq_true rfl) rfl rfl (by decide) (by decide) (allS (Nat.le_trans O0.2.1 (Nat.le_trans K1342.1 (Nat.le_of_eq g1330))) all0) (fun _ hal => (sfS (safe_null hal E1332 F1335) sf0)) (hb hby at_170) (k_n (pc' := 173) rfl ?_)
              rintro h1343 S1345 K1344
              refine go_astore (pc' := 175) (ls' := #[.val (.int x0), .val (.int x1), .val (.int x2), .val (.int x3), .val (.int ((x0 &&& (2147483647 : Int32)) % (3 : Int32))), .val (.ref a832), .val (.ref (s_DELIVER Z)), .val (.int (7 : Int32)), .val (.int (x3 &&& (255 : Int32))), .val (.int (1 : Int32)), .val (.int (x1 &&& (3 : Int32))), .val (.ref a1329), .val .null, .val (.ref r1001), .val (.int (4 : Int32))]) (hb hby at_173) rfl rfl rfl ?_
              refine go_goto (pc' := 279) (hb hby at_175) (by decide) rfl ?_
              refine go_aload (pc' := 281) (hb hby at_279) rfl rfl rfl ?_
              refine go_old (fun O1346 => ?_)
              refine callS0 (cells' := 6) (slots' := 53) (Wd := 0) (argsL := [(.ref a1329)]) (rest := []) (pay_of (a0 := a0) (c_of l G a1329 [(100 : Int32), (101 : Int32), (108 : Int32), (105 : Int32), (x3 &&& (255 : Int32)), (101 : Int32), (114 : Int32)] h1343 O1346 S1345) (wk G 28 rfl) (wk G 10 rfl) (by decide) (by decide)) (wk G 26 rfl) (wk G 27 rfl) (wk G 10 rfl) (wk G 28 rfl) (by decide) pd9 rfl rfl (by rw [hml]; rfl) (Nat.le_of_ble_eq_true rfl) rfl rfl (by decide) (by decide) all0 (fun _ _ => sf0) (hb hby at_281) (k_v (pc' := 284) rfl ?_)
              rintro _ h1347 (⟨rfl, f1349⟩ | ⟨rfl, f1350⟩ | ⟨rfl, f1351⟩ | ⟨rfl, f1352, f1353, f1354⟩) K1348
              · exact absurd f1349 (by simp)
              · exact absurd f1350 (by simp [Ne.symm c1297])
              · exact absurd f1351 (by simp)
              · refine go_aload (pc' := 286) (hb hby at_284) rfl rfl rfl ?_
                refine go_acF (pc' := 289) (hb hby at_286) rfl rfl rfl (XT.aa_ne_f rfl) ?_
                refine go_iconst (pc' := 290) (v := 1) (hb hby at_289) rfl rfl ?_
                refine go_goto (pc' := 294) (hb hby at_290) (by decide) rfl ?_
                have K1355 : Keep h0 h1328 [] := (K1342.ext X1331)
                have K1356 : Keep h0 h1343 [] := (K1355.trans K1344 (allS (Or.inr (Nat.le_trans K1342.1 (Nat.le_of_eq g1330))) all0))
                have K1357 : Keep h0 h1347 [] := (K1356.trans K1348 all0)
                refine go_ireturn hret hlk rfl (by simp) (hb hby at_294) (by decide) (by decide) ⟨_, rfl, rfl⟩ K1357
          · rw [q1012]
            refine go_istore (pc' := 130) (ls' := #[.val (.int x0), .val (.int x1), .val (.int x2), .val (.int x3), .val (.int ((x0 &&& (2147483647 : Int32)) % (3 : Int32))), .val (.ref a832), .val (.ref (s_DELIVER Z)), .val (.int (7 : Int32)), .val (.int (x3 &&& (255 : Int32))), .val (.int (1 : Int32)), .val (.int (x1 &&& (3 : Int32))), .unset, .unset, .val (.ref r1001), .val (.int (5 : Int32))]) (hb hby at_128) rfl rfl ?_
            refine go_aload (pc' := 132) (hb hby at_130) rfl rfl rfl ?_
            refine go_iload (pc' := 134) (hb hby at_132) rfl rfl ?_
            refine go_iload (pc' := 136) (hb hby at_134) rfl rfl ?_
            refine go_stC (pc' := 137) (i := 5) (x' := (x3 &&& (255 : Int32))) (vs' := [(.int (100 : Int32)), (.int (101 : Int32)), (.int (108 : Int32)), (.int (105 : Int32)), (.int (118 : Int32)), (.int (x3 &&& (255 : Int32))), (.int (114 : Int32))]) f1011 (Nat.le_trans O0.2.1 (Nat.le_trans K1005.1 f1003)) (by decide) (by decide) rfl (Nat.le_of_ble_eq_true rfl) (i2c_mask _) rfl (hb hby at_136) rfl (fun h1358 W1359 A1360 => ?_)
            refine go_iload (pc' := 139) (hb hby at_137) rfl rfl ?_
            refine go_aload (pc' := 141) (hb hby at_139) rfl rfl rfl ?_
            refine go_iload (pc' := 143) (hb hby at_141) rfl rfl ?_
            have K1361 : Keep h831 h1009 [] := (K1006.trans K1010 (allS (Or.inr f1003) all0))
            have K1362 : Keep h831 h1358 [] := (K1361.wr W1359 (Or.inr f1003))
            have S1363 := (S840.keep K1362)
            refine go_old (fun O1364 => ?_)
            have E1365 := (E836.keep K1362)
            refine callV0 (cells' := 3) (slots' := 39) (Wd := 1) (argsL := [(.int (5 : Int32))]) (rest := [(.int (x3 &&& (255 : Int32)))]) (pay_chr G O1364 (i := 5) (c := (101 : Int32)) S1363 rfl (Nat.le_of_ble_eq_true rfl) rfl (by decide) (by decide)) E1365 (wk G 73 rfl) (wk G 74 rfl) (wk G 76 rfl) (wk G 76 rfl) (wk G 75 rfl) (by decide) pd5 rfl rfl (by rw [hml]; rfl) (Nat.le_of_ble_eq_true rfl) rfl rfl (by decide) (by decide) all0 (fun _ _ => sf0) (hb hby at_143) (k_v (pc' := 146) rfl ?_)
            rintro _ _ ⟨rfl, rfl⟩ -
            by_cases c1366 : (x3 &&& (255 : Int32)) = (101 : Int32)
            · refine go_icF (pc' := 149) (hb hby at_146) rfl (XT.ii_ne_f c1366) ?_
              refine go_aload (pc' := 151) (hb hby at_149) rfl rfl rfl ?_
              refine go_goto (pc' := 155) (hb hby at_151) (by decide) rfl ?_
              refine go_astore (pc' := 157) (ls' := #[.val (.int x0), .val (.int x1), .val (.int x2), .val (.int x3), .val (.int ((x0 &&& (2147483647 : Int32)) % (3 : Int32))), .val (.ref a832), .val (.ref (s_DELIVER Z)), .val (.int (7 : Int32)), .val (.int (x3 &&& (255 : Int32))), .val (.int (1 : Int32)), .val (.int (x1 &&& (3 : Int32))), .unset, .val (.ref (s_DELIVER Z)), .val (.ref r1001), .val (.int (5 : Int32))]) (hb hby at_155) rfl rfl rfl ?_
              refine go_goto (pc' := 164) (hb hby at_157) (by decide) rfl ?_
              refine go_newO (pc' := 167) (cells' := 4) (slots' := 43) (wk G 94 rfl) (wk G 3 rfl) (wk G 2 rfl) (hb hby at_164) rfl rfl rfl (by decide) (by decide) (fun h1367 a1368 g1369 X1370 E1371 D1372 U1373 => ?_)
              refine go_dup (pc' := 168) (hb hby at_167) rfl rfl ?_
              refine go_aload (pc' := 170) (hb hby at_168) rfl rfl rfl ?_
              have F1374 := D1372 (Or.inr (wk G 5 rfl)) (ty := (.array .byte)) (by decide)
              have F1375 := D1372 (Or.inr (wk G 6 rfl)) (ty := .byte) (by decide)
              have K1376 : Keep h1358 h1367 [] := ((Keep.refl h1358 []).ext X1370)
              have A1377 := (A1360.keep K1376 nin0)
              refine go_old (fun O1378 => ?_)
              have K1379 : Keep h0 h999 [] := (K1005.trans K1000 all0)
              have K1380 : Keep h0 h1009 [] := (K1379.trans K1010 (allS (Or.inr (Nat.le_trans K1005.1 f1003)) all0))
              have K1381 : Keep h0 h1358 [] := (K1380.wr W1359 (Or.inr (Nat.le_trans K1005.1 f1003)))
              refine callI0 (cells' := 5) (slots' := 50) (Wd := 1) (argsL := [(.ref r1001)]) (rest := [(.ref a1368)]) (pay_new G O1378 (cs := [(100 : Int32), (101 : Int32), (108 : Int32), (105 : Int32), (118 : Int32), (x3 &&& (255 : Int32)), (114 : Int32)]) (n := 7) (Nat.le_trans O0.2.1 (Nat.le_trans K1381.1 (Nat.le_of_eq g1369))) E1371 F1374 F1375 A1377 rfl rfl (by decide) (by decide) (c8c (by decide) (c8c (by decide) (c8c (by decide) (c8c (by decide) (c8c (by decide) (c8c (c8_m _) (c8c (by decide) c8n))))))) (by decide) (by decide)) rfl (wk G 95 rfl) (wk G 96 rfl) (wk G 97 rfl) (by decide) pd8 rfl rfl (by rw [hml]; rfl) (Nat.le_of_ble_eq_true rfl) rfl rfl (by decide) (by decide) (allS (Nat.le_trans O0.2.1 (Nat.le_trans K1381.1 (Nat.le_of_eq g1369))) all0) (fun _ hal => (sfS (safe_null hal E1371 F1374) sf0)) (hb hby at_170) (k_n (pc' := 173) rfl ?_)
              rintro h1382 S1384 K1383
              refine go_astore (pc' := 175) (ls' := #[.val (.int x0), .val (.int x1), .val (.int x2), .val (.int x3), .val (.int ((x0 &&& (2147483647 : Int32)) % (3 : Int32))), .val (.ref a832), .val (.ref (s_DELIVER Z)), .val (.int (7 : Int32)), .val (.int (x3 &&& (255 : Int32))), .val (.int (1 : Int32)), .val (.int (x1 &&& (3 : Int32))), .val (.ref a1368), .val (.ref (s_DELIVER Z)), .val (.ref r1001), .val (.int (5 : Int32))]) (hb hby at_173) rfl rfl rfl ?_
              refine go_goto (pc' := 279) (hb hby at_175) (by decide) rfl ?_
              refine go_aload (pc' := 281) (hb hby at_279) rfl rfl rfl ?_
              refine go_old (fun O1385 => ?_)
              refine callS0 (cells' := 6) (slots' := 53) (Wd := 0) (argsL := [(.ref a1368)]) (rest := []) (pay_of (a0 := a0) (c_of l G a1368 [(100 : Int32), (101 : Int32), (108 : Int32), (105 : Int32), (118 : Int32), (x3 &&& (255 : Int32)), (114 : Int32)] h1382 O1385 S1384) (wk G 28 rfl) (wk G 10 rfl) (by decide) (by decide)) (wk G 26 rfl) (wk G 27 rfl) (wk G 10 rfl) (wk G 28 rfl) (by decide) pd9 rfl rfl (by rw [hml]; rfl) (Nat.le_of_ble_eq_true rfl) rfl rfl (by decide) (by decide) all0 (fun _ _ => sf0) (hb hby at_281) (k_v (pc' := 284) rfl ?_)
              rintro _ h1386 (⟨rfl, f1388⟩ | ⟨rfl, f1389⟩ | ⟨rfl, f1390⟩ | ⟨rfl, f1391, f1392, f1393⟩) K1387
              · exact absurd f1388 (by simp)
              · refine go_aload (pc' := 286) (hb hby at_284) rfl rfl rfl ?_
                refine go_acF (pc' := 289) (hb hby at_286) rfl rfl rfl (XT.aa_ne_f rfl) ?_
                refine go_iconst (pc' := 290) (v := 1) (hb hby at_289) rfl rfl ?_
                refine go_goto (pc' := 294) (hb hby at_290) (by decide) rfl ?_
                have K1394 : Keep h0 h1367 [] := (K1381.ext X1370)
                have K1395 : Keep h0 h1382 [] := (K1394.trans K1383 (allS (Or.inr (Nat.le_trans K1381.1 (Nat.le_of_eq g1369))) all0))
                have K1396 : Keep h0 h1386 [] := (K1395.trans K1387 all0)
                refine go_ireturn hret hlk rfl (by simp) (hb hby at_294) (by decide) (by decide) ⟨_, rfl, rfl⟩ K1396
              · exact absurd f1390 (by simp)
              · exact absurd (by simp [c1366]) f1392
            · refine go_icT (pc' := 154) (hb hby at_146) (by decide) rfl (XT.ii_ne_t c1366) ?_
              refine go_aconst_null (pc' := 155) (hb hby at_154) rfl ?_
              refine go_astore (pc' := 157) (ls' := #[.val (.int x0), .val (.int x1), .val (.int x2), .val (.int x3), .val (.int ((x0 &&& (2147483647 : Int32)) % (3 : Int32))), .val (.ref a832), .val (.ref (s_DELIVER Z)), .val (.int (7 : Int32)), .val (.int (x3 &&& (255 : Int32))), .val (.int (1 : Int32)), .val (.int (x1 &&& (3 : Int32))), .unset, .val .null, .val (.ref r1001), .val (.int (5 : Int32))]) (hb hby at_155) rfl rfl rfl ?_
              refine go_goto (pc' := 164) (hb hby at_157) (by decide) rfl ?_
              refine go_newO (pc' := 167) (cells' := 4) (slots' := 43) (wk G 94 rfl) (wk G 3 rfl) (wk G 2 rfl) (hb hby at_164) rfl rfl rfl (by decide) (by decide) (fun h1397 a1398 g1399 X1400 E1401 D1402 U1403 => ?_)
              refine go_dup (pc' := 168) (hb hby at_167) rfl rfl ?_
              refine go_aload (pc' := 170) (hb hby at_168) rfl rfl rfl ?_
              have F1404 := D1402 (Or.inr (wk G 5 rfl)) (ty := (.array .byte)) (by decide)
              have F1405 := D1402 (Or.inr (wk G 6 rfl)) (ty := .byte) (by decide)
              have K1406 : Keep h1358 h1397 [] := ((Keep.refl h1358 []).ext X1400)
              have A1407 := (A1360.keep K1406 nin0)
              refine go_old (fun O1408 => ?_)
              have K1409 : Keep h0 h999 [] := (K1005.trans K1000 all0)
              have K1410 : Keep h0 h1009 [] := (K1409.trans K1010 (allS (Or.inr (Nat.le_trans K1005.1 f1003)) all0))
              have K1411 : Keep h0 h1358 [] := (K1410.wr W1359 (Or.inr (Nat.le_trans K1005.1 f1003)))
              refine callI0 (cells' := 5) (slots' := 50) (Wd := 1) (argsL := [(.ref r1001)]) (rest := [(.ref a1398)]) (pay_new G O1408 (cs := [(100 : Int32), (101 : Int32), (108 : Int32), (105 : Int32), (118 : Int32), (x3 &&& (255 : Int32)), (114 : Int32)]) (n := 7) (Nat.le_trans O0.2.1 (Nat.le_trans K1411.1 (Nat.le_of_eq g1399))) E1401 F1404 F1405 A1407 rfl rfl (by decide) (by decide) (c8c (by decide) (c8c (by decide) (c8c (by decide) (c8c (by decide) (c8c (by decide) (c8c (c8_m _) (c8c (by decide) c8n))))))) (by decide) (by decide)) rfl (wk G 95 rfl) (wk G 96 rfl) (wk G 97 rfl) (by decide) pd8 rfl rfl (by rw [hml]; rfl) (Nat.le_of_ble_eq_true rfl) rfl rfl (by decide) (by decide) (allS (Nat.le_trans O0.2.1 (Nat.le_trans K1411.1 (Nat.le_of_eq g1399))) all0) (fun _ hal => (sfS (safe_null hal E1401 F1404) sf0)) (hb hby at_170) (k_n (pc' := 173) rfl ?_)
              rintro h1412 S1414 K1413
              refine go_astore (pc' := 175) (ls' := #[.val (.int x0), .val (.int x1), .val (.int x2), .val (.int x3), .val (.int ((x0 &&& (2147483647 : Int32)) % (3 : Int32))), .val (.ref a832), .val (.ref (s_DELIVER Z)), .val (.int (7 : Int32)), .val (.int (x3 &&& (255 : Int32))), .val (.int (1 : Int32)), .val (.int (x1 &&& (3 : Int32))), .val (.ref a1398), .val .null, .val (.ref r1001), .val (.int (5 : Int32))]) (hb hby at_173) rfl rfl rfl ?_
              refine go_goto (pc' := 279) (hb hby at_175) (by decide) rfl ?_
              refine go_aload (pc' := 281) (hb hby at_279) rfl rfl rfl ?_
              refine go_old (fun O1415 => ?_)
              refine callS0 (cells' := 6) (slots' := 53) (Wd := 0) (argsL := [(.ref a1398)]) (rest := []) (pay_of (a0 := a0) (c_of l G a1398 [(100 : Int32), (101 : Int32), (108 : Int32), (105 : Int32), (118 : Int32), (x3 &&& (255 : Int32)), (114 : Int32)] h1412 O1415 S1414) (wk G 28 rfl) (wk G 10 rfl) (by decide) (by decide)) (wk G 26 rfl) (wk G 27 rfl) (wk G 10 rfl) (wk G 28 rfl) (by decide) pd9 rfl rfl (by rw [hml]; rfl) (Nat.le_of_ble_eq_true rfl) rfl rfl (by decide) (by decide) all0 (fun _ _ => sf0) (hb hby at_281) (k_v (pc' := 284) rfl ?_)
              rintro _ h1416 (⟨rfl, f1418⟩ | ⟨rfl, f1419⟩ | ⟨rfl, f1420⟩ | ⟨rfl, f1421, f1422, f1423⟩) K1417
              · exact absurd f1418 (by simp)
              · exact absurd f1419 (by simp [Ne.symm c1366])
              · exact absurd f1420 (by simp)
              · refine go_aload (pc' := 286) (hb hby at_284) rfl rfl rfl ?_
                refine go_acF (pc' := 289) (hb hby at_286) rfl rfl rfl (XT.aa_ne_f rfl) ?_
                refine go_iconst (pc' := 290) (v := 1) (hb hby at_289) rfl rfl ?_
                refine go_goto (pc' := 294) (hb hby at_290) (by decide) rfl ?_
                have K1424 : Keep h0 h1397 [] := (K1411.ext X1400)
                have K1425 : Keep h0 h1412 [] := (K1424.trans K1413 (allS (Or.inr (Nat.le_trans K1411.1 (Nat.le_of_eq g1399))) all0))
                have K1426 : Keep h0 h1416 [] := (K1425.trans K1417 all0)
                refine go_ireturn hret hlk rfl (by simp) (hb hby at_294) (by decide) (by decide) ⟨_, rfl, rfl⟩ K1426
          · rw [q1012]
            refine go_istore (pc' := 130) (ls' := #[.val (.int x0), .val (.int x1), .val (.int x2), .val (.int x3), .val (.int ((x0 &&& (2147483647 : Int32)) % (3 : Int32))), .val (.ref a832), .val (.ref (s_DELIVER Z)), .val (.int (7 : Int32)), .val (.int (x3 &&& (255 : Int32))), .val (.int (1 : Int32)), .val (.int (x1 &&& (3 : Int32))), .unset, .unset, .val (.ref r1001), .val (.int (6 : Int32))]) (hb hby at_128) rfl rfl ?_
            refine go_aload (pc' := 132) (hb hby at_130) rfl rfl rfl ?_
            refine go_iload (pc' := 134) (hb hby at_132) rfl rfl ?_
            refine go_iload (pc' := 136) (hb hby at_134) rfl rfl ?_
            refine go_stC (pc' := 137) (i := 6) (x' := (x3 &&& (255 : Int32))) (vs' := [(.int (100 : Int32)), (.int (101 : Int32)), (.int (108 : Int32)), (.int (105 : Int32)), (.int (118 : Int32)), (.int (101 : Int32)), (.int (x3 &&& (255 : Int32)))]) f1011 (Nat.le_trans O0.2.1 (Nat.le_trans K1005.1 f1003)) (by decide) (by decide) rfl (Nat.le_of_ble_eq_true rfl) (i2c_mask _) rfl (hb hby at_136) rfl (fun h1427 W1428 A1429 => ?_)
            refine go_iload (pc' := 139) (hb hby at_137) rfl rfl ?_
            refine go_aload (pc' := 141) (hb hby at_139) rfl rfl rfl ?_
            refine go_iload (pc' := 143) (hb hby at_141) rfl rfl ?_
            have K1430 : Keep h831 h1009 [] := (K1006.trans K1010 (allS (Or.inr f1003) all0))
            have K1431 : Keep h831 h1427 [] := (K1430.wr W1428 (Or.inr f1003))
            have S1432 := (S840.keep K1431)
            refine go_old (fun O1433 => ?_)
            have E1434 := (E836.keep K1431)
            refine callV0 (cells' := 3) (slots' := 39) (Wd := 1) (argsL := [(.int (6 : Int32))]) (rest := [(.int (x3 &&& (255 : Int32)))]) (pay_chr G O1433 (i := 6) (c := (114 : Int32)) S1432 rfl (Nat.le_of_ble_eq_true rfl) rfl (by decide) (by decide)) E1434 (wk G 73 rfl) (wk G 74 rfl) (wk G 76 rfl) (wk G 76 rfl) (wk G 75 rfl) (by decide) pd5 rfl rfl (by rw [hml]; rfl) (Nat.le_of_ble_eq_true rfl) rfl rfl (by decide) (by decide) all0 (fun _ _ => sf0) (hb hby at_143) (k_v (pc' := 146) rfl ?_)
            rintro _ _ ⟨rfl, rfl⟩ -
            by_cases c1435 : (x3 &&& (255 : Int32)) = (114 : Int32)
            · refine go_icF (pc' := 149) (hb hby at_146) rfl (XT.ii_ne_f c1435) ?_
              refine go_aload (pc' := 151) (hb hby at_149) rfl rfl rfl ?_
              refine go_goto (pc' := 155) (hb hby at_151) (by decide) rfl ?_
              refine go_astore (pc' := 157) (ls' := #[.val (.int x0), .val (.int x1), .val (.int x2), .val (.int x3), .val (.int ((x0 &&& (2147483647 : Int32)) % (3 : Int32))), .val (.ref a832), .val (.ref (s_DELIVER Z)), .val (.int (7 : Int32)), .val (.int (x3 &&& (255 : Int32))), .val (.int (1 : Int32)), .val (.int (x1 &&& (3 : Int32))), .unset, .val (.ref (s_DELIVER Z)), .val (.ref r1001), .val (.int (6 : Int32))]) (hb hby at_155) rfl rfl rfl ?_
              refine go_goto (pc' := 164) (hb hby at_157) (by decide) rfl ?_
              refine go_newO (pc' := 167) (cells' := 4) (slots' := 43) (wk G 94 rfl) (wk G 3 rfl) (wk G 2 rfl) (hb hby at_164) rfl rfl rfl (by decide) (by decide) (fun h1436 a1437 g1438 X1439 E1440 D1441 U1442 => ?_)
              refine go_dup (pc' := 168) (hb hby at_167) rfl rfl ?_
              refine go_aload (pc' := 170) (hb hby at_168) rfl rfl rfl ?_
              have F1443 := D1441 (Or.inr (wk G 5 rfl)) (ty := (.array .byte)) (by decide)
              have F1444 := D1441 (Or.inr (wk G 6 rfl)) (ty := .byte) (by decide)
              have K1445 : Keep h1427 h1436 [] := ((Keep.refl h1427 []).ext X1439)
              have A1446 := (A1429.keep K1445 nin0)
              refine go_old (fun O1447 => ?_)
              have K1448 : Keep h0 h999 [] := (K1005.trans K1000 all0)
              have K1449 : Keep h0 h1009 [] := (K1448.trans K1010 (allS (Or.inr (Nat.le_trans K1005.1 f1003)) all0))
              have K1450 : Keep h0 h1427 [] := (K1449.wr W1428 (Or.inr (Nat.le_trans K1005.1 f1003)))
              refine callI0 (cells' := 5) (slots' := 50) (Wd := 1) (argsL := [(.ref r1001)]) (rest := [(.ref a1437)]) (pay_new G O1447 (cs := [(100 : Int32), (101 : Int32), (108 : Int32), (105 : Int32), (118 : Int32), (101 : Int32), (x3 &&& (255 : Int32))]) (n := 7) (Nat.le_trans O0.2.1 (Nat.le_trans K1450.1 (Nat.le_of_eq g1438))) E1440 F1443 F1444 A1446 rfl rfl (by decide) (by decide) (c8c (by decide) (c8c (by decide) (c8c (by decide) (c8c (by decide) (c8c (by decide) (c8c (by decide) (c8c (c8_m _) c8n))))))) (by decide) (by decide)) rfl (wk G 95 rfl) (wk G 96 rfl) (wk G 97 rfl) (by decide) pd8 rfl rfl (by rw [hml]; rfl) (Nat.le_of_ble_eq_true rfl) rfl rfl (by decide) (by decide) (allS (Nat.le_trans O0.2.1 (Nat.le_trans K1450.1 (Nat.le_of_eq g1438))) all0) (fun _ hal => (sfS (safe_null hal E1440 F1443) sf0)) (hb hby at_170) (k_n (pc' := 173) rfl ?_)
              rintro h1451 S1453 K1452
              refine go_astore (pc' := 175) (ls' := #[.val (.int x0), .val (.int x1), .val (.int x2), .val (.int x3), .val (.int ((x0 &&& (2147483647 : Int32)) % (3 : Int32))), .val (.ref a832), .val (.ref (s_DELIVER Z)), .val (.int (7 : Int32)), .val (.int (x3 &&& (255 : Int32))), .val (.int (1 : Int32)), .val (.int (x1 &&& (3 : Int32))), .val (.ref a1437), .val (.ref (s_DELIVER Z)), .val (.ref r1001), .val (.int (6 : Int32))]) (hb hby at_173) rfl rfl rfl ?_
              refine go_goto (pc' := 279) (hb hby at_175) (by decide) rfl ?_
              refine go_aload (pc' := 281) (hb hby at_279) rfl rfl rfl ?_
              refine go_old (fun O1454 => ?_)
              refine callS0 (cells' := 6) (slots' := 53) (Wd := 0) (argsL := [(.ref a1437)]) (rest := []) (pay_of (a0 := a0) (c_of l G a1437 [(100 : Int32), (101 : Int32), (108 : Int32), (105 : Int32), (118 : Int32), (101 : Int32), (x3 &&& (255 : Int32))] h1451 O1454 S1453) (wk G 28 rfl) (wk G 10 rfl) (by decide) (by decide)) (wk G 26 rfl) (wk G 27 rfl) (wk G 10 rfl) (wk G 28 rfl) (by decide) pd9 rfl rfl (by rw [hml]; rfl) (Nat.le_of_ble_eq_true rfl) rfl rfl (by decide) (by decide) all0 (fun _ _ => sf0) (hb hby at_281) (k_v (pc' := 284) rfl ?_)
              rintro _ h1455 (⟨rfl, f1457⟩ | ⟨rfl, f1458⟩ | ⟨rfl, f1459⟩ | ⟨rfl, f1460, f1461, f1462⟩) K1456
              · exact absurd f1457 (by simp)
              · refine go_aload (pc' := 286) (hb hby at_284) rfl rfl rfl ?_
                refine go_acF (pc' := 289) (hb hby at_286) rfl rfl rfl (XT.aa_ne_f rfl) ?_
                refine go_iconst (pc' := 290) (v := 1) (hb hby at_289) rfl rfl ?_
                refine go_goto (pc' := 294) (hb hby at_290) (by decide) rfl ?_
                have K1463 : Keep h0 h1436 [] := (K1450.ext X1439)
                have K1464 : Keep h0 h1451 [] := (K1463.trans K1452 (allS (Or.inr (Nat.le_trans K1450.1 (Nat.le_of_eq g1438))) all0))
                have K1465 : Keep h0 h1455 [] := (K1464.trans K1456 all0)
                refine go_ireturn hret hlk rfl (by simp) (hb hby at_294) (by decide) (by decide) ⟨_, rfl, rfl⟩ K1465
              · exact absurd f1459 (by simp)
              · exact absurd (by simp [c1435]) f1461
            · refine go_icT (pc' := 154) (hb hby at_146) (by decide) rfl (XT.ii_ne_t c1435) ?_
              refine go_aconst_null (pc' := 155) (hb hby at_154) rfl ?_
              refine go_astore (pc' := 157) (ls' := #[.val (.int x0), .val (.int x1), .val (.int x2), .val (.int x3), .val (.int ((x0 &&& (2147483647 : Int32)) % (3 : Int32))), .val (.ref a832), .val (.ref (s_DELIVER Z)), .val (.int (7 : Int32)), .val (.int (x3 &&& (255 : Int32))), .val (.int (1 : Int32)), .val (.int (x1 &&& (3 : Int32))), .unset, .val .null, .val (.ref r1001), .val (.int (6 : Int32))]) (hb hby at_155) rfl rfl rfl ?_
              refine go_goto (pc' := 164) (hb hby at_157) (by decide) rfl ?_
              refine go_newO (pc' := 167) (cells' := 4) (slots' := 43) (wk G 94 rfl) (wk G 3 rfl) (wk G 2 rfl) (hb hby at_164) rfl rfl rfl (by decide) (by decide) (fun h1466 a1467 g1468 X1469 E1470 D1471 U1472 => ?_)
              refine go_dup (pc' := 168) (hb hby at_167) rfl rfl ?_
              refine go_aload (pc' := 170) (hb hby at_168) rfl rfl rfl ?_
              have F1473 := D1471 (Or.inr (wk G 5 rfl)) (ty := (.array .byte)) (by decide)
              have F1474 := D1471 (Or.inr (wk G 6 rfl)) (ty := .byte) (by decide)
              have K1475 : Keep h1427 h1466 [] := ((Keep.refl h1427 []).ext X1469)
              have A1476 := (A1429.keep K1475 nin0)
              refine go_old (fun O1477 => ?_)
              have K1478 : Keep h0 h999 [] := (K1005.trans K1000 all0)
              have K1479 : Keep h0 h1009 [] := (K1478.trans K1010 (allS (Or.inr (Nat.le_trans K1005.1 f1003)) all0))
              have K1480 : Keep h0 h1427 [] := (K1479.wr W1428 (Or.inr (Nat.le_trans K1005.1 f1003)))
              refine callI0 (cells' := 5) (slots' := 50) (Wd := 1) (argsL := [(.ref r1001)]) (rest := [(.ref a1467)]) (pay_new G O1477 (cs := [(100 : Int32), (101 : Int32), (108 : Int32), (105 : Int32), (118 : Int32), (101 : Int32), (x3 &&& (255 : Int32))]) (n := 7) (Nat.le_trans O0.2.1 (Nat.le_trans K1480.1 (Nat.le_of_eq g1468))) E1470 F1473 F1474 A1476 rfl rfl (by decide) (by decide) (c8c (by decide) (c8c (by decide) (c8c (by decide) (c8c (by decide) (c8c (by decide) (c8c (by decide) (c8c (c8_m _) c8n))))))) (by decide) (by decide)) rfl (wk G 95 rfl) (wk G 96 rfl) (wk G 97 rfl) (by decide) pd8 rfl rfl (by rw [hml]; rfl) (Nat.le_of_ble_eq_true rfl) rfl rfl (by decide) (by decide) (allS (Nat.le_trans O0.2.1 (Nat.le_trans K1480.1 (Nat.le_of_eq g1468))) all0) (fun _ hal => (sfS (safe_null hal E1470 F1473) sf0)) (hb hby at_170) (k_n (pc' := 173) rfl ?_)
              rintro h1481 S1483 K1482
              refine go_astore (pc' := 175) (ls' := #[.val (.int x0), .val (.int x1), .val (.int x2), .val (.int x3), .val (.int ((x0 &&& (2147483647 : Int32)) % (3 : Int32))), .val (.ref a832), .val (.ref (s_DELIVER Z)), .val (.int (7 : Int32)), .val (.int (x3 &&& (255 : Int32))), .val (.int (1 : Int32)), .val (.int (x1 &&& (3 : Int32))), .val (.ref a1467), .val .null, .val (.ref r1001), .val (.int (6 : Int32))]) (hb hby at_173) rfl rfl rfl ?_
              refine go_goto (pc' := 279) (hb hby at_175) (by decide) rfl ?_
              refine go_aload (pc' := 281) (hb hby at_279) rfl rfl rfl ?_
              refine go_old (fun O1484 => ?_)
              refine callS0 (cells' := 6) (slots' := 53) (Wd := 0) (argsL := [(.ref a1467)]) (rest := []) (pay_of (a0 := a0) (c_of l G a1467 [(100 : Int32), (101 : Int32), (108 : Int32), (105 : Int32), (118 : Int32), (101 : Int32), (x3 &&& (255 : Int32))] h1481 O1484 S1483) (wk G 28 rfl) (wk G 10 rfl) (by decide) (by decide)) (wk G 26 rfl) (wk G 27 rfl) (wk G 10 rfl) (wk G 28 rfl) (by decide) pd9 rfl rfl (by rw [hml]; rfl) (Nat.le_of_ble_eq_true rfl) rfl rfl (by decide) (by decide) all0 (fun _ _ => sf0) (hb hby at_281) (k_v (pc' := 284) rfl ?_)
              rintro _ h1485 (⟨rfl, f1487⟩ | ⟨rfl, f1488⟩ | ⟨rfl, f1489⟩ | ⟨rfl, f1490, f1491, f1492⟩) K1486
              · exact absurd f1487 (by simp)
              · exact absurd f1488 (by simp [Ne.symm c1435])
              · exact absurd f1489 (by simp)
              · refine go_aload (pc' := 286) (hb hby at_284) rfl rfl rfl ?_
                refine go_acF (pc' := 289) (hb hby at_286) rfl rfl rfl (XT.aa_ne_f rfl) ?_
                refine go_iconst (pc' := 290) (v := 1) (hb hby at_289) rfl rfl ?_
                refine go_goto (pc' := 294) (hb hby at_290) (by decide) rfl ?_
                have K1493 : Keep h0 h1466 [] := (K1480.ext X1469)
                have K1494 : Keep h0 h1481 [] := (K1493.trans K1482 (allS (Or.inr (Nat.le_trans K1480.1 (Nat.le_of_eq g1468))) all0))
                have K1495 : Keep h0 h1485 [] := (K1494.trans K1486 all0)
                refine go_ireturn hret hlk rfl (by simp) (hb hby at_294) (by decide) (by decide) ⟨_, rfl, rfl⟩ K1495
        · refine go_ifT (pc' := 178) (hb hby at_99) (by decide) rfl (XT.i0_ne_t c998) ?_
          refine go_iload (pc' := 180) (hb hby at_178) rfl rfl ?_
          refine go_iconst (pc' := 181) (v := 1) (hb hby at_180) rfl rfl ?_
          by_cases c1496 : (x1 &&& (3 : Int32)) = (1 : Int32)
          · refine go_icF (pc' := 184) (hb hby at_181) rfl (XT.ii_ne_f c1496) ?_
            refine go_iload (pc' := 186) (hb hby at_184) rfl rfl ?_
            refine go_iconst (pc' := 187) (v := 1) (hb hby at_186) rfl rfl ?_
            refine go_isub (pc' := 188) (z := (6 : Int32)) (hb hby at_187) rfl (by decide) ?_
            refine callS0 (cells' := 3) (slots' := 38) (Wd := 0) (argsL := [(.int (6 : Int32))]) (rest := []) (pay_of (a0 := a0) (c_sized6 l G  h831 O841 ) (wk G 64 rfl) (wk G 63 rfl) (by decide) (by decide)) (wk G 61 rfl) (wk G 62 rfl) (wk G 63 rfl) (wk G 64 rfl) (by decide) pd6 rfl rfl (by rw [hml]; rfl) (Nat.le_of_ble_eq_true rfl) rfl rfl (by decide) (by decide) all0 (fun _ _ => sf0) (hb hby at_188) (k_v (pc' := 191) rfl ?_)
            rintro _ h1497 ⟨r1499, r1500, rfl, f1501, f1502⟩ K1498
            refine go_astore (pc' := 193) (ls' := #[.val (.int x0), .val (.int x1), .val (.int x2), .val (.int x3), .val (.int ((x0 &&& (2147483647 : Int32)) % (3 : Int32))), .val (.ref a832), .val (.ref (s_DELIVER Z)), .val (.int (7 : Int32)), .val (.int (x3 &&& (255 : Int32))), .val (.int (1 : Int32)), .val (.int (x1 &&& (3 : Int32))), .unset, .unset, .val (.ref r1499), .unset]) (hb hby at_191) rfl rfl rfl ?_
            refine go_aload (pc' := 195) (hb hby at_193) rfl rfl rfl ?_
            refine go_aload (pc' := 197) (hb hby at_195) rfl rfl rfl ?_
            have K1503 : Keep h0 h831 [] := ((Keep.refl h0 []).ext X833)
            have K1504 : Keep h831 h1497 [] := ((Keep.refl h831 []).trans K1498 all0)
            have S1505 := (S840.keep K1504)
            refine go_old (fun O1506 => ?_)
            refine callS0 (cells' := 3) (slots' := 38) (Wd := 0) (argsL := [(.ref r1499), (.ref a832)]) (rest := []) (pay_of (a0 := a0) (c_fill67 l G r1499 a832 r1500 (100 : Int32) (101 : Int32) (108 : Int32) (105 : Int32) (118 : Int32) (101 : Int32) (114 : Int32) h1497 O1506 (Nat.le_trans O0.2.1 (Nat.le_trans K1503.1 f1501)) f1502 S1505) (wk G 68 rfl) (wk G 63 rfl) (by decide) (by decide)) (wk G 66 rfl) (wk G 67 rfl) (wk G 63 rfl) (wk G 68 rfl) (by decide) pd7 rfl rfl (by rw [hml]; rfl) (Nat.le_of_ble_eq_true rfl) rfl rfl (by decide) (by decide) (allS (Nat.le_trans O0.2.1 (Nat.le_trans K1503.1 f1501)) all0) (fun _ hal => (sfS (Safe.arv hal f1502 (by simp)) sf0)) (hb hby at_197) (k_n (pc' := 200) rfl ?_)
            rintro  h1507 f1509 K1508
            refine go_newO (pc' := 203) (cells' := 4) (slots' := 42) (wk G 94 rfl) (wk G 3 rfl) (wk G 2 rfl) (hb hby at_200) rfl rfl rfl (by decide) (by decide) (fun h1510 a1511 g1512 X1513 E1514 D1515 U1516 => ?_)
            refine go_dup (pc' := 204) (hb hby at_203) rfl rfl ?_
            refine go_aload (pc' := 206) (hb hby at_204) rfl rfl rfl ?_
            have F1517 := D1515 (Or.inr (wk G 5 rfl)) (ty := (.array .byte)) (by decide)
            have F1518 := D1515 (Or.inr (wk G 6 rfl)) (ty := .byte) (by decide)
            have K1519 : Keep h1507 h1510 [] := ((Keep.refl h1507 []).ext X1513)
            have A1520 := (f1509.keep K1519 nin0)
            refine go_old (fun O1521 => ?_)
            have K1522 : Keep h0 h1497 [] := (K1503.trans K1498 all0)
            have K1523 : Keep h0 h1507 [] := (K1522.trans K1508 (allS (Or.inr (Nat.le_trans K1503.1 f1501)) all0))
            refine callI0 (cells' := 5) (slots' := 48) (Wd := 1) (argsL := [(.ref r1499)]) (rest := [(.ref a1511)]) (pay_new G O1521 (cs := [(100 : Int32), (101 : Int32), (108 : Int32), (105 : Int32), (118 : Int32), (101 : Int32)]) (n := 6) (Nat.le_trans O0.2.1 (Nat.le_trans K1523.1 (Nat.le_of_eq g1512))) E1514 F1517 F1518 A1520 rfl rfl (by decide) (by decide) (c8c (by decide) (c8c (by decide) (c8c (by decide) (c8c (by decide) (c8c (by decide) (c8c (by decide) c8n)))))) (by decide) (by decide)) rfl (wk G 95 rfl) (wk G 96 rfl) (wk G 97 rfl) (by decide) pd8 rfl rfl (by rw [hml]; rfl) (Nat.le_of_ble_eq_true rfl) rfl rfl (by decide) (by decide) (allS (Nat.le_trans O0.2.1 (Nat.le_trans K1523.1 (Nat.le_of_eq g1512))) all0) (fun _ hal => (sfS (safe_null hal E1514 F1517) sf0)) (hb hby at_206) (k_n (pc' := 209) rfl ?_)
            rintro h1524 S1526 K1525
            refine go_astore (pc' := 211) (ls' := #[.val (.int x0), .val (.int x1), .val (.int x2), .val (.int x3), .val (.int ((x0 &&& (2147483647 : Int32)) % (3 : Int32))), .val (.ref a832), .val (.ref (s_DELIVER Z)), .val (.int (7 : Int32)), .val (.int (x3 &&& (255 : Int32))), .val (.int (1 : Int32)), .val (.int (x1 &&& (3 : Int32))), .val (.ref a1511), .unset, .val (.ref r1499), .unset]) (hb hby at_209) rfl rfl rfl ?_
            refine go_aconst_null (pc' := 212) (hb hby at_211) rfl ?_
            refine go_astore (pc' := 214) (ls' := #[.val (.int x0), .val (.int x1), .val (.int x2), .val (.int x3), .val (.int ((x0 &&& (2147483647 : Int32)) % (3 : Int32))), .val (.ref a832), .val (.ref (s_DELIVER Z)), .val (.int (7 : Int32)), .val (.int (x3 &&& (255 : Int32))), .val (.int (1 : Int32)), .val (.int (x1 &&& (3 : Int32))), .val (.ref a1511), .val .null, .val (.ref r1499), .unset]) (hb hby at_212) rfl rfl rfl ?_
            refine go_goto (pc' := 279) (hb hby at_214) (by decide) rfl ?_
            refine go_aload (pc' := 281) (hb hby at_279) rfl rfl rfl ?_
            refine go_old (fun O1527 => ?_)
            refine callS0 (cells' := 6) (slots' := 51) (Wd := 0) (argsL := [(.ref a1511)]) (rest := []) (pay_of (a0 := a0) (c_of l G a1511 [(100 : Int32), (101 : Int32), (108 : Int32), (105 : Int32), (118 : Int32), (101 : Int32)] h1524 O1527 S1526) (wk G 28 rfl) (wk G 10 rfl) (by decide) (by decide)) (wk G 26 rfl) (wk G 27 rfl) (wk G 10 rfl) (wk G 28 rfl) (by decide) pd9 rfl rfl (by rw [hml]; rfl) (Nat.le_of_ble_eq_true rfl) rfl rfl (by decide) (by decide) all0 (fun _ _ => sf0) (hb hby at_281) (k_v (pc' := 284) rfl ?_)
            rintro _ h1528 (⟨rfl, f1530⟩ | ⟨rfl, f1531⟩ | ⟨rfl, f1532⟩ | ⟨rfl, f1533, f1534, f1535⟩) K1529
            · exact absurd f1530 (by simp)
            · exact absurd f1531 (by simp)
            · exact absurd f1532 (by simp)
            · refine go_aload (pc' := 286) (hb hby at_284) rfl rfl rfl ?_
              refine go_acF (pc' := 289) (hb hby at_286) rfl rfl rfl (XT.aa_ne_f rfl) ?_
              refine go_iconst (pc' := 290) (v := 1) (hb hby at_289) rfl rfl ?_
              refine go_goto (pc' := 294) (hb hby at_290) (by decide) rfl ?_
              have K1536 : Keep h0 h1510 [] := (K1523.ext X1513)
              have K1537 : Keep h0 h1524 [] := (K1536.trans K1525 (allS (Or.inr (Nat.le_trans K1523.1 (Nat.le_of_eq g1512))) all0))
              have K1538 : Keep h0 h1528 [] := (K1537.trans K1529 all0)
              refine go_ireturn hret hlk rfl (by simp) (hb hby at_294) (by decide) (by decide) ⟨_, rfl, rfl⟩ K1538
          · refine go_icT (pc' := 217) (hb hby at_181) (by decide) rfl (XT.ii_ne_t c1496) ?_
            refine go_iload (pc' := 219) (hb hby at_217) rfl rfl ?_
            refine go_iconst (pc' := 220) (v := 2) (hb hby at_219) rfl rfl ?_
            by_cases c1539 : (x1 &&& (3 : Int32)) = (2 : Int32)
            · refine go_icF (pc' := 223) (hb hby at_220) rfl (XT.ii_ne_f c1539) ?_
              refine go_iload (pc' := 225) (hb hby at_223) rfl rfl ?_
              refine go_iconst (pc' := 226) (v := 1) (hb hby at_225) rfl rfl ?_
              refine go_iadd (pc' := 227) (z := (8 : Int32)) (hb hby at_226) rfl (by decide) ?_
              refine callS0 (cells' := 3) (slots' := 40) (Wd := 0) (argsL := [(.int (8 : Int32))]) (rest := []) (pay_of (a0 := a0) (c_sized8 l G  h831 O841 ) (wk G 64 rfl) (wk G 63 rfl) (by decide) (by decide)) (wk G 61 rfl) (wk G 62 rfl) (wk G 63 rfl) (wk G 64 rfl) (by decide) pd6 rfl rfl (by rw [hml]; rfl) (Nat.le_of_ble_eq_true rfl) rfl rfl (by decide) (by decide) all0 (fun _ _ => sf0) (hb hby at_227) (k_v (pc' := 230) rfl ?_)
              rintro _ h1540 ⟨r1542, r1543, rfl, f1544, f1545⟩ K1541
              refine go_astore (pc' := 232) (ls' := #[.val (.int x0), .val (.int x1), .val (.int x2), .val (.int x3), .val (.int ((x0 &&& (2147483647 : Int32)) % (3 : Int32))), .val (.ref a832), .val (.ref (s_DELIVER Z)), .val (.int (7 : Int32)), .val (.int (x3 &&& (255 : Int32))), .val (.int (1 : Int32)), .val (.int (x1 &&& (3 : Int32))), .unset, .unset, .val (.ref r1542), .unset]) (hb hby at_230) rfl rfl rfl ?_
              refine go_aload (pc' := 234) (hb hby at_232) rfl rfl rfl ?_
              refine go_aload (pc' := 236) (hb hby at_234) rfl rfl rfl ?_
              have K1546 : Keep h0 h831 [] := ((Keep.refl h0 []).ext X833)
              have K1547 : Keep h831 h1540 [] := ((Keep.refl h831 []).trans K1541 all0)
              have S1548 := (S840.keep K1547)
              refine go_old (fun O1549 => ?_)
              refine callS0 (cells' := 3) (slots' := 40) (Wd := 0) (argsL := [(.ref r1542), (.ref a832)]) (rest := []) (pay_of (a0 := a0) (c_fill87 l G r1542 a832 r1543 (100 : Int32) (101 : Int32) (108 : Int32) (105 : Int32) (118 : Int32) (101 : Int32) (114 : Int32) h1540 O1549 (Nat.le_trans O0.2.1 (Nat.le_trans K1546.1 f1544)) f1545 S1548) (wk G 68 rfl) (wk G 63 rfl) (by decide) (by decide)) (wk G 66 rfl) (wk G 67 rfl) (wk G 63 rfl) (wk G 68 rfl) (by decide) pd7 rfl rfl (by rw [hml]; rfl) (Nat.le_of_ble_eq_true rfl) rfl rfl (by decide) (by decide) (allS (Nat.le_trans O0.2.1 (Nat.le_trans K1546.1 f1544)) all0) (fun _ hal => (sfS (Safe.arv hal f1545 (by simp)) sf0)) (hb hby at_236) (k_n (pc' := 239) rfl ?_)
              rintro  h1550 f1552 K1551
              refine go_aload (pc' := 241) (hb hby at_239) rfl rfl rfl ?_
              refine go_iload (pc' := 243) (hb hby at_241) rfl rfl ?_
              refine go_iload (pc' := 245) (hb hby at_243) rfl rfl ?_
              refine go_stC (pc' := 246) (i := 7) (x' := (x3 &&& (255 : Int32))) (vs' := [(.int (100 : Int32)), (.int (101 : Int32)), (.int (108 : Int32)), (.int (105 : Int32)), (.int (118 : Int32)), (.int (101 : Int32)), (.int (114 : Int32)), (.int (x3 &&& (255 : Int32)))]) f1552 (Nat.le_trans O0.2.1 (Nat.le_trans K1546.1 f1544)) (by decide) (by decide) rfl (Nat.le_of_ble_eq_true rfl) (i2c_mask _) rfl (hb hby at_245) rfl (fun h1553 W1554 A1555 => ?_)
              refine go_newO (pc' := 249) (cells' := 4) (slots' := 44) (wk G 94 rfl) (wk G 3 rfl) (wk G 2 rfl) (hb hby at_246) rfl rfl rfl (by decide) (by decide) (fun h1556 a1557 g1558 X1559 E1560 D1561 U1562 => ?_)
              refine go_dup (pc' := 250) (hb hby at_249) rfl rfl ?_
              refine go_aload (pc' := 252) (hb hby at_250) rfl rfl rfl ?_
              have F1563 := D1561 (Or.inr (wk G 5 rfl)) (ty := (.array .byte)) (by decide)
              have F1564 := D1561 (Or.inr (wk G 6 rfl)) (ty := .byte) (by decide)
              have K1565 : Keep h1553 h1556 [] := ((Keep.refl h1553 []).ext X1559)
              have A1566 := (A1555.keep K1565 nin0)
              refine go_old (fun O1567 => ?_)
              have K1568 : Keep h0 h1540 [] := (K1546.trans K1541 all0)
              have K1569 : Keep h0 h1550 [] := (K1568.trans K1551 (allS (Or.inr (Nat.le_trans K1546.1 f1544)) all0))
              have K1570 : Keep h0 h1553 [] := (K1569.wr W1554 (Or.inr (Nat.le_trans K1546.1 f1544)))
              refine callI0 (cells' := 5) (slots' := 52) (Wd := 1) (argsL := [(.ref r1542)]) (rest := [(.ref a1557)]) (pay_new G O1567 (cs := [(100 : Int32), (101 : Int32), (108 : Int32), (105 : Int32), (118 : Int32), (101 : Int32), (114 : Int32), (x3 &&& (255 : Int32))]) (n := 8) (Nat.le_trans O0.2.1 (Nat.le_trans K1570.1 (Nat.le_of_eq g1558))) E1560 F1563 F1564 A1566 rfl rfl (by decide) (by decide) (c8c (by decide) (c8c (by decide) (c8c (by decide) (c8c (by decide) (c8c (by decide) (c8c (by decide) (c8c (by decide) (c8c (c8_m _) c8n)))))))) (by decide) (by decide)) rfl (wk G 95 rfl) (wk G 96 rfl) (wk G 97 rfl) (by decide) pd8 rfl rfl (by rw [hml]; rfl) (Nat.le_of_ble_eq_true rfl) rfl rfl (by decide) (by decide) (allS (Nat.le_trans O0.2.1 (Nat.le_trans K1570.1 (Nat.le_of_eq g1558))) all0) (fun _ hal => (sfS (safe_null hal E1560 F1563) sf0)) (hb hby at_252) (k_n (pc' := 255) rfl ?_)
              rintro h1571 S1573 K1572
              refine go_astore (pc' := 257) (ls' := #[.val (.int x0), .val (.int x1), .val (.int x2), .val (.int x3), .val (.int ((x0 &&& (2147483647 : Int32)) % (3 : Int32))), .val (.ref a832), .val (.ref (s_DELIVER Z)), .val (.int (7 : Int32)), .val (.int (x3 &&& (255 : Int32))), .val (.int (1 : Int32)), .val (.int (x1 &&& (3 : Int32))), .val (.ref a1557), .unset, .val (.ref r1542), .unset]) (hb hby at_255) rfl rfl rfl ?_
              refine go_aconst_null (pc' := 258) (hb hby at_257) rfl ?_
              refine go_astore (pc' := 260) (ls' := #[.val (.int x0), .val (.int x1), .val (.int x2), .val (.int x3), .val (.int ((x0 &&& (2147483647 : Int32)) % (3 : Int32))), .val (.ref a832), .val (.ref (s_DELIVER Z)), .val (.int (7 : Int32)), .val (.int (x3 &&& (255 : Int32))), .val (.int (1 : Int32)), .val (.int (x1 &&& (3 : Int32))), .val (.ref a1557), .val .null, .val (.ref r1542), .unset]) (hb hby at_258) rfl rfl rfl ?_
              refine go_goto (pc' := 279) (hb hby at_260) (by decide) rfl ?_
              refine go_aload (pc' := 281) (hb hby at_279) rfl rfl rfl ?_
              refine go_old (fun O1574 => ?_)
              refine callS0 (cells' := 6) (slots' := 55) (Wd := 0) (argsL := [(.ref a1557)]) (rest := []) (pay_of (a0 := a0) (c_of l G a1557 [(100 : Int32), (101 : Int32), (108 : Int32), (105 : Int32), (118 : Int32), (101 : Int32), (114 : Int32), (x3 &&& (255 : Int32))] h1571 O1574 S1573) (wk G 28 rfl) (wk G 10 rfl) (by decide) (by decide)) (wk G 26 rfl) (wk G 27 rfl) (wk G 10 rfl) (wk G 28 rfl) (by decide) pd9 rfl rfl (by rw [hml]; rfl) (Nat.le_of_ble_eq_true rfl) rfl rfl (by decide) (by decide) all0 (fun _ _ => sf0) (hb hby at_281) (k_v (pc' := 284) rfl ?_)
              rintro _ h1575 (⟨rfl, f1577⟩ | ⟨rfl, f1578⟩ | ⟨rfl, f1579⟩ | ⟨rfl, f1580, f1581, f1582⟩) K1576
              · exact absurd f1577 (by simp)
              · exact absurd f1578 (by simp)
              · exact absurd f1579 (by simp)
              · refine go_aload (pc' := 286) (hb hby at_284) rfl rfl rfl ?_
                refine go_acF (pc' := 289) (hb hby at_286) rfl rfl rfl (XT.aa_ne_f rfl) ?_
                refine go_iconst (pc' := 290) (v := 1) (hb hby at_289) rfl rfl ?_
                refine go_goto (pc' := 294) (hb hby at_290) (by decide) rfl ?_
                have K1583 : Keep h0 h1556 [] := (K1570.ext X1559)
                have K1584 : Keep h0 h1571 [] := (K1583.trans K1572 (allS (Or.inr (Nat.le_trans K1570.1 (Nat.le_of_eq g1558))) all0))
                have K1585 : Keep h0 h1575 [] := (K1584.trans K1576 all0)
                refine go_ireturn hret hlk rfl (by simp) (hb hby at_294) (by decide) (by decide) ⟨_, rfl, rfl⟩ K1585
            · refine go_icT (pc' := 263) (hb hby at_220) (by decide) rfl (XT.ii_ne_t c1539) ?_
              refine go_iload (pc' := 265) (hb hby at_263) rfl rfl ?_
              refine go_ifF (pc' := 268) (hb hby at_265) rfl (by decide) ?_
              refine go_aconst_null (pc' := 269) (hb hby at_268) rfl ?_
              refine go_goto (pc' := 274) (hb hby at_269) (by decide) rfl ?_
              refine go_astore (pc' := 276) (ls' := #[.val (.int x0), .val (.int x1), .val (.int x2), .val (.int x3), .val (.int ((x0 &&& (2147483647 : Int32)) % (3 : Int32))), .val (.ref a832), .val (.ref (s_DELIVER Z)), .val (.int (7 : Int32)), .val (.int (x3 &&& (255 : Int32))), .val (.int (1 : Int32)), .val (.int (x1 &&& (3 : Int32))), .val .null, .unset, .unset, .unset]) (hb hby at_274) rfl rfl rfl ?_
              refine go_aconst_null (pc' := 277) (hb hby at_276) rfl ?_
              refine go_astore (pc' := 279) (ls' := #[.val (.int x0), .val (.int x1), .val (.int x2), .val (.int x3), .val (.int ((x0 &&& (2147483647 : Int32)) % (3 : Int32))), .val (.ref a832), .val (.ref (s_DELIVER Z)), .val (.int (7 : Int32)), .val (.int (x3 &&& (255 : Int32))), .val (.int (1 : Int32)), .val (.int (x1 &&& (3 : Int32))), .val .null, .val .null, .unset, .unset]) (hb hby at_277) rfl rfl rfl ?_
              refine go_aload (pc' := 281) (hb hby at_279) rfl rfl rfl ?_
              refine callS0 (cells' := 3) (slots' := 35) (Wd := 0) (argsL := [.null]) (rest := []) (pay_of (a0 := a0) (c_ofnull l G  h831 O841 ) (wk G 28 rfl) (wk G 10 rfl) (by decide) (by decide)) (wk G 26 rfl) (wk G 27 rfl) (wk G 10 rfl) (wk G 28 rfl) (by decide) pd9 rfl rfl (by rw [hml]; rfl) (Nat.le_of_ble_eq_true rfl) rfl rfl (by decide) (by decide) all0 (fun _ _ => sf0) (hb hby at_281) (k_v (pc' := 284) rfl ?_)
              rintro _ h1586 rfl K1587
              refine go_aload (pc' := 286) (hb hby at_284) rfl rfl rfl ?_
              refine go_acF (pc' := 289) (hb hby at_286) rfl rfl rfl (XT.aa_ne_f rfl) ?_
              refine go_iconst (pc' := 290) (v := 1) (hb hby at_289) rfl rfl ?_
              refine go_goto (pc' := 294) (hb hby at_290) (by decide) rfl ?_
              have K1588 : Keep h0 h831 [] := ((Keep.refl h0 []).ext X833)
              have K1589 : Keep h0 h1586 [] := (K1588.trans K1587 all0)
              refine go_ireturn hret hlk rfl (by simp) (hb hby at_294) (by decide) (by decide) ⟨_, rfl, rfl⟩ K1589
    · refine go_icT (pc' := 29) (hb hby at_21) (by decide) rfl (XT.ii_ne_t c830) ?_
      refine go_ldcH (pc' := 31) (cells' := 2) (slots' := 32) (n := 28) (vs := (([(100 : Int32), (101 : Int32), (112 : Int32), (101 : Int32), (110 : Int32), (100 : Int32), (115 : Int32)] : List Int32).map fun c => c.toInt8.toInt32).map Value.int) (z := (7 : Int32)) rfl (by decide) (wk G 114 rfl) (wS G) (by decide +kernel) (by decide) (by decide) (by decide) (by decide) (hb hby at_29) rfl rfl rfl (by decide) (by decide) (fun h1590 a1591 t1593 k1594 X1592 E1595 F1596 F1597 A1598 => ?_)
      have S1599 : Str Z h1590 a1591 [(100 : Int32), (101 : Int32), (112 : Int32), (101 : Int32), (110 : Int32), (100 : Int32), (115 : Int32)] := ⟨t1593, k1594, E1595, F1597, F1596, A1598, by decide, by decide⟩
      refine go_astore (pc' := 33) (ls' := #[.val (.int x0), .val (.int x1), .val (.int x2), .val (.int x3), .val (.int ((x0 &&& (2147483647 : Int32)) % (3 : Int32))), .val (.ref a1591), .unset, .unset, .unset, .unset, .unset, .unset, .unset, .unset, .unset]) (hb hby at_31) rfl rfl rfl ?_
      refine go_iload (pc' := 35) (hb hby at_33) rfl rfl ?_
      refine go_ifT (pc' := 44) (hb hby at_35) (by decide) rfl (XT.i0_ne_t c1) ?_
      refine go_iload (pc' := 46) (hb hby at_44) rfl rfl ?_
      refine go_iconst (pc' := 47) (v := 1) (hb hby at_46) rfl rfl ?_
      refine go_icT (pc' := 56) (hb hby at_47) (by decide) rfl (XT.ii_ne_t c830) ?_
      refine go_old (fun O1600 => ?_)
      refine go_getS (pc' := 59) (wk G 115 rfl) ((se_DEPENDS G).1.ext O1600.2) (hb hby at_56) rfl ?_
      refine go_astore (pc' := 61) (ls' := #[.val (.int x0), .val (.int x1), .val (.int x2), .val (.int x3), .val (.int ((x0 &&& (2147483647 : Int32)) % (3 : Int32))), .val (.ref a1591), .val (.ref (s_DEPENDS Z)), .unset, .unset, .unset, .unset, .unset, .unset, .unset, .unset]) (hb hby at_59) rfl rfl rfl ?_
      refine go_aload (pc' := 63) (hb hby at_61) rfl rfl rfl ?_
      refine callV0 (cells' := 2) (slots' := 32) (Wd := 0) (argsL := []) (rest := []) (pay_len G O1600 (n := (7 : Int32)) S1599 rfl (by decide) (by decide)) E1595 (wk G 12 rfl) (wk G 13 rfl) (wk G 15 rfl) (wk G 15 rfl) (wk G 14 rfl) (by decide) pd3 rfl rfl (by rw [hml]; rfl) (Nat.le_of_ble_eq_true rfl) rfl rfl (by decide) (by decide) all0 (fun _ _ => sf0) (hb hby at_63) (k_v (pc' := 66) rfl ?_)
      rintro _ _ ⟨rfl, rfl⟩ -
      refine go_istore (pc' := 68) (ls' := #[.val (.int x0), .val (.int x1), .val (.int x2), .val (.int x3), .val (.int ((x0 &&& (2147483647 : Int32)) % (3 : Int32))), .val (.ref a1591), .val (.ref (s_DEPENDS Z)), .val (.int (7 : Int32)), .unset, .unset, .unset, .unset, .unset, .unset, .unset]) (hb hby at_66) rfl rfl ?_
      refine go_iload_n (pc' := 69) (hb hby at_68) rfl rfl ?_
      refine go_sipush (pc' := 72) (v := 255) (hb hby at_69) rfl rfl ?_
      refine go_iand (pc' := 73) (z := (x3 &&& (255 : Int32))) (hb hby at_72) rfl rfl ?_
      refine go_i2c (pc' := 74) (z := (x3 &&& (255 : Int32))) (hb hby at_73) rfl (i2c_mask _) ?_
      refine go_istore (pc' := 76) (ls' := #[.val (.int x0), .val (.int x1), .val (.int x2), .val (.int x3), .val (.int ((x0 &&& (2147483647 : Int32)) % (3 : Int32))), .val (.ref a1591), .val (.ref (s_DEPENDS Z)), .val (.int (7 : Int32)), .val (.int (x3 &&& (255 : Int32))), .unset, .unset, .unset, .unset, .unset, .unset]) (hb hby at_74) rfl rfl ?_
      refine go_iload_n (pc' := 77) (hb hby at_76) rfl rfl ?_
      refine go_bipush (pc' := 79) (v := 8) (hb hby at_77) rfl rfl ?_
      refine go_iushr (pc' := 80) (z := (XT.ushr x3 (8 : Int32))) (hb hby at_79) rfl rfl ?_
      refine go_iconst (pc' := 81) (v := 1) (hb hby at_80) rfl rfl ?_
      refine go_iand (pc' := 82) (z := ((XT.ushr x3 (8 : Int32)) &&& (1 : Int32))) (hb hby at_81) rfl rfl ?_
      by_cases c1601 : ((XT.ushr x3 (8 : Int32)) &&& (1 : Int32)) = (0 : Int32)
      · refine go_ifT (pc' := 89) (hb hby at_82) (by decide) rfl (XT.i0_eq_t c1601) ?_
        refine go_iconst (pc' := 90) (v := 0) (hb hby at_89) rfl rfl ?_
        refine go_istore (pc' := 92) (ls' := #[.val (.int x0), .val (.int x1), .val (.int x2), .val (.int x3), .val (.int ((x0 &&& (2147483647 : Int32)) % (3 : Int32))), .val (.ref a1591), .val (.ref (s_DEPENDS Z)), .val (.int (7 : Int32)), .val (.int (x3 &&& (255 : Int32))), .val (.int (0 : Int32)), .unset, .unset, .unset, .unset, .unset]) (hb hby at_90) rfl rfl ?_
        refine go_iload_n (pc' := 93) (hb hby at_92) rfl rfl ?_
        refine go_iconst (pc' := 94) (v := 3) (hb hby at_93) rfl rfl ?_
        refine go_iand (pc' := 95) (z := (x1 &&& (3 : Int32))) (hb hby at_94) rfl rfl ?_
        refine go_istore (pc' := 97) (ls' := #[.val (.int x0), .val (.int x1), .val (.int x2), .val (.int x3), .val (.int ((x0 &&& (2147483647 : Int32)) % (3 : Int32))), .val (.ref a1591), .val (.ref (s_DEPENDS Z)), .val (.int (7 : Int32)), .val (.int (x3 &&& (255 : Int32))), .val (.int (0 : Int32)), .val (.int (x1 &&& (3 : Int32))), .unset, .unset, .unset, .unset]) (hb hby at_95) rfl rfl ?_
        refine go_iload (pc' := 99) (hb hby at_97) rfl rfl ?_
        by_cases c1602 : (x1 &&& (3 : Int32)) = (0 : Int32)
        · refine go_ifF (pc' := 102) (hb hby at_99) rfl (XT.i0_ne_f c1602) ?_
          refine go_iload (pc' := 104) (hb hby at_102) rfl rfl ?_
          refine callS0 (cells' := 3) (slots' := 39) (Wd := 0) (argsL := [(.int (7 : Int32))]) (rest := []) (pay_of (a0 := a0) (c_sized7 l G  h1590 O1600 ) (wk G 64 rfl) (wk G 63 rfl) (by decide) (by decide)) (wk G 61 rfl) (wk G 62 rfl) (wk G 63 rfl) (wk G 64 rfl) (by decide) pd6 rfl rfl (by rw [hml]; rfl) (Nat.le_of_ble_eq_true rfl) rfl rfl (by decide) (by decide) all0 (fun _ _ => sf0) (hb hby at_104) (k_v (pc' := 107) rfl ?_)
          rintro _ h1603 ⟨r1605, r1606, rfl, f1607, f1608⟩ K1604
          refine go_astore (pc' := 109) (ls' := #[.val (.int x0), .val (.int x1), .val (.int x2), .val (.int x3), .val (.int ((x0 &&& (2147483647 : Int32)) % (3 : Int32))), .val (.ref a1591), .val (.ref (s_DEPENDS Z)), .val (.int (7 : Int32)), .val (.int (x3 &&& (255 : Int32))), .val (.int (0 : Int32)), .val (.int (x1 &&& (3 : Int32))), .unset, .unset, .val (.ref r1605), .unset]) (hb hby at_107) rfl rfl rfl ?_
          refine go_aload (pc' := 111) (hb hby at_109) rfl rfl rfl ?_
          refine go_aload (pc' := 113) (hb hby at_111) rfl rfl rfl ?_
          have K1609 : Keep h0 h1590 [] := ((Keep.refl h0 []).ext X1592)
          have K1610 : Keep h1590 h1603 [] := ((Keep.refl h1590 []).trans K1604 all0)
          have S1611 := (S1599.keep K1610)
          refine go_old (fun O1612 => ?_)
          refine callS0 (cells' := 3) (slots' := 39) (Wd := 0) (argsL := [(.ref r1605), (.ref a1591)]) (rest := []) (pay_of (a0 := a0) (c_fill77 l G r1605 a1591 r1606 (100 : Int32) (101 : Int32) (112 : Int32) (101 : Int32) (110 : Int32) (100 : Int32) (115 : Int32) h1603 O1612 (Nat.le_trans O0.2.1 (Nat.le_trans K1609.1 f1607)) f1608 S1611) (wk G 68 rfl) (wk G 63 rfl) (by decide) (by decide)) (wk G 66 rfl) (wk G 67 rfl) (wk G 63 rfl) (wk G 68 rfl) (by decide) pd7 rfl rfl (by rw [hml]; rfl) (Nat.le_of_ble_eq_true rfl) rfl rfl (by decide) (by decide) (allS (Nat.le_trans O0.2.1 (Nat.le_trans K1609.1 f1607)) all0) (fun _ hal => (sfS (Safe.arv hal f1608 (by simp)) sf0)) (hb hby at_113) (k_n (pc' := 116) rfl ?_)
          rintro  h1613 f1615 K1614
          refine go_iload (pc' := 118) (hb hby at_116) rfl rfl ?_
          refine go_ifT (pc' := 160) (hb hby at_118) (by decide) rfl (by decide) ?_
          refine go_aload (pc' := 162) (hb hby at_160) rfl rfl rfl ?_
          refine go_astore (pc' := 164) (ls' := #[.val (.int x0), .val (.int x1), .val (.int x2), .val (.int x3), .val (.int ((x0 &&& (2147483647 : Int32)) % (3 : Int32))), .val (.ref a1591), .val (.ref (s_DEPENDS Z)), .val (.int (7 : Int32)), .val (.int (x3 &&& (255 : Int32))), .val (.int (0 : Int32)), .val (.int (x1 &&& (3 : Int32))), .unset, .val (.ref (s_DEPENDS Z)), .val (.ref r1605), .unset]) (hb hby at_162) rfl rfl rfl ?_
          refine go_newO (pc' := 167) (cells' := 4) (slots' := 43) (wk G 94 rfl) (wk G 3 rfl) (wk G 2 rfl) (hb hby at_164) rfl rfl rfl (by decide) (by decide) (fun h1616 a1617 g1618 X1619 E1620 D1621 U1622 => ?_)
          refine go_dup (pc' := 168) (hb hby at_167) rfl rfl ?_
          refine go_aload (pc' := 170) (hb hby at_168) rfl rfl rfl ?_
          have F1623 := D1621 (Or.inr (wk G 5 rfl)) (ty := (.array .byte)) (by decide)
          have F1624 := D1621 (Or.inr (wk G 6 rfl)) (ty := .byte) (by decide)
          have K1625 : Keep h1613 h1616 [] := ((Keep.refl h1613 []).ext X1619)
          have A1626 := (f1615.keep K1625 nin0)
          refine go_old (fun O1627 => ?_)
          have K1628 : Keep h0 h1603 [] := (K1609.trans K1604 all0)
          have K1629 : Keep h0 h1613 [] := (K1628.trans K1614 (allS (Or.inr (Nat.le_trans K1609.1 f1607)) all0))
          refine callI0 (cells' := 5) (slots' := 50) (Wd := 1) (argsL := [(.ref r1605)]) (rest := [(.ref a1617)]) (pay_new G O1627 (cs := [(100 : Int32), (101 : Int32), (112 : Int32), (101 : Int32), (110 : Int32), (100 : Int32), (115 : Int32)]) (n := 7) (Nat.le_trans O0.2.1 (Nat.le_trans K1629.1 (Nat.le_of_eq g1618))) E1620 F1623 F1624 A1626 rfl rfl (by decide) (by decide) (c8c (by decide) (c8c (by decide) (c8c (by decide) (c8c (by decide) (c8c (by decide) (c8c (by decide) (c8c (by decide) c8n))))))) (by decide) (by decide)) rfl (wk G 95 rfl) (wk G 96 rfl) (wk G 97 rfl) (by decide) pd8 rfl rfl (by rw [hml]; rfl) (Nat.le_of_ble_eq_true rfl) rfl rfl (by decide) (by decide) (allS (Nat.le_trans O0.2.1 (Nat.le_trans K1629.1 (Nat.le_of_eq g1618))) all0) (fun _ hal => (sfS (safe_null hal E1620 F1623) sf0)) (hb hby at_170) (k_n (pc' := 173) rfl ?_)
          rintro h1630 S1632 K1631
          refine go_astore (pc' := 175) (ls' := #[.val (.int x0), .val (.int x1), .val (.int x2), .val (.int x3), .val (.int ((x0 &&& (2147483647 : Int32)) % (3 : Int32))), .val (.ref a1591), .val (.ref (s_DEPENDS Z)), .val (.int (7 : Int32)), .val (.int (x3 &&& (255 : Int32))), .val (.int (0 : Int32)), .val (.int (x1 &&& (3 : Int32))), .val (.ref a1617), .val (.ref (s_DEPENDS Z)), .val (.ref r1605), .unset]) (hb hby at_173) rfl rfl rfl ?_
          refine go_goto (pc' := 279) (hb hby at_175) (by decide) rfl ?_
          refine go_aload (pc' := 281) (hb hby at_279) rfl rfl rfl ?_
          refine go_old (fun O1633 => ?_)
          refine callS0 (cells' := 6) (slots' := 53) (Wd := 0) (argsL := [(.ref a1617)]) (rest := []) (pay_of (a0 := a0) (c_of l G a1617 [(100 : Int32), (101 : Int32), (112 : Int32), (101 : Int32), (110 : Int32), (100 : Int32), (115 : Int32)] h1630 O1633 S1632) (wk G 28 rfl) (wk G 10 rfl) (by decide) (by decide)) (wk G 26 rfl) (wk G 27 rfl) (wk G 10 rfl) (wk G 28 rfl) (by decide) pd9 rfl rfl (by rw [hml]; rfl) (Nat.le_of_ble_eq_true rfl) rfl rfl (by decide) (by decide) all0 (fun _ _ => sf0) (hb hby at_281) (k_v (pc' := 284) rfl ?_)
          rintro _ h1634 (⟨rfl, f1636⟩ | ⟨rfl, f1637⟩ | ⟨rfl, f1638⟩ | ⟨rfl, f1639, f1640, f1641⟩) K1635
          · exact absurd f1636 (by simp)
          · exact absurd f1637 (by simp)
          · refine go_aload (pc' := 286) (hb hby at_284) rfl rfl rfl ?_
            refine go_acF (pc' := 289) (hb hby at_286) rfl rfl rfl (XT.aa_ne_f rfl) ?_
            refine go_iconst (pc' := 290) (v := 1) (hb hby at_289) rfl rfl ?_
            refine go_goto (pc' := 294) (hb hby at_290) (by decide) rfl ?_
            have K1642 : Keep h0 h1616 [] := (K1629.ext X1619)
            have K1643 : Keep h0 h1630 [] := (K1642.trans K1631 (allS (Or.inr (Nat.le_trans K1629.1 (Nat.le_of_eq g1618))) all0))
            have K1644 : Keep h0 h1634 [] := (K1643.trans K1635 all0)
            refine go_ireturn hret hlk rfl (by simp) (hb hby at_294) (by decide) (by decide) ⟨_, rfl, rfl⟩ K1644
          · exact absurd (by simp) f1641
        · refine go_ifT (pc' := 178) (hb hby at_99) (by decide) rfl (XT.i0_ne_t c1602) ?_
          refine go_iload (pc' := 180) (hb hby at_178) rfl rfl ?_
          refine go_iconst (pc' := 181) (v := 1) (hb hby at_180) rfl rfl ?_
          by_cases c1645 : (x1 &&& (3 : Int32)) = (1 : Int32)
          · refine go_icF (pc' := 184) (hb hby at_181) rfl (XT.ii_ne_f c1645) ?_
            refine go_iload (pc' := 186) (hb hby at_184) rfl rfl ?_
            refine go_iconst (pc' := 187) (v := 1) (hb hby at_186) rfl rfl ?_
            refine go_isub (pc' := 188) (z := (6 : Int32)) (hb hby at_187) rfl (by decide) ?_
            refine callS0 (cells' := 3) (slots' := 38) (Wd := 0) (argsL := [(.int (6 : Int32))]) (rest := []) (pay_of (a0 := a0) (c_sized6 l G  h1590 O1600 ) (wk G 64 rfl) (wk G 63 rfl) (by decide) (by decide)) (wk G 61 rfl) (wk G 62 rfl) (wk G 63 rfl) (wk G 64 rfl) (by decide) pd6 rfl rfl (by rw [hml]; rfl) (Nat.le_of_ble_eq_true rfl) rfl rfl (by decide) (by decide) all0 (fun _ _ => sf0) (hb hby at_188) (k_v (pc' := 191) rfl ?_)
            rintro _ h1646 ⟨r1648, r1649, rfl, f1650, f1651⟩ K1647
            refine go_astore (pc' := 193) (ls' := #[.val (.int x0), .val (.int x1), .val (.int x2), .val (.int x3), .val (.int ((x0 &&& (2147483647 : Int32)) % (3 : Int32))), .val (.ref a1591), .val (.ref (s_DEPENDS Z)), .val (.int (7 : Int32)), .val (.int (x3 &&& (255 : Int32))), .val (.int (0 : Int32)), .val (.int (x1 &&& (3 : Int32))), .unset, .unset, .val (.ref r1648), .unset]) (hb hby at_191) rfl rfl rfl ?_
            refine go_aload (pc' := 195) (hb hby at_193) rfl rfl rfl ?_
            refine go_aload (pc' := 197) (hb hby at_195) rfl rfl rfl ?_
            have K1652 : Keep h0 h1590 [] := ((Keep.refl h0 []).ext X1592)
            have K1653 : Keep h1590 h1646 [] := ((Keep.refl h1590 []).trans K1647 all0)
            have S1654 := (S1599.keep K1653)
            refine go_old (fun O1655 => ?_)
            refine callS0 (cells' := 3) (slots' := 38) (Wd := 0) (argsL := [(.ref r1648), (.ref a1591)]) (rest := []) (pay_of (a0 := a0) (c_fill67 l G r1648 a1591 r1649 (100 : Int32) (101 : Int32) (112 : Int32) (101 : Int32) (110 : Int32) (100 : Int32) (115 : Int32) h1646 O1655 (Nat.le_trans O0.2.1 (Nat.le_trans K1652.1 f1650)) f1651 S1654) (wk G 68 rfl) (wk G 63 rfl) (by decide) (by decide)) (wk G 66 rfl) (wk G 67 rfl) (wk G 63 rfl) (wk G 68 rfl) (by decide) pd7 rfl rfl (by rw [hml]; rfl) (Nat.le_of_ble_eq_true rfl) rfl rfl (by decide) (by decide) (allS (Nat.le_trans O0.2.1 (Nat.le_trans K1652.1 f1650)) all0) (fun _ hal => (sfS (Safe.arv hal f1651 (by simp)) sf0)) (hb hby at_197) (k_n (pc' := 200) rfl ?_)
            rintro  h1656 f1658 K1657
            refine go_newO (pc' := 203) (cells' := 4) (slots' := 42) (wk G 94 rfl) (wk G 3 rfl) (wk G 2 rfl) (hb hby at_200) rfl rfl rfl (by decide) (by decide) (fun h1659 a1660 g1661 X1662 E1663 D1664 U1665 => ?_)
            refine go_dup (pc' := 204) (hb hby at_203) rfl rfl ?_
            refine go_aload (pc' := 206) (hb hby at_204) rfl rfl rfl ?_
            have F1666 := D1664 (Or.inr (wk G 5 rfl)) (ty := (.array .byte)) (by decide)
            have F1667 := D1664 (Or.inr (wk G 6 rfl)) (ty := .byte) (by decide)
            have K1668 : Keep h1656 h1659 [] := ((Keep.refl h1656 []).ext X1662)
            have A1669 := (f1658.keep K1668 nin0)
            refine go_old (fun O1670 => ?_)
            have K1671 : Keep h0 h1646 [] := (K1652.trans K1647 all0)
            have K1672 : Keep h0 h1656 [] := (K1671.trans K1657 (allS (Or.inr (Nat.le_trans K1652.1 f1650)) all0))
            refine callI0 (cells' := 5) (slots' := 48) (Wd := 1) (argsL := [(.ref r1648)]) (rest := [(.ref a1660)]) (pay_new G O1670 (cs := [(100 : Int32), (101 : Int32), (112 : Int32), (101 : Int32), (110 : Int32), (100 : Int32)]) (n := 6) (Nat.le_trans O0.2.1 (Nat.le_trans K1672.1 (Nat.le_of_eq g1661))) E1663 F1666 F1667 A1669 rfl rfl (by decide) (by decide) (c8c (by decide) (c8c (by decide) (c8c (by decide) (c8c (by decide) (c8c (by decide) (c8c (by decide) c8n)))))) (by decide) (by decide)) rfl (wk G 95 rfl) (wk G 96 rfl) (wk G 97 rfl) (by decide) pd8 rfl rfl (by rw [hml]; rfl) (Nat.le_of_ble_eq_true rfl) rfl rfl (by decide) (by decide) (allS (Nat.le_trans O0.2.1 (Nat.le_trans K1672.1 (Nat.le_of_eq g1661))) all0) (fun _ hal => (sfS (safe_null hal E1663 F1666) sf0)) (hb hby at_206) (k_n (pc' := 209) rfl ?_)
            rintro h1673 S1675 K1674
            refine go_astore (pc' := 211) (ls' := #[.val (.int x0), .val (.int x1), .val (.int x2), .val (.int x3), .val (.int ((x0 &&& (2147483647 : Int32)) % (3 : Int32))), .val (.ref a1591), .val (.ref (s_DEPENDS Z)), .val (.int (7 : Int32)), .val (.int (x3 &&& (255 : Int32))), .val (.int (0 : Int32)), .val (.int (x1 &&& (3 : Int32))), .val (.ref a1660), .unset, .val (.ref r1648), .unset]) (hb hby at_209) rfl rfl rfl ?_
            refine go_aconst_null (pc' := 212) (hb hby at_211) rfl ?_
            refine go_astore (pc' := 214) (ls' := #[.val (.int x0), .val (.int x1), .val (.int x2), .val (.int x3), .val (.int ((x0 &&& (2147483647 : Int32)) % (3 : Int32))), .val (.ref a1591), .val (.ref (s_DEPENDS Z)), .val (.int (7 : Int32)), .val (.int (x3 &&& (255 : Int32))), .val (.int (0 : Int32)), .val (.int (x1 &&& (3 : Int32))), .val (.ref a1660), .val .null, .val (.ref r1648), .unset]) (hb hby at_212) rfl rfl rfl ?_
            refine go_goto (pc' := 279) (hb hby at_214) (by decide) rfl ?_
            refine go_aload (pc' := 281) (hb hby at_279) rfl rfl rfl ?_
            refine go_old (fun O1676 => ?_)
            refine callS0 (cells' := 6) (slots' := 51) (Wd := 0) (argsL := [(.ref a1660)]) (rest := []) (pay_of (a0 := a0) (c_of l G a1660 [(100 : Int32), (101 : Int32), (112 : Int32), (101 : Int32), (110 : Int32), (100 : Int32)] h1673 O1676 S1675) (wk G 28 rfl) (wk G 10 rfl) (by decide) (by decide)) (wk G 26 rfl) (wk G 27 rfl) (wk G 10 rfl) (wk G 28 rfl) (by decide) pd9 rfl rfl (by rw [hml]; rfl) (Nat.le_of_ble_eq_true rfl) rfl rfl (by decide) (by decide) all0 (fun _ _ => sf0) (hb hby at_281) (k_v (pc' := 284) rfl ?_)
            rintro _ h1677 (⟨rfl, f1679⟩ | ⟨rfl, f1680⟩ | ⟨rfl, f1681⟩ | ⟨rfl, f1682, f1683, f1684⟩) K1678
            · exact absurd f1679 (by simp)
            · exact absurd f1680 (by simp)
            · exact absurd f1681 (by simp)
            · refine go_aload (pc' := 286) (hb hby at_284) rfl rfl rfl ?_
              refine go_acF (pc' := 289) (hb hby at_286) rfl rfl rfl (XT.aa_ne_f rfl) ?_
              refine go_iconst (pc' := 290) (v := 1) (hb hby at_289) rfl rfl ?_
              refine go_goto (pc' := 294) (hb hby at_290) (by decide) rfl ?_
              have K1685 : Keep h0 h1659 [] := (K1672.ext X1662)
              have K1686 : Keep h0 h1673 [] := (K1685.trans K1674 (allS (Or.inr (Nat.le_trans K1672.1 (Nat.le_of_eq g1661))) all0))
              have K1687 : Keep h0 h1677 [] := (K1686.trans K1678 all0)
              refine go_ireturn hret hlk rfl (by simp) (hb hby at_294) (by decide) (by decide) ⟨_, rfl, rfl⟩ K1687
          · refine go_icT (pc' := 217) (hb hby at_181) (by decide) rfl (XT.ii_ne_t c1645) ?_
            refine go_iload (pc' := 219) (hb hby at_217) rfl rfl ?_
            refine go_iconst (pc' := 220) (v := 2) (hb hby at_219) rfl rfl ?_
            by_cases c1688 : (x1 &&& (3 : Int32)) = (2 : Int32)
            · refine go_icF (pc' := 223) (hb hby at_220) rfl (XT.ii_ne_f c1688) ?_
              refine go_iload (pc' := 225) (hb hby at_223) rfl rfl ?_
              refine go_iconst (pc' := 226) (v := 1) (hb hby at_225) rfl rfl ?_
              refine go_iadd (pc' := 227) (z := (8 : Int32)) (hb hby at_226) rfl (by decide) ?_
              refine callS0 (cells' := 3) (slots' := 40) (Wd := 0) (argsL := [(.int (8 : Int32))]) (rest := []) (pay_of (a0 := a0) (c_sized8 l G  h1590 O1600 ) (wk G 64 rfl) (wk G 63 rfl) (by decide) (by decide)) (wk G 61 rfl) (wk G 62 rfl) (wk G 63 rfl) (wk G 64 rfl) (by decide) pd6 rfl rfl (by rw [hml]; rfl) (Nat.le_of_ble_eq_true rfl) rfl rfl (by decide) (by decide) all0 (fun _ _ => sf0) (hb hby at_227) (k_v (pc' := 230) rfl ?_)
              rintro _ h1689 ⟨r1691, r1692, rfl, f1693, f1694⟩ K1690
              refine go_astore (pc' := 232) (ls' := #[.val (.int x0), .val (.int x1), .val (.int x2), .val (.int x3), .val (.int ((x0 &&& (2147483647 : Int32)) % (3 : Int32))), .val (.ref a1591), .val (.ref (s_DEPENDS Z)), .val (.int (7 : Int32)), .val (.int (x3 &&& (255 : Int32))), .val (.int (0 : Int32)), .val (.int (x1 &&& (3 : Int32))), .unset, .unset, .val (.ref r1691), .unset]) (hb hby at_230) rfl rfl rfl ?_
              refine go_aload (pc' := 234) (hb hby at_232) rfl rfl rfl ?_
              refine go_aload (pc' := 236) (hb hby at_234) rfl rfl rfl ?_
              have K1695 : Keep h0 h1590 [] := ((Keep.refl h0 []).ext X1592)
              have K1696 : Keep h1590 h1689 [] := ((Keep.refl h1590 []).trans K1690 all0)
              have S1697 := (S1599.keep K1696)
              refine go_old (fun O1698 => ?_)
              refine callS0 (cells' := 3) (slots' := 40) (Wd := 0) (argsL := [(.ref r1691), (.ref a1591)]) (rest := []) (pay_of (a0 := a0) (c_fill87 l G r1691 a1591 r1692 (100 : Int32) (101 : Int32) (112 : Int32) (101 : Int32) (110 : Int32) (100 : Int32) (115 : Int32) h1689 O1698 (Nat.le_trans O0.2.1 (Nat.le_trans K1695.1 f1693)) f1694 S1697) (wk G 68 rfl) (wk G 63 rfl) (by decide) (by decide)) (wk G 66 rfl) (wk G 67 rfl) (wk G 63 rfl) (wk G 68 rfl) (by decide) pd7 rfl rfl (by rw [hml]; rfl) (Nat.le_of_ble_eq_true rfl) rfl rfl (by decide) (by decide) (allS (Nat.le_trans O0.2.1 (Nat.le_trans K1695.1 f1693)) all0) (fun _ hal => (sfS (Safe.arv hal f1694 (by simp)) sf0)) (hb hby at_236) (k_n (pc' := 239) rfl ?_)
              rintro  h1699 f1701 K1700
              refine go_aload (pc' := 241) (hb hby at_239) rfl rfl rfl ?_
              refine go_iload (pc' := 243) (hb hby at_241) rfl rfl ?_
              refine go_iload (pc' := 245) (hb hby at_243) rfl rfl ?_
              refine go_stC (pc' := 246) (i := 7) (x' := (x3 &&& (255 : Int32))) (vs' := [(.int (100 : Int32)), (.int (101 : Int32)), (.int (112 : Int32)), (.int (101 : Int32)), (.int (110 : Int32)), (.int (100 : Int32)), (.int (115 : Int32)), (.int (x3 &&& (255 : Int32)))]) f1701 (Nat.le_trans O0.2.1 (Nat.le_trans K1695.1 f1693)) (by decide) (by decide) rfl (Nat.le_of_ble_eq_true rfl) (i2c_mask _) rfl (hb hby at_245) rfl (fun h1702 W1703 A1704 => ?_)
              refine go_newO (pc' := 249) (cells' := 4) (slots' := 44) (wk G 94 rfl) (wk G 3 rfl) (wk G 2 rfl) (hb hby at_246) rfl rfl rfl (by decide) (by decide) (fun h1705 a1706 g1707 X1708 E1709 D1710 U1711 => ?_)
              refine go_dup (pc' := 250) (hb hby at_249) rfl rfl ?_
              refine go_aload (pc' := 252) (hb hby at_250) rfl rfl rfl ?_
              have F1712 := D1710 (Or.inr (wk G 5 rfl)) (ty := (.array .byte)) (by decide)
              have F1713 := D1710 (Or.inr (wk G 6 rfl)) (ty := .byte) (by decide)
              have K1714 : Keep h1702 h1705 [] := ((Keep.refl h1702 []).ext X1708)
              have A1715 := (A1704.keep K1714 nin0)
              refine go_old (fun O1716 => ?_)
              have K1717 : Keep h0 h1689 [] := (K1695.trans K1690 all0)
              have K1718 : Keep h0 h1699 [] := (K1717.trans K1700 (allS (Or.inr (Nat.le_trans K1695.1 f1693)) all0))
              have K1719 : Keep h0 h1702 [] := (K1718.wr W1703 (Or.inr (Nat.le_trans K1695.1 f1693)))
              refine callI0 (cells' := 5) (slots' := 52) (Wd := 1) (argsL := [(.ref r1691)]) (rest := [(.ref a1706)]) (pay_new G O1716 (cs := [(100 : Int32), (101 : Int32), (112 : Int32), (101 : Int32), (110 : Int32), (100 : Int32), (115 : Int32), (x3 &&& (255 : Int32))]) (n := 8) (Nat.le_trans O0.2.1 (Nat.le_trans K1719.1 (Nat.le_of_eq g1707))) E1709 F1712 F1713 A1715 rfl rfl (by decide) (by decide) (c8c (by decide) (c8c (by decide) (c8c (by decide) (c8c (by decide) (c8c (by decide) (c8c (by decide) (c8c (by decide) (c8c (c8_m _) c8n)))))))) (by decide) (by decide)) rfl (wk G 95 rfl) (wk G 96 rfl) (wk G 97 rfl) (by decide) pd8 rfl rfl (by rw [hml]; rfl) (Nat.le_of_ble_eq_true rfl) rfl rfl (by decide) (by decide) (allS (Nat.le_trans O0.2.1 (Nat.le_trans K1719.1 (Nat.le_of_eq g1707))) all0) (fun _ hal => (sfS (safe_null hal E1709 F1712) sf0)) (hb hby at_252) (k_n (pc' := 255) rfl ?_)
              rintro h1720 S1722 K1721
              refine go_astore (pc' := 257) (ls' := #[.val (.int x0), .val (.int x1), .val (.int x2), .val (.int x3), .val (.int ((x0 &&& (2147483647 : Int32)) % (3 : Int32))), .val (.ref a1591), .val (.ref (s_DEPENDS Z)), .val (.int (7 : Int32)), .val (.int (x3 &&& (255 : Int32))), .val (.int (0 : Int32)), .val (.int (x1 &&& (3 : Int32))), .val (.ref a1706), .unset, .val (.ref r1691), .unset]) (hb hby at_255) rfl rfl rfl ?_
              refine go_aconst_null (pc' := 258) (hb hby at_257) rfl ?_
              refine go_astore (pc' := 260) (ls' := #[.val (.int x0), .val (.int x1), .val (.int x2), .val (.int x3), .val (.int ((x0 &&& (2147483647 : Int32)) % (3 : Int32))), .val (.ref a1591), .val (.ref (s_DEPENDS Z)), .val (.int (7 : Int32)), .val (.int (x3 &&& (255 : Int32))), .val (.int (0 : Int32)), .val (.int (x1 &&& (3 : Int32))), .val (.ref a1706), .val .null, .val (.ref r1691), .unset]) (hb hby at_258) rfl rfl rfl ?_
              refine go_goto (pc' := 279) (hb hby at_260) (by decide) rfl ?_
              refine go_aload (pc' := 281) (hb hby at_279) rfl rfl rfl ?_
              refine go_old (fun O1723 => ?_)
              refine callS0 (cells' := 6) (slots' := 55) (Wd := 0) (argsL := [(.ref a1706)]) (rest := []) (pay_of (a0 := a0) (c_of l G a1706 [(100 : Int32), (101 : Int32), (112 : Int32), (101 : Int32), (110 : Int32), (100 : Int32), (115 : Int32), (x3 &&& (255 : Int32))] h1720 O1723 S1722) (wk G 28 rfl) (wk G 10 rfl) (by decide) (by decide)) (wk G 26 rfl) (wk G 27 rfl) (wk G 10 rfl) (wk G 28 rfl) (by decide) pd9 rfl rfl (by rw [hml]; rfl) (Nat.le_of_ble_eq_true rfl) rfl rfl (by decide) (by decide) all0 (fun _ _ => sf0) (hb hby at_281) (k_v (pc' := 284) rfl ?_)
              rintro _ h1724 (⟨rfl, f1726⟩ | ⟨rfl, f1727⟩ | ⟨rfl, f1728⟩ | ⟨rfl, f1729, f1730, f1731⟩) K1725
              · exact absurd f1726 (by simp)
              · exact absurd f1727 (by simp)
              · exact absurd f1728 (by simp)
              · refine go_aload (pc' := 286) (hb hby at_284) rfl rfl rfl ?_
                refine go_acF (pc' := 289) (hb hby at_286) rfl rfl rfl (XT.aa_ne_f rfl) ?_
                refine go_iconst (pc' := 290) (v := 1) (hb hby at_289) rfl rfl ?_
                refine go_goto (pc' := 294) (hb hby at_290) (by decide) rfl ?_
                have K1732 : Keep h0 h1705 [] := (K1719.ext X1708)
                have K1733 : Keep h0 h1720 [] := (K1732.trans K1721 (allS (Or.inr (Nat.le_trans K1719.1 (Nat.le_of_eq g1707))) all0))
                have K1734 : Keep h0 h1724 [] := (K1733.trans K1725 all0)
                refine go_ireturn hret hlk rfl (by simp) (hb hby at_294) (by decide) (by decide) ⟨_, rfl, rfl⟩ K1734
            · refine go_icT (pc' := 263) (hb hby at_220) (by decide) rfl (XT.ii_ne_t c1688) ?_
              refine go_iload (pc' := 265) (hb hby at_263) rfl rfl ?_
              refine go_ifT (pc' := 272) (hb hby at_265) (by decide) rfl (by decide) ?_
              refine go_ldcH (pc' := 274) (cells' := 4) (slots' := 36) (n := 0) (vs := (([] : List Int32).map fun c => c.toInt8.toInt32).map Value.int) (z := (0 : Int32)) rfl (by decide) (wk G 25 rfl) (wS G) (by decide +kernel) (by decide) (by decide) (by decide) (by decide) (hb hby at_272) rfl rfl rfl (by decide) (by decide) (fun h1735 a1736 t1738 k1739 X1737 E1740 F1741 F1742 A1743 => ?_)
              have S1744 : Str Z h1735 a1736 [] := ⟨t1738, k1739, E1740, F1742, F1741, A1743, by decide, by decide⟩
              refine go_astore (pc' := 276) (ls' := #[.val (.int x0), .val (.int x1), .val (.int x2), .val (.int x3), .val (.int ((x0 &&& (2147483647 : Int32)) % (3 : Int32))), .val (.ref a1591), .val (.ref (s_DEPENDS Z)), .val (.int (7 : Int32)), .val (.int (x3 &&& (255 : Int32))), .val (.int (0 : Int32)), .val (.int (x1 &&& (3 : Int32))), .val (.ref a1736), .unset, .unset, .unset]) (hb hby at_274) rfl rfl rfl ?_
              refine go_aconst_null (pc' := 277) (hb hby at_276) rfl ?_
              refine go_astore (pc' := 279) (ls' := #[.val (.int x0), .val (.int x1), .val (.int x2), .val (.int x3), .val (.int ((x0 &&& (2147483647 : Int32)) % (3 : Int32))), .val (.ref a1591), .val (.ref (s_DEPENDS Z)), .val (.int (7 : Int32)), .val (.int (x3 &&& (255 : Int32))), .val (.int (0 : Int32)), .val (.int (x1 &&& (3 : Int32))), .val (.ref a1736), .val .null, .unset, .unset]) (hb hby at_277) rfl rfl rfl ?_
              refine go_aload (pc' := 281) (hb hby at_279) rfl rfl rfl ?_
              refine go_old (fun O1745 => ?_)
              refine callS0 (cells' := 5) (slots' := 39) (Wd := 0) (argsL := [(.ref a1736)]) (rest := []) (pay_of (a0 := a0) (c_of l G a1736 [] h1735 O1745 S1744) (wk G 28 rfl) (wk G 10 rfl) (by decide) (by decide)) (wk G 26 rfl) (wk G 27 rfl) (wk G 10 rfl) (wk G 28 rfl) (by decide) pd9 rfl rfl (by rw [hml]; rfl) (Nat.le_of_ble_eq_true rfl) rfl rfl (by decide) (by decide) all0 (fun _ _ => sf0) (hb hby at_281) (k_v (pc' := 284) rfl ?_)
              rintro _ h1746 (⟨rfl, f1748⟩ | ⟨rfl, f1749⟩ | ⟨rfl, f1750⟩ | ⟨rfl, f1751, f1752, f1753⟩) K1747
              · exact absurd f1748 (by simp)
              · exact absurd f1749 (by simp)
              · exact absurd f1750 (by simp)
              · refine go_aload (pc' := 286) (hb hby at_284) rfl rfl rfl ?_
                refine go_acF (pc' := 289) (hb hby at_286) rfl rfl rfl (XT.aa_ne_f rfl) ?_
                refine go_iconst (pc' := 290) (v := 1) (hb hby at_289) rfl rfl ?_
                refine go_goto (pc' := 294) (hb hby at_290) (by decide) rfl ?_
                have K1754 : Keep h0 h1590 [] := ((Keep.refl h0 []).ext X1592)
                have K1755 : Keep h0 h1735 [] := (K1754.ext X1737)
                have K1756 : Keep h0 h1746 [] := (K1755.trans K1747 all0)
                refine go_ireturn hret hlk rfl (by simp) (hb hby at_294) (by decide) (by decide) ⟨_, rfl, rfl⟩ K1756
      · refine go_ifF (pc' := 85) (hb hby at_82) rfl (XT.i0_eq_f c1601) ?_
        refine go_iconst (pc' := 86) (v := 1) (hb hby at_85) rfl rfl ?_
        refine go_goto (pc' := 90) (hb hby at_86) (by decide) rfl ?_
        refine go_istore (pc' := 92) (ls' := #[.val (.int x0), .val (.int x1), .val (.int x2), .val (.int x3), .val (.int ((x0 &&& (2147483647 : Int32)) % (3 : Int32))), .val (.ref a1591), .val (.ref (s_DEPENDS Z)), .val (.int (7 : Int32)), .val (.int (x3 &&& (255 : Int32))), .val (.int (1 : Int32)), .unset, .unset, .unset, .unset, .unset]) (hb hby at_90) rfl rfl ?_
        refine go_iload_n (pc' := 93) (hb hby at_92) rfl rfl ?_
        refine go_iconst (pc' := 94) (v := 3) (hb hby at_93) rfl rfl ?_
        refine go_iand (pc' := 95) (z := (x1 &&& (3 : Int32))) (hb hby at_94) rfl rfl ?_
        refine go_istore (pc' := 97) (ls' := #[.val (.int x0), .val (.int x1), .val (.int x2), .val (.int x3), .val (.int ((x0 &&& (2147483647 : Int32)) % (3 : Int32))), .val (.ref a1591), .val (.ref (s_DEPENDS Z)), .val (.int (7 : Int32)), .val (.int (x3 &&& (255 : Int32))), .val (.int (1 : Int32)), .val (.int (x1 &&& (3 : Int32))), .unset, .unset, .unset, .unset]) (hb hby at_95) rfl rfl ?_
        refine go_iload (pc' := 99) (hb hby at_97) rfl rfl ?_
        by_cases c1757 : (x1 &&& (3 : Int32)) = (0 : Int32)
        · refine go_ifF (pc' := 102) (hb hby at_99) rfl (XT.i0_ne_f c1757) ?_
          refine go_iload (pc' := 104) (hb hby at_102) rfl rfl ?_
          refine callS0 (cells' := 3) (slots' := 39) (Wd := 0) (argsL := [(.int (7 : Int32))]) (rest := []) (pay_of (a0 := a0) (c_sized7 l G  h1590 O1600 ) (wk G 64 rfl) (wk G 63 rfl) (by decide) (by decide)) (wk G 61 rfl) (wk G 62 rfl) (wk G 63 rfl) (wk G 64 rfl) (by decide) pd6 rfl rfl (by rw [hml]; rfl) (Nat.le_of_ble_eq_true rfl) rfl rfl (by decide) (by decide) all0 (fun _ _ => sf0) (hb hby at_104) (k_v (pc' := 107) rfl ?_)
          rintro _ h1758 ⟨r1760, r1761, rfl, f1762, f1763⟩ K1759
          refine go_astore (pc' := 109) (ls' := #[.val (.int x0), .val (.int x1), .val (.int x2), .val (.int x3), .val (.int ((x0 &&& (2147483647 : Int32)) % (3 : Int32))), .val (.ref a1591), .val (.ref (s_DEPENDS Z)), .val (.int (7 : Int32)), .val (.int (x3 &&& (255 : Int32))), .val (.int (1 : Int32)), .val (.int (x1 &&& (3 : Int32))), .unset, .unset, .val (.ref r1760), .unset]) (hb hby at_107) rfl rfl rfl ?_
          refine go_aload (pc' := 111) (hb hby at_109) rfl rfl rfl ?_
          refine go_aload (pc' := 113) (hb hby at_111) rfl rfl rfl ?_
          have K1764 : Keep h0 h1590 [] := ((Keep.refl h0 []).ext X1592)
          have K1765 : Keep h1590 h1758 [] := ((Keep.refl h1590 []).trans K1759 all0)
          have S1766 := (S1599.keep K1765)
          refine go_old (fun O1767 => ?_)
          refine callS0 (cells' := 3) (slots' := 39) (Wd := 0) (argsL := [(.ref r1760), (.ref a1591)]) (rest := []) (pay_of (a0 := a0) (c_fill77 l G r1760 a1591 r1761 (100 : Int32) (101 : Int32) (112 : Int32) (101 : Int32) (110 : Int32) (100 : Int32) (115 : Int32) h1758 O1767 (Nat.le_trans O0.2.1 (Nat.le_trans K1764.1 f1762)) f1763 S1766) (wk G 68 rfl) (wk G 63 rfl) (by decide) (by decide)) (wk G 66 rfl) (wk G 67 rfl) (wk G 63 rfl) (wk G 68 rfl) (by decide) pd7 rfl rfl (by rw [hml]; rfl) (Nat.le_of_ble_eq_true rfl) rfl rfl (by decide) (by decide) (allS (Nat.le_trans O0.2.1 (Nat.le_trans K1764.1 f1762)) all0) (fun _ hal => (sfS (Safe.arv hal f1763 (by simp)) sf0)) (hb hby at_113) (k_n (pc' := 116) rfl ?_)
          rintro  h1768 f1770 K1769
          refine go_iload (pc' := 118) (hb hby at_116) rfl rfl ?_
          refine go_ifF (pc' := 121) (hb hby at_118) rfl (by decide) ?_
          refine go_iload_n (pc' := 122) (hb hby at_121) rfl rfl ?_
          refine go_ldcI (pc' := 124) (v := (2147483647 : Int32)) (wk G 0 rfl) (hb hby at_122) rfl ?_
          refine go_iand (pc' := 125) (z := (x2 &&& (2147483647 : Int32))) (hb hby at_124) rfl rfl ?_
          refine go_iload (pc' := 127) (hb hby at_125) rfl rfl ?_
          refine go_irem (pc' := 128) (z := ((x2 &&& (2147483647 : Int32)) % (7 : Int32))) (hb hby at_127) rfl (by decide) rfl ?_
          rcases rem7 ((x2 &&& (2147483647 : Int32))) (and_nn _ _ (by decide)) with q1771 | q1771 | q1771 | q1771 | q1771 | q1771 | q1771
          · rw [q1771]
            refine go_istore (pc' := 130) (ls' := #[.val (.int x0), .val (.int x1), .val (.int x2), .val (.int x3), .val (.int ((x0 &&& (2147483647 : Int32)) % (3 : Int32))), .val (.ref a1591), .val (.ref (s_DEPENDS Z)), .val (.int (7 : Int32)), .val (.int (x3 &&& (255 : Int32))), .val (.int (1 : Int32)), .val (.int (x1 &&& (3 : Int32))), .unset, .unset, .val (.ref r1760), .val (.int (0 : Int32))]) (hb hby at_128) rfl rfl ?_
            refine go_aload (pc' := 132) (hb hby at_130) rfl rfl rfl ?_
            refine go_iload (pc' := 134) (hb hby at_132) rfl rfl ?_
            refine go_iload (pc' := 136) (hb hby at_134) rfl rfl ?_
            refine go_stC (pc' := 137) (i := 0) (x' := (x3 &&& (255 : Int32))) (vs' := [(.int (x3 &&& (255 : Int32))), (.int (101 : Int32)), (.int (112 : Int32)), (.int (101 : Int32)), (.int (110 : Int32)), (.int (100 : Int32)), (.int (115 : Int32))]) f1770 (Nat.le_trans O0.2.1 (Nat.le_trans K1764.1 f1762)) (by decide) (by decide) rfl (Nat.le_of_ble_eq_true rfl) (i2c_mask _) rfl (hb hby at_136) rfl (fun h1772 W1773 A1774 => ?_)
            refine go_iload (pc' := 139) (hb hby at_137) rfl rfl ?_
            refine go_aload (pc' := 141) (hb hby at_139) rfl rfl rfl ?_
            refine go_iload (pc' := 143) (hb hby at_141) rfl rfl ?_
            have K1775 : Keep h1590 h1768 [] := (K1765.trans K1769 (allS (Or.inr f1762) all0))
            have K1776 : Keep h1590 h1772 [] := (K1775.wr W1773 (Or.inr f1762))
            have S1777 := (S1599.keep K1776)
            refine go_old (fun O1778 => ?_)
            have E1779 := (E1595.keep K1776)
            refine callV0 (cells' := 3) (slots' := 39) (Wd := 1) (argsL := [(.int (0 : Int32))]) (rest := [(.int (x3 &&& (255 : Int32)))]) (pay_chr G O1778 (i := 0) (c := (100 : Int32)) S1777 rfl (Nat.le_of_ble_eq_true rfl) rfl (by decide) (by decide)) E1779 (wk G 73 rfl) (wk G 74 rfl) (wk G 76 rfl) (wk G 76 rfl) (wk G 75 rfl) (by decide) pd5 rfl rfl (by rw [hml]; rfl) (Nat.le_of_ble_eq_true rfl) rfl rfl (by decide) (by decide) all0 (fun _ _ => sf0) (hb hby at_143) (k_v (pc' := 146) rfl ?_)
            rintro _ _ ⟨rfl, rfl⟩ -
            by_cases c1780 : (x3 &&& (255 : Int32)) = (100 : Int32)
            · refine go_icF (pc' := 149) (hb hby at_146) rfl (XT.ii_ne_f c1780) ?_
              refine go_aload (pc' := 151) (hb hby at_149) rfl rfl rfl ?_
              refine go_goto (pc' := 155) (hb hby at_151) (by decide) rfl ?_
              refine go_astore (pc' := 157) (ls' := #[.val (.int x0), .val (.int x1), .val (.int x2), .val (.int x3), .val (.int ((x0 &&& (2147483647 : Int32)) % (3 : Int32))), .val (.ref a1591), .val (.ref (s_DEPENDS Z)), .val (.int (7 : Int32)), .val (.int (x3 &&& (255 : Int32))), .val (.int (1 : Int32)), .val (.int (x1 &&& (3 : Int32))), .unset, .val (.ref (s_DEPENDS Z)), .val (.ref r1760), .val (.int (0 : Int32))]) (hb hby at_155) rfl rfl rfl ?_
              refine go_goto (pc' := 164) (hb hby at_157) (by decide) rfl ?_
              refine go_newO (pc' := 167) (cells' := 4) (slots' := 43) (wk G 94 rfl) (wk G 3 rfl) (wk G 2 rfl) (hb hby at_164) rfl rfl rfl (by decide) (by decide) (fun h1781 a1782 g1783 X1784 E1785 D1786 U1787 => ?_)
              refine go_dup (pc' := 168) (hb hby at_167) rfl rfl ?_
              refine go_aload (pc' := 170) (hb hby at_168) rfl rfl rfl ?_
              have F1788 := D1786 (Or.inr (wk G 5 rfl)) (ty := (.array .byte)) (by decide)
              have F1789 := D1786 (Or.inr (wk G 6 rfl)) (ty := .byte) (by decide)
              have K1790 : Keep h1772 h1781 [] := ((Keep.refl h1772 []).ext X1784)
              have A1791 := (A1774.keep K1790 nin0)
              refine go_old (fun O1792 => ?_)
              have K1793 : Keep h0 h1758 [] := (K1764.trans K1759 all0)
              have K1794 : Keep h0 h1768 [] := (K1793.trans K1769 (allS (Or.inr (Nat.le_trans K1764.1 f1762)) all0))
              have K1795 : Keep h0 h1772 [] := (K1794.wr W1773 (Or.inr (Nat.le_trans K1764.1 f1762)))
              refine callI0 (cells' := 5) (slots' := 50) (Wd := 1) (argsL := [(.ref r1760)]) (rest := [(.ref a1782)]) (pay_new G O1792 (cs := [(x3 &&& (255 : Int32)), (101 : Int32), (112 : Int32), (101 : Int32), (110 : Int32), (100 : Int32), (115 : Int32)]) (n := 7) (Nat.le_trans O0.2.1 (Nat.le_trans K1795.1 (Nat.le_of_eq g1783))) E1785 F1788 F1789 A1791 rfl rfl (by decide) (by decide) (c8c (c8_m _) (c8c (by decide) (c8c (by decide) (c8c (by decide) (c8c (by decide) (c8c (by decide) (c8c (by decide) c8n))))))) (by decide) (by decide)) rfl (wk G 95 rfl) (wk G 96 rfl) (wk G 97 rfl) (by decide) pd8 rfl rfl (by rw [hml]; rfl) (Nat.le_of_ble_eq_true rfl) rfl rfl (by decide) (by decide) (allS (Nat.le_trans O0.2.1 (Nat.le_trans K1795.1 (Nat.le_of_eq g1783))) all0) (fun _ hal => (sfS (safe_null hal E1785 F1788) sf0)) (hb hby at_170) (k_n (pc' := 173) rfl ?_)
              rintro h1796 S1798 K1797
              refine go_astore (pc' := 175) (ls' := #[.val (.int x0), .val (.int x1), .val (.int x2), .val (.int x3), .val (.int ((x0 &&& (2147483647 : Int32)) % (3 : Int32))), .val (.ref a1591), .val (.ref (s_DEPENDS Z)), .val (.int (7 : Int32)), .val (.int (x3 &&& (255 : Int32))), .val (.int (1 : Int32)), .val (.int (x1 &&& (3 : Int32))), .val (.ref a1782), .val (.ref (s_DEPENDS Z)), .val (.ref r1760), .val (.int (0 : Int32))]) (hb hby at_173) rfl rfl rfl ?_
              refine go_goto (pc' := 279) (hb hby at_175) (by decide) rfl ?_
              refine go_aload (pc' := 281) (hb hby at_279) rfl rfl rfl ?_
              refine go_old (fun O1799 => ?_)
              refine callS0 (cells' := 6) (slots' := 53) (Wd := 0) (argsL := [(.ref a1782)]) (rest := []) (pay_of (a0 := a0) (c_of l G a1782 [(x3 &&& (255 : Int32)), (101 : Int32), (112 : Int32), (101 : Int32), (110 : Int32), (100 : Int32), (115 : Int32)] h1796 O1799 S1798) (wk G 28 rfl) (wk G 10 rfl) (by decide) (by decide)) (wk G 26 rfl) (wk G 27 rfl) (wk G 10 rfl) (wk G 28 rfl) (by decide) pd9 rfl rfl (by rw [hml]; rfl) (Nat.le_of_ble_eq_true rfl) rfl rfl (by decide) (by decide) all0 (fun _ _ => sf0) (hb hby at_281) (k_v (pc' := 284) rfl ?_)
              rintro _ h1800 (⟨rfl, f1802⟩ | ⟨rfl, f1803⟩ | ⟨rfl, f1804⟩ | ⟨rfl, f1805, f1806, f1807⟩) K1801
              · exact absurd f1802 (by simp)
              · exact absurd f1803 (by simp)
              · refine go_aload (pc' := 286) (hb hby at_284) rfl rfl rfl ?_
                refine go_acF (pc' := 289) (hb hby at_286) rfl rfl rfl (XT.aa_ne_f rfl) ?_
                refine go_iconst (pc' := 290) (v := 1) (hb hby at_289) rfl rfl ?_
                refine go_goto (pc' := 294) (hb hby at_290) (by decide) rfl ?_
                have K1808 : Keep h0 h1781 [] := (K1795.ext X1784)
                have K1809 : Keep h0 h1796 [] := (K1808.trans K1797 (allS (Or.inr (Nat.le_trans K1795.1 (Nat.le_of_eq g1783))) all0))
                have K1810 : Keep h0 h1800 [] := (K1809.trans K1801 all0)
                refine go_ireturn hret hlk rfl (by simp) (hb hby at_294) (by decide) (by decide) ⟨_, rfl, rfl⟩ K1810
              · exact absurd (by simp [c1780]) f1807
            · refine go_icT (pc' := 154) (hb hby at_146) (by decide) rfl (XT.ii_ne_t c1780) ?_
              refine go_aconst_null (pc' := 155) (hb hby at_154) rfl ?_
              refine go_astore (pc' := 157) (ls' := #[.val (.int x0), .val (.int x1), .val (.int x2), .val (.int x3), .val (.int ((x0 &&& (2147483647 : Int32)) % (3 : Int32))), .val (.ref a1591), .val (.ref (s_DEPENDS Z)), .val (.int (7 : Int32)), .val (.int (x3 &&& (255 : Int32))), .val (.int (1 : Int32)), .val (.int (x1 &&& (3 : Int32))), .unset, .val .null, .val (.ref r1760), .val (.int (0 : Int32))]) (hb hby at_155) rfl rfl rfl ?_
              refine go_goto (pc' := 164) (hb hby at_157) (by decide) rfl ?_
              refine go_newO (pc' := 167) (cells' := 4) (slots' := 43) (wk G 94 rfl) (wk G 3 rfl) (wk G 2 rfl) (hb hby at_164) rfl rfl rfl (by decide) (by decide) (fun h1811 a1812 g1813 X1814 E1815 D1816 U1817 => ?_)
              refine go_dup (pc' := 168) (hb hby at_167) rfl rfl ?_
              refine go_aload (pc' := 170) (hb hby at_168) rfl rfl rfl ?_
              have F1818 := D1816 (Or.inr (wk G 5 rfl)) (ty := (.array .byte)) (by decide)
              have F1819 := D1816 (Or.inr (wk G 6 rfl)) (ty := .byte) (by decide)
              have K1820 : Keep h1772 h1811 [] := ((Keep.refl h1772 []).ext X1814)
              have A1821 := (A1774.keep K1820 nin0)
              refine go_old (fun O1822 => ?_)
              have K1823 : Keep h0 h1758 [] := (K1764.trans K1759 all0)
              have K1824 : Keep h0 h1768 [] := (K1823.trans K1769 (allS (Or.inr (Nat.le_trans K1764.1 f1762)) all0))
              have K1825 : Keep h0 h1772 [] := (K1824.wr W1773 (Or.inr (Nat.le_trans K1764.1 f1762)))
              refine callI0 (cells' := 5) (slots' := 50) (Wd := 1) (argsL := [(.ref r1760)]) (rest := [(.ref a1812)]) (pay_new G O1822 (cs := [(x3 &&& (255 : Int32)), (101 : Int32), (112 : Int32), (101 : Int32), (110 : Int32), (100 : Int32), (115 : Int32)]) (n := 7) (Nat.le_trans O0.2.1 (Nat.le_trans K1825.1 (Nat.le_of_eq g1813))) E1815 F1818 F1819 A1821 rfl rfl (by decide) (by decide) (c8c (c8_m _) (c8c (by decide) (c8c (by decide) (c8c (by decide) (c8c (by decide) (c8c (by decide) (c8c (by decide) c8n))))))) (by decide) (by decide)) rfl (wk G 95 rfl) (wk G 96 rfl) (wk G 97 rfl) (by decide) pd8 rfl rfl (by rw [hml]; rfl) (Nat.le_of_ble_eq_true rfl) rfl rfl (by decide) (by decide) (allS (Nat.le_trans O0.2.1 (Nat.le_trans K1825.1 (Nat.le_of_eq g1813))) all0) (fun _ hal => (sfS (safe_null hal E1815 F1818) sf0)) (hb hby at_170) (k_n (pc' := 173) rfl ?_)
              rintro h1826 S1828 K1827
              refine go_astore (pc' := 175) (ls' := #[.val (.int x0), .val (.int x1), .val (.int x2), .val (.int x3), .val (.int ((x0 &&& (2147483647 : Int32)) % (3 : Int32))), .val (.ref a1591), .val (.ref (s_DEPENDS Z)), .val (.int (7 : Int32)), .val (.int (x3 &&& (255 : Int32))), .val (.int (1 : Int32)), .val (.int (x1 &&& (3 : Int32))), .val (.ref a1812), .val .null, .val (.ref r1760), .val (.int (0 : Int32))]) (hb hby at_173) rfl rfl rfl ?_
              refine go_goto (pc' := 279) (hb hby at_175) (by decide) rfl ?_
              refine go_aload (pc' := 281) (hb hby at_279) rfl rfl rfl ?_
              refine go_old (fun O1829 => ?_)
              refine callS0 (cells' := 6) (slots' := 53) (Wd := 0) (argsL := [(.ref a1812)]) (rest := []) (pay_of (a0 := a0) (c_of l G a1812 [(x3 &&& (255 : Int32)), (101 : Int32), (112 : Int32), (101 : Int32), (110 : Int32), (100 : Int32), (115 : Int32)] h1826 O1829 S1828) (wk G 28 rfl) (wk G 10 rfl) (by decide) (by decide)) (wk G 26 rfl) (wk G 27 rfl) (wk G 10 rfl) (wk G 28 rfl) (by decide) pd9 rfl rfl (by rw [hml]; rfl) (Nat.le_of_ble_eq_true rfl) rfl rfl (by decide) (by decide) all0 (fun _ _ => sf0) (hb hby at_281) (k_v (pc' := 284) rfl ?_)
              rintro _ h1830 (⟨rfl, f1832⟩ | ⟨rfl, f1833⟩ | ⟨rfl, f1834⟩ | ⟨rfl, f1835, f1836, f1837⟩) K1831
              · exact absurd f1832 (by simp)
              · exact absurd f1833 (by simp)
              · exact absurd f1834 (by simp [Ne.symm c1780])
              · refine go_aload (pc' := 286) (hb hby at_284) rfl rfl rfl ?_
                refine go_acF (pc' := 289) (hb hby at_286) rfl rfl rfl (XT.aa_ne_f rfl) ?_
                refine go_iconst (pc' := 290) (v := 1) (hb hby at_289) rfl rfl ?_
                refine go_goto (pc' := 294) (hb hby at_290) (by decide) rfl ?_
                have K1838 : Keep h0 h1811 [] := (K1825.ext X1814)
                have K1839 : Keep h0 h1826 [] := (K1838.trans K1827 (allS (Or.inr (Nat.le_trans K1825.1 (Nat.le_of_eq g1813))) all0))
                have K1840 : Keep h0 h1830 [] := (K1839.trans K1831 all0)
                refine go_ireturn hret hlk rfl (by simp) (hb hby at_294) (by decide) (by decide) ⟨_, rfl, rfl⟩ K1840
          · rw [q1771]
            refine go_istore (pc' := 130) (ls' := #[.val (.int x0), .val (.int x1), .val (.int x2), .val (.int x3), .val (.int ((x0 &&& (2147483647 : Int32)) % (3 : Int32))), .val (.ref a1591), .val (.ref (s_DEPENDS Z)), .val (.int (7 : Int32)), .val (.int (x3 &&& (255 : Int32))), .val (.int (1 : Int32)), .val (.int (x1 &&& (3 : Int32))), .unset, .unset, .val (.ref r1760), .val (.int (1 : Int32))]) (hb hby at_128) rfl rfl ?_
            refine go_aload (pc' := 132) (hb hby at_130) rfl rfl rfl ?_
            refine go_iload (pc' := 134) (hb hby at_132) rfl rfl ?_
            refine go_iload (pc' := 136) (hb hby at_134) rfl rfl ?_
            refine go_stC (pc' := 137) (i := 1) (x' := (x3 &&& (255 : Int32))) (vs' := [(.int (100 : Int32)), (.int (x3 &&& (255 : Int32))), (.int (112 : Int32)), (.int (101 : Int32)), (.int (110 : Int32)), (.int (100 : Int32)), (.int (115 : Int32))]) f1770 (Nat.le_trans O0.2.1 (Nat.le_trans K1764.1 f1762)) (by decide) (by decide) rfl (Nat.le_of_ble_eq_true rfl) (i2c_mask _) rfl (hb hby at_136) rfl (fun h1841 W1842 A1843 => ?_)
            refine go_iload (pc' := 139) (hb hby at_137) rfl rfl ?_
            refine go_aload (pc' := 141) (hb hby at_139) rfl rfl rfl ?_
            refine go_iload (pc' := 143) (hb hby at_141) rfl rfl ?_
            have K1844 : Keep h1590 h1768 [] := (K1765.trans K1769 (allS (Or.inr f1762) all0))
            have K1845 : Keep h1590 h1841 [] := (K1844.wr W1842 (Or.inr f1762))
            have S1846 := (S1599.keep K1845)
            refine go_old (fun O1847 => ?_)
            have E1848 := (E1595.keep K1845)
            refine callV0 (cells' := 3) (slots' := 39) (Wd := 1) (argsL := [(.int (1 : Int32))]) (rest := [(.int (x3 &&& (255 : Int32)))]) (pay_chr G O1847 (i := 1) (c := (101 : Int32)) S1846 rfl (Nat.le_of_ble_eq_true rfl) rfl (by decide) (by decide)) E1848 (wk G 73 rfl) (wk G 74 rfl) (wk G 76 rfl) (wk G 76 rfl) (wk G 75 rfl) (by decide) pd5 rfl rfl (by rw [hml]; rfl) (Nat.le_of_ble_eq_true rfl) rfl rfl (by decide) (by decide) all0 (fun _ _ => sf0) (hb hby at_143) (k_v (pc' := 146) rfl ?_)
            rintro _ _ ⟨rfl, rfl⟩ -
            by_cases c1849 : (x3 &&& (255 : Int32)) = (101 : Int32)
            · refine go_icF (pc' := 149) (hb hby at_146) rfl (XT.ii_ne_f c1849) ?_
              refine go_aload (pc' := 151) (hb hby at_149) rfl rfl rfl ?_
              refine go_goto (pc' := 155) (hb hby at_151) (by decide) rfl ?_
              refine go_astore (pc' := 157) (ls' := #[.val (.int x0), .val (.int x1), .val (.int x2), .val (.int x3), .val (.int ((x0 &&& (2147483647 : Int32)) % (3 : Int32))), .val (.ref a1591), .val (.ref (s_DEPENDS Z)), .val (.int (7 : Int32)), .val (.int (x3 &&& (255 : Int32))), .val (.int (1 : Int32)), .val (.int (x1 &&& (3 : Int32))), .unset, .val (.ref (s_DEPENDS Z)), .val (.ref r1760), .val (.int (1 : Int32))]) (hb hby at_155) rfl rfl rfl ?_
              refine go_goto (pc' := 164) (hb hby at_157) (by decide) rfl ?_
              refine go_newO (pc' := 167) (cells' := 4) (slots' := 43) (wk G 94 rfl) (wk G 3 rfl) (wk G 2 rfl) (hb hby at_164) rfl rfl rfl (by decide) (by decide) (fun h1850 a1851 g1852 X1853 E1854 D1855 U1856 => ?_)
              refine go_dup (pc' := 168) (hb hby at_167) rfl rfl ?_
              refine go_aload (pc' := 170) (hb hby at_168) rfl rfl rfl ?_
              have F1857 := D1855 (Or.inr (wk G 5 rfl)) (ty := (.array .byte)) (by decide)
              have F1858 := D1855 (Or.inr (wk G 6 rfl)) (ty := .byte) (by decide)
              have K1859 : Keep h1841 h1850 [] := ((Keep.refl h1841 []).ext X1853)
              have A1860 := (A1843.keep K1859 nin0)
              refine go_old (fun O1861 => ?_)
              have K1862 : Keep h0 h1758 [] := (K1764.trans K1759 all0)
              have K1863 : Keep h0 h1768 [] := (K1862.trans K1769 (allS (Or.inr (Nat.le_trans K1764.1 f1762)) all0))
              have K1864 : Keep h0 h1841 [] := (K1863.wr W1842 (Or.inr (Nat.le_trans K1764.1 f1762)))
              refine callI0 (cells' := 5) (slots' := 50) (Wd := 1) (argsL := [(.ref r1760)]) (rest := [(.ref a1851)]) (pay_new G O1861 (cs := [(100 : Int32), (x3 &&& (255 : Int32)), (112 : Int32), (101 : Int32), (110 : Int32), (100 : Int32), (115 : Int32)]) (n := 7) (Nat.le_trans O0.2.1 (Nat.le_trans K1864.1 (Nat.le_of_eq g1852))) E1854 F1857 F1858 A1860 rfl rfl (by decide) (by decide) (c8c (by decide) (c8c (c8_m _) (c8c (by decide) (c8c (by decide) (c8c (by decide) (c8c (by decide) (c8c (by decide) c8n))))))) (by decide) (by decide)) rfl (wk G 95 rfl) (wk G 96 rfl) (wk G 97 rfl) (by decide) pd8 rfl rfl (by rw [hml]; rfl) (Nat.le_of_ble_eq_true rfl) rfl rfl (by decide) (by decide) (allS (Nat.le_trans O0.2.1 (Nat.le_trans K1864.1 (Nat.le_of_eq g1852))) all0) (fun _ hal => (sfS (safe_null hal E1854 F1857) sf0)) (hb hby at_170) (k_n (pc' := 173) rfl ?_)
              rintro h1865 S1867 K1866
              refine go_astore (pc' := 175) (ls' := #[.val (.int x0), .val (.int x1), .val (.int x2), .val (.int x3), .val (.int ((x0 &&& (2147483647 : Int32)) % (3 : Int32))), .val (.ref a1591), .val (.ref (s_DEPENDS Z)), .val (.int (7 : Int32)), .val (.int (x3 &&& (255 : Int32))), .val (.int (1 : Int32)), .val (.int (x1 &&& (3 : Int32))), .val (.ref a1851), .val (.ref (s_DEPENDS Z)), .val (.ref r1760), .val (.int (1 : Int32))]) (hb hby at_173) rfl rfl rfl ?_
              refine go_goto (pc' := 279) (hb hby at_175) (by decide) rfl ?_
              refine go_aload (pc' := 281) (hb hby at_279) rfl rfl rfl ?_
              refine go_old (fun O1868 => ?_)
              refine callS0 (cells' := 6) (slots' := 53) (Wd := 0) (argsL := [(.ref a1851)]) (rest := []) (pay_of (a0 := a0) (c_of l G a1851 [(100 : Int32), (x3 &&& (255 : Int32)), (112 : Int32), (101 : Int32), (110 : Int32), (100 : Int32), (115 : Int32)] h1865 O1868 S1867) (wk G 28 rfl) (wk G 10 rfl) (by decide) (by decide)) (wk G 26 rfl) (wk G 27 rfl) (wk G 10 rfl) (wk G 28 rfl) (by decide) pd9 rfl rfl (by rw [hml]; rfl) (Nat.le_of_ble_eq_true rfl) rfl rfl (by decide) (by decide) all0 (fun _ _ => sf0) (hb hby at_281) (k_v (pc' := 284) rfl ?_)
              rintro _ h1869 (⟨rfl, f1871⟩ | ⟨rfl, f1872⟩ | ⟨rfl, f1873⟩ | ⟨rfl, f1874, f1875, f1876⟩) K1870
              · exact absurd f1871 (by simp)
              · exact absurd f1872 (by simp)
              · refine go_aload (pc' := 286) (hb hby at_284) rfl rfl rfl ?_
                refine go_acF (pc' := 289) (hb hby at_286) rfl rfl rfl (XT.aa_ne_f rfl) ?_
                refine go_iconst (pc' := 290) (v := 1) (hb hby at_289) rfl rfl ?_
                refine go_goto (pc' := 294) (hb hby at_290) (by decide) rfl ?_
                have K1877 : Keep h0 h1850 [] := (K1864.ext X1853)
                have K1878 : Keep h0 h1865 [] := (K1877.trans K1866 (allS (Or.inr (Nat.le_trans K1864.1 (Nat.le_of_eq g1852))) all0))
                have K1879 : Keep h0 h1869 [] := (K1878.trans K1870 all0)
                refine go_ireturn hret hlk rfl (by simp) (hb hby at_294) (by decide) (by decide) ⟨_, rfl, rfl⟩ K1879
              · exact absurd (by simp [c1849]) f1876
            · refine go_icT (pc' := 154) (hb hby at_146) (by decide) rfl (XT.ii_ne_t c1849) ?_
              refine go_aconst_null (pc' := 155) (hb hby at_154) rfl ?_
              refine go_astore (pc' := 157) (ls' := #[.val (.int x0), .val (.int x1), .val (.int x2), .val (.int x3), .val (.int ((x0 &&& (2147483647 : Int32)) % (3 : Int32))), .val (.ref a1591), .val (.ref (s_DEPENDS Z)), .val (.int (7 : Int32)), .val (.int (x3 &&& (255 : Int32))), .val (.int (1 : Int32)), .val (.int (x1 &&& (3 : Int32))), .unset, .val .null, .val (.ref r1760), .val (.int (1 : Int32))]) (hb hby at_155) rfl rfl rfl ?_
              refine go_goto (pc' := 164) (hb hby at_157) (by decide) rfl ?_
              refine go_newO (pc' := 167) (cells' := 4) (slots' := 43) (wk G 94 rfl) (wk G 3 rfl) (wk G 2 rfl) (hb hby at_164) rfl rfl rfl (by decide) (by decide) (fun h1880 a1881 g1882 X1883 E1884 D1885 U1886 => ?_)
              refine go_dup (pc' := 168) (hb hby at_167) rfl rfl ?_
              refine go_aload (pc' := 170) (hb hby at_168) rfl rfl rfl ?_
              have F1887 := D1885 (Or.inr (wk G 5 rfl)) (ty := (.array .byte)) (by decide)
              have F1888 := D1885 (Or.inr (wk G 6 rfl)) (ty := .byte) (by decide)
              have K1889 : Keep h1841 h1880 [] := ((Keep.refl h1841 []).ext X1883)
              have A1890 := (A1843.keep K1889 nin0)
              refine go_old (fun O1891 => ?_)
              have K1892 : Keep h0 h1758 [] := (K1764.trans K1759 all0)
              have K1893 : Keep h0 h1768 [] := (K1892.trans K1769 (allS (Or.inr (Nat.le_trans K1764.1 f1762)) all0))
              have K1894 : Keep h0 h1841 [] := (K1893.wr W1842 (Or.inr (Nat.le_trans K1764.1 f1762)))
              refine callI0 (cells' := 5) (slots' := 50) (Wd := 1) (argsL := [(.ref r1760)]) (rest := [(.ref a1881)]) (pay_new G O1891 (cs := [(100 : Int32), (x3 &&& (255 : Int32)), (112 : Int32), (101 : Int32), (110 : Int32), (100 : Int32), (115 : Int32)]) (n := 7) (Nat.le_trans O0.2.1 (Nat.le_trans K1894.1 (Nat.le_of_eq g1882))) E1884 F1887 F1888 A1890 rfl rfl (by decide) (by decide) (c8c (by decide) (c8c (c8_m _) (c8c (by decide) (c8c (by decide) (c8c (by decide) (c8c (by decide) (c8c (by decide) c8n))))))) (by decide) (by decide)) rfl (wk G 95 rfl) (wk G 96 rfl) (wk G 97 rfl) (by decide) pd8 rfl rfl (by rw [hml]; rfl) (Nat.le_of_ble_eq_true rfl) rfl rfl (by decide) (by decide) (allS (Nat.le_trans O0.2.1 (Nat.le_trans K1894.1 (Nat.le_of_eq g1882))) all0) (fun _ hal => (sfS (safe_null hal E1884 F1887) sf0)) (hb hby at_170) (k_n (pc' := 173) rfl ?_)
              rintro h1895 S1897 K1896
              refine go_astore (pc' := 175) (ls' := #[.val (.int x0), .val (.int x1), .val (.int x2), .val (.int x3), .val (.int ((x0 &&& (2147483647 : Int32)) % (3 : Int32))), .val (.ref a1591), .val (.ref (s_DEPENDS Z)), .val (.int (7 : Int32)), .val (.int (x3 &&& (255 : Int32))), .val (.int (1 : Int32)), .val (.int (x1 &&& (3 : Int32))), .val (.ref a1881), .val .null, .val (.ref r1760), .val (.int (1 : Int32))]) (hb hby at_173) rfl rfl rfl ?_
              refine go_goto (pc' := 279) (hb hby at_175) (by decide) rfl ?_
              refine go_aload (pc' := 281) (hb hby at_279) rfl rfl rfl ?_
              refine go_old (fun O1898 => ?_)
              refine callS0 (cells' := 6) (slots' := 53) (Wd := 0) (argsL := [(.ref a1881)]) (rest := []) (pay_of (a0 := a0) (c_of l G a1881 [(100 : Int32), (x3 &&& (255 : Int32)), (112 : Int32), (101 : Int32), (110 : Int32), (100 : Int32), (115 : Int32)] h1895 O1898 S1897) (wk G 28 rfl) (wk G 10 rfl) (by decide) (by decide)) (wk G 26 rfl) (wk G 27 rfl) (wk G 10 rfl) (wk G 28 rfl) (by decide) pd9 rfl rfl (by rw [hml]; rfl) (Nat.le_of_ble_eq_true rfl) rfl rfl (by decide) (by decide) all0 (fun _ _ => sf0) (hb hby at_281) (k_v (pc' := 284) rfl ?_)
              rintro _ h1899 (⟨rfl, f1901⟩ | ⟨rfl, f1902⟩ | ⟨rfl, f1903⟩ | ⟨rfl, f1904, f1905, f1906⟩) K1900
              · exact absurd f1901 (by simp)
              · exact absurd f1902 (by simp)
              · exact absurd f1903 (by simp [Ne.symm c1849])
              · refine go_aload (pc' := 286) (hb hby at_284) rfl rfl rfl ?_
                refine go_acF (pc' := 289) (hb hby at_286) rfl rfl rfl (XT.aa_ne_f rfl) ?_
                refine go_iconst (pc' := 290) (v := 1) (hb hby at_289) rfl rfl ?_
                refine go_goto (pc' := 294) (hb hby at_290) (by decide) rfl ?_
                have K1907 : Keep h0 h1880 [] := (K1894.ext X1883)
                have K1908 : Keep h0 h1895 [] := (K1907.trans K1896 (allS (Or.inr (Nat.le_trans K1894.1 (Nat.le_of_eq g1882))) all0))
                have K1909 : Keep h0 h1899 [] := (K1908.trans K1900 all0)
                refine go_ireturn hret hlk rfl (by simp) (hb hby at_294) (by decide) (by decide) ⟨_, rfl, rfl⟩ K1909
          · rw [q1771]
            refine go_istore (pc' := 130) (ls' := #[.val (.int x0), .val (.int x1), .val (.int x2), .val (.int x3), .val (.int ((x0 &&& (2147483647 : Int32)) % (3 : Int32))), .val (.ref a1591), .val (.ref (s_DEPENDS Z)), .val (.int (7 : Int32)), .val (.int (x3 &&& (255 : Int32))), .val (.int (1 : Int32)), .val (.int (x1 &&& (3 : Int32))), .unset, .unset, .val (.ref r1760), .val (.int (2 : Int32))]) (hb hby at_128) rfl rfl ?_
            refine go_aload (pc' := 132) (hb hby at_130) rfl rfl rfl ?_
            refine go_iload (pc' := 134) (hb hby at_132) rfl rfl ?_
            refine go_iload (pc' := 136) (hb hby at_134) rfl rfl ?_
            refine go_stC (pc' := 137) (i := 2) (x' := (x3 &&& (255 : Int32))) (vs' := [(.int (100 : Int32)), (.int (101 : Int32)), (.int (x3 &&& (255 : Int32))), (.int (101 : Int32)), (.int (110 : Int32)), (.int (100 : Int32)), (.int (115 : Int32))]) f1770 (Nat.le_trans O0.2.1 (Nat.le_trans K1764.1 f1762)) (by decide) (by decide) rfl (Nat.le_of_ble_eq_true rfl) (i2c_mask _) rfl (hb hby at_136) rfl (fun h1910 W1911 A1912 => ?_)
            refine go_iload (pc' := 139) (hb hby at_137) rfl rfl ?_
            refine go_aload (pc' := 141) (hb hby at_139) rfl rfl rfl ?_
            refine go_iload (pc' := 143) (hb hby at_141) rfl rfl ?_
            have K1913 : Keep h1590 h1768 [] := (K1765.trans K1769 (allS (Or.inr f1762) all0))
            have K1914 : Keep h1590 h1910 [] := (K1913.wr W1911 (Or.inr f1762))
            have S1915 := (S1599.keep K1914)
            refine go_old (fun O1916 => ?_)
            have E1917 := (E1595.keep K1914)
            refine callV0 (cells' := 3) (slots' := 39) (Wd := 1) (argsL := [(.int (2 : Int32))]) (rest := [(.int (x3 &&& (255 : Int32)))]) (pay_chr G O1916 (i := 2) (c := (112 : Int32)) S1915 rfl (Nat.le_of_ble_eq_true rfl) rfl (by decide) (by decide)) E1917 (wk G 73 rfl) (wk G 74 rfl) (wk G 76 rfl) (wk G 76 rfl) (wk G 75 rfl) (by decide) pd5 rfl rfl (by rw [hml]; rfl) (Nat.le_of_ble_eq_true rfl) rfl rfl (by decide) (by decide) all0 (fun _ _ => sf0) (hb hby at_143) (k_v (pc' := 146) rfl ?_)
            rintro _ _ ⟨rfl, rfl⟩ -
            by_cases c1918 : (x3 &&& (255 : Int32)) = (112 : Int32)
            · refine go_icF (pc' := 149) (hb hby at_146) rfl (XT.ii_ne_f c1918) ?_
              refine go_aload (pc' := 151) (hb hby at_149) rfl rfl rfl ?_
              refine go_goto (pc' := 155) (hb hby at_151) (by decide) rfl ?_
              refine go_astore (pc' := 157) (ls' := #[.val (.int x0), .val (.int x1), .val (.int x2), .val (.int x3), .val (.int ((x0 &&& (2147483647 : Int32)) % (3 : Int32))), .val (.ref a1591), .val (.ref (s_DEPENDS Z)), .val (.int (7 : Int32)), .val (.int (x3 &&& (255 : Int32))), .val (.int (1 : Int32)), .val (.int (x1 &&& (3 : Int32))), .unset, .val (.ref (s_DEPENDS Z)), .val (.ref r1760), .val (.int (2 : Int32))]) (hb hby at_155) rfl rfl rfl ?_
              refine go_goto (pc' := 164) (hb hby at_157) (by decide) rfl ?_
              refine go_newO (pc' := 167) (cells' := 4) (slots' := 43) (wk G 94 rfl) (wk G 3 rfl) (wk G 2 rfl) (hb hby at_164) rfl rfl rfl (by decide) (by decide) (fun h1919 a1920 g1921 X1922 E1923 D1924 U1925 => ?_)
              refine go_dup (pc' := 168) (hb hby at_167) rfl rfl ?_
              refine go_aload (pc' := 170) (hb hby at_168) rfl rfl rfl ?_
              have F1926 := D1924 (Or.inr (wk G 5 rfl)) (ty := (.array .byte)) (by decide)
              have F1927 := D1924 (Or.inr (wk G 6 rfl)) (ty := .byte) (by decide)
              have K1928 : Keep h1910 h1919 [] := ((Keep.refl h1910 []).ext X1922)
              have A1929 := (A1912.keep K1928 nin0)
              refine go_old (fun O1930 => ?_)
              have K1931 : Keep h0 h1758 [] := (K1764.trans K1759 all0)
              have K1932 : Keep h0 h1768 [] := (K1931.trans K1769 (allS (Or.inr (Nat.le_trans K1764.1 f1762)) all0))
              have K1933 : Keep h0 h1910 [] := (K1932.wr W1911 (Or.inr (Nat.le_trans K1764.1 f1762)))
              refine callI0 (cells' := 5) (slots' := 50) (Wd := 1) (argsL := [(.ref r1760)]) (rest := [(.ref a1920)]) (pay_new G O1930 (cs := [(100 : Int32), (101 : Int32), (x3 &&& (255 : Int32)), (101 : Int32), (110 : Int32), (100 : Int32), (115 : Int32)]) (n := 7) (Nat.le_trans O0.2.1 (Nat.le_trans K1933.1 (Nat.le_of_eq g1921))) E1923 F1926 F1927 A1929 rfl rfl (by decide) (by decide) (c8c (by decide) (c8c (by decide) (c8c (c8_m _) (c8c (by decide) (c8c (by decide) (c8c (by decide) (c8c (by decide) c8n))))))) (by decide) (by decide)) rfl (wk G 95 rfl) (wk G 96 rfl) (wk G 97 rfl) (by decide) pd8 rfl rfl (by rw [hml]; rfl) (Nat.le_of_ble_eq_true rfl) rfl rfl (by decide) (by decide) (allS (Nat.le_trans O0.2.1 (Nat.le_trans K1933.1 (Nat.le_of_eq g1921))) all0) (fun _ hal => (sfS (safe_null hal E1923 F1926) sf0)) (hb hby at_170) (k_n (pc' := 173) rfl ?_)
              rintro h1934 S1936 K1935
              refine go_astore (pc' := 175) (ls' := #[.val (.int x0), .val (.int x1), .val (.int x2), .val (.int x3), .val (.int ((x0 &&& (2147483647 : Int32)) % (3 : Int32))), .val (.ref a1591), .val (.ref (s_DEPENDS Z)), .val (.int (7 : Int32)), .val (.int (x3 &&& (255 : Int32))), .val (.int (1 : Int32)), .val (.int (x1 &&& (3 : Int32))), .val (.ref a1920), .val (.ref (s_DEPENDS Z)), .val (.ref r1760), .val (.int (2 : Int32))]) (hb hby at_173) rfl rfl rfl ?_
              refine go_goto (pc' := 279) (hb hby at_175) (by decide) rfl ?_
              refine go_aload (pc' := 281) (hb hby at_279) rfl rfl rfl ?_
              refine go_old (fun O1937 => ?_)
              refine callS0 (cells' := 6) (slots' := 53) (Wd := 0) (argsL := [(.ref a1920)]) (rest := []) (pay_of (a0 := a0) (c_of l G a1920 [(100 : Int32), (101 : Int32), (x3 &&& (255 : Int32)), (101 : Int32), (110 : Int32), (100 : Int32), (115 : Int32)] h1934 O1937 S1936) (wk G 28 rfl) (wk G 10 rfl) (by decide) (by decide)) (wk G 26 rfl) (wk G 27 rfl) (wk G 10 rfl) (wk G 28 rfl) (by decide) pd9 rfl rfl (by rw [hml]; rfl) (Nat.le_of_ble_eq_true rfl) rfl rfl (by decide) (by decide) all0 (fun _ _ => sf0) (hb hby at_281) (k_v (pc' := 284) rfl ?_)
              rintro _ h1938 (⟨rfl, f1940⟩ | ⟨rfl, f1941⟩ | ⟨rfl, f1942⟩ | ⟨rfl, f1943, f1944, f1945⟩) K1939
              · exact absurd f1940 (by simp)
              · exact absurd f1941 (by simp)
              · refine go_aload (pc' := 286) (hb hby at_284) rfl rfl rfl ?_
                refine go_acF (pc' := 289) (hb hby at_286) rfl rfl rfl (XT.aa_ne_f rfl) ?_
                refine go_iconst (pc' := 290) (v := 1) (hb hby at_289) rfl rfl ?_
                refine go_goto (pc' := 294) (hb hby at_290) (by decide) rfl ?_
                have K1946 : Keep h0 h1919 [] := (K1933.ext X1922)
                have K1947 : Keep h0 h1934 [] := (K1946.trans K1935 (allS (Or.inr (Nat.le_trans K1933.1 (Nat.le_of_eq g1921))) all0))
                have K1948 : Keep h0 h1938 [] := (K1947.trans K1939 all0)
                refine go_ireturn hret hlk rfl (by simp) (hb hby at_294) (by decide) (by decide) ⟨_, rfl, rfl⟩ K1948
              · exact absurd (by simp [c1918]) f1945
            · refine go_icT (pc' := 154) (hb hby at_146) (by decide) rfl (XT.ii_ne_t c1918) ?_
              refine go_aconst_null (pc' := 155) (hb hby at_154) rfl ?_
              refine go_astore (pc' := 157) (ls' := #[.val (.int x0), .val (.int x1), .val (.int x2), .val (.int x3), .val (.int ((x0 &&& (2147483647 : Int32)) % (3 : Int32))), .val (.ref a1591), .val (.ref (s_DEPENDS Z)), .val (.int (7 : Int32)), .val (.int (x3 &&& (255 : Int32))), .val (.int (1 : Int32)), .val (.int (x1 &&& (3 : Int32))), .unset, .val .null, .val (.ref r1760), .val (.int (2 : Int32))]) (hb hby at_155) rfl rfl rfl ?_
              refine go_goto (pc' := 164) (hb hby at_157) (by decide) rfl ?_
              refine go_newO (pc' := 167) (cells' := 4) (slots' := 43) (wk G 94 rfl) (wk G 3 rfl) (wk G 2 rfl) (hb hby at_164) rfl rfl rfl (by decide) (by decide) (fun h1949 a1950 g1951 X1952 E1953 D1954 U1955 => ?_)
              refine go_dup (pc' := 168) (hb hby at_167) rfl rfl ?_
              refine go_aload (pc' := 170) (hb hby at_168) rfl rfl rfl ?_
              have F1956 := D1954 (Or.inr (wk G 5 rfl)) (ty := (.array .byte)) (by decide)
              have F1957 := D1954 (Or.inr (wk G 6 rfl)) (ty := .byte) (by decide)
              have K1958 : Keep h1910 h1949 [] := ((Keep.refl h1910 []).ext X1952)
              have A1959 := (A1912.keep K1958 nin0)
              refine go_old (fun O1960 => ?_)
              have K1961 : Keep h0 h1758 [] := (K1764.trans K1759 all0)
              have K1962 : Keep h0 h1768 [] := (K1961.trans K1769 (allS (Or.inr (Nat.le_trans K1764.1 f1762)) all0))
              have K1963 : Keep h0 h1910 [] := (K1962.wr W1911 (Or.inr (Nat.le_trans K1764.1 f1762)))
              refine callI0 (cells' := 5) (slots' := 50) (Wd := 1) (argsL := [(.ref r1760)]) (rest := [(.ref a1950)]) (pay_new G O1960 (cs := [(100 : Int32), (101 : Int32), (x3 &&& (255 : Int32)), (101 : Int32), (110 : Int32), (100 : Int32), (115 : Int32)]) (n := 7) (Nat.le_trans O0.2.1 (Nat.le_trans K1963.1 (Nat.le_of_eq g1951))) E1953 F1956 F1957 A1959 rfl rfl (by decide) (by decide) (c8c (by decide) (c8c (by decide) (c8c (c8_m _) (c8c (by decide) (c8c (by decide) (c8c (by decide) (c8c (by decide) c8n))))))) (by decide) (by decide)) rfl (wk G 95 rfl) (wk G 96 rfl) (wk G 97 rfl) (by decide) pd8 rfl rfl (by rw [hml]; rfl) (Nat.le_of_ble_eq_true rfl) rfl rfl (by decide) (by decide) (allS (Nat.le_trans O0.2.1 (Nat.le_trans K1963.1 (Nat.le_of_eq g1951))) all0) (fun _ hal => (sfS (safe_null hal E1953 F1956) sf0)) (hb hby at_170) (k_n (pc' := 173) rfl ?_)
              rintro h1964 S1966 K1965
              refine go_astore (pc' := 175) (ls' := #[.val (.int x0), .val (.int x1), .val (.int x2), .val (.int x3), .val (.int ((x0 &&& (2147483647 : Int32)) % (3 : Int32))), .val (.ref a1591), .val (.ref (s_DEPENDS Z)), .val (.int (7 : Int32)), .val (.int (x3 &&& (255 : Int32))), .val (.int (1 : Int32)), .val (.int (x1 &&& (3 : Int32))), .val (.ref a1950), .val .null, .val (.ref r1760), .val (.int (2 : Int32))]) (hb hby at_173) rfl rfl rfl ?_
              refine go_goto (pc' := 279) (hb hby at_175) (by decide) rfl ?_
              refine go_aload (pc' := 281) (hb hby at_279) rfl rfl rfl ?_
              refine go_old (fun O1967 => ?_)
              refine callS0 (cells' := 6) (slots' := 53) (Wd := 0) (argsL := [(.ref a1950)]) (rest := []) (pay_of (a0 := a0) (c_of l G a1950 [(100 : Int32), (101 : Int32), (x3 &&& (255 : Int32)), (101 : Int32), (110 : Int32), (100 : Int32), (115 : Int32)] h1964 O1967 S1966) (wk G 28 rfl) (wk G 10 rfl) (by decide) (by decide)) (wk G 26 rfl) (wk G 27 rfl) (wk G 10 rfl) (wk G 28 rfl) (by decide) pd9 rfl rfl (by rw [hml]; rfl) (Nat.le_of_ble_eq_true rfl) rfl rfl (by decide) (by decide) all0 (fun _ _ => sf0) (hb hby at_281) (k_v (pc' := 284) rfl ?_)
              rintro _ h1968 (⟨rfl, f1970⟩ | ⟨rfl, f1971⟩ | ⟨rfl, f1972⟩ | ⟨rfl, f1973, f1974, f1975⟩) K1969
              · exact absurd f1970 (by simp)
              · exact absurd f1971 (by simp)
              · exact absurd f1972 (by simp [Ne.symm c1918])
              · refine go_aload (pc' := 286) (hb hby at_284) rfl rfl rfl ?_
                refine go_acF (pc' := 289) (hb hby at_286) rfl rfl rfl (XT.aa_ne_f rfl) ?_
                refine go_iconst (pc' := 290) (v := 1) (hb hby at_289) rfl rfl ?_
                refine go_goto (pc' := 294) (hb hby at_290) (by decide) rfl ?_
                have K1976 : Keep h0 h1949 [] := (K1963.ext X1952)
                have K1977 : Keep h0 h1964 [] := (K1976.trans K1965 (allS (Or.inr (Nat.le_trans K1963.1 (Nat.le_of_eq g1951))) all0))
                have K1978 : Keep h0 h1968 [] := (K1977.trans K1969 all0)
                refine go_ireturn hret hlk rfl (by simp) (hb hby at_294) (by decide) (by decide) ⟨_, rfl, rfl⟩ K1978
          · rw [q1771]
            refine go_istore (pc' := 130) (ls' := #[.val (.int x0), .val (.int x1), .val (.int x2), .val (.int x3), .val (.int ((x0 &&& (2147483647 : Int32)) % (3 : Int32))), .val (.ref a1591), .val (.ref (s_DEPENDS Z)), .val (.int (7 : Int32)), .val (.int (x3 &&& (255 : Int32))), .val (.int (1 : Int32)), .val (.int (x1 &&& (3 : Int32))), .unset, .unset, .val (.ref r1760), .val (.int (3 : Int32))]) (hb hby at_128) rfl rfl ?_
            refine go_aload (pc' := 132) (hb hby at_130) rfl rfl rfl ?_
            refine go_iload (pc' := 134) (hb hby at_132) rfl rfl ?_
            refine go_iload (pc' := 136) (hb hby at_134) rfl rfl ?_
            refine go_stC (pc' := 137) (i := 3) (x' := (x3 &&& (255 : Int32))) (vs' := [(.int (100 : Int32)), (.int (101 : Int32)), (.int (112 : Int32)), (.int (x3 &&& (255 : Int32))), (.int (110 : Int32)), (.int (100 : Int32)), (.int (115 : Int32))]) f1770 (Nat.le_trans O0.2.1 (Nat.le_trans K1764.1 f1762)) (by decide) (by decide) rfl (Nat.le_of_ble_eq_true rfl) (i2c_mask _) rfl (hb hby at_136) rfl (fun h1979 W1980 A1981 => ?_)
            refine go_iload (pc' := 139) (hb hby at_137) rfl rfl ?_
            refine go_aload (pc' := 141) (hb hby at_139) rfl rfl rfl ?_
            refine go_iload (pc' := 143) (hb hby at_141) rfl rfl ?_
            have K1982 : Keep h1590 h1768 [] := (K1765.trans K1769 (allS (Or.inr f1762) all0))
            have K1983 : Keep h1590 h1979 [] := (K1982.wr W1980 (Or.inr f1762))
            have S1984 := (S1599.keep K1983)
            refine go_old (fun O1985 => ?_)
            have E1986 := (E1595.keep K1983)
            refine callV0 (cells' := 3) (slots' := 39) (Wd := 1) (argsL := [(.int (3 : Int32))]) (rest := [(.int (x3 &&& (255 : Int32)))]) (pay_chr G O1985 (i := 3) (c := (101 : Int32)) S1984 rfl (Nat.le_of_ble_eq_true rfl) rfl (by decide) (by decide)) E1986 (wk G 73 rfl) (wk G 74 rfl) (wk G 76 rfl) (wk G 76 rfl) (wk G 75 rfl) (by decide) pd5 rfl rfl (by rw [hml]; rfl) (Nat.le_of_ble_eq_true rfl) rfl rfl (by decide) (by decide) all0 (fun _ _ => sf0) (hb hby at_143) (k_v (pc' := 146) rfl ?_)
            rintro _ _ ⟨rfl, rfl⟩ -
            by_cases c1987 : (x3 &&& (255 : Int32)) = (101 : Int32)
            · refine go_icF (pc' := 149) (hb hby at_146) rfl (XT.ii_ne_f c1987) ?_
              refine go_aload (pc' := 151) (hb hby at_149) rfl rfl rfl ?_
              refine go_goto (pc' := 155) (hb hby at_151) (by decide) rfl ?_
              refine go_astore (pc' := 157) (ls' := #[.val (.int x0), .val (.int x1), .val (.int x2), .val (.int x3), .val (.int ((x0 &&& (2147483647 : Int32)) % (3 : Int32))), .val (.ref a1591), .val (.ref (s_DEPENDS Z)), .val (.int (7 : Int32)), .val (.int (x3 &&& (255 : Int32))), .val (.int (1 : Int32)), .val (.int (x1 &&& (3 : Int32))), .unset, .val (.ref (s_DEPENDS Z)), .val (.ref r1760), .val (.int (3 : Int32))]) (hb hby at_155) rfl rfl rfl ?_
              refine go_goto (pc' := 164) (hb hby at_157) (by decide) rfl ?_
              refine go_newO (pc' := 167) (cells' := 4) (slots' := 43) (wk G 94 rfl) (wk G 3 rfl) (wk G 2 rfl) (hb hby at_164) rfl rfl rfl (by decide) (by decide) (fun h1988 a1989 g1990 X1991 E1992 D1993 U1994 => ?_)
              refine go_dup (pc' := 168) (hb hby at_167) rfl rfl ?_
              refine go_aload (pc' := 170) (hb hby at_168) rfl rfl rfl ?_
              have F1995 := D1993 (Or.inr (wk G 5 rfl)) (ty := (.array .byte)) (by decide)
              have F1996 := D1993 (Or.inr (wk G 6 rfl)) (ty := .byte) (by decide)
              have K1997 : Keep h1979 h1988 [] := ((Keep.refl h1979 []).ext X1991)
              have A1998 := (A1981.keep K1997 nin0)
              refine go_old (fun O1999 => ?_)
              have K2000 : Keep h0 h1758 [] := (K1764.trans K1759 all0)
              have K2001 : Keep h0 h1768 [] := (K2000.trans K1769 (allS (Or.inr (Nat.le_trans K1764.1 f1762)) all0))
              have K2002 : Keep h0 h1979 [] := (K2001.wr W1980 (Or.inr (Nat.le_trans K1764.1 f1762)))
              refine callI0 (cells' := 5) (slots' := 50) (Wd := 1) (argsL := [(.ref r1760)]) (rest := [(.ref a1989)]) (pay_new G O1999 (cs := [(100 : Int32), (101 : Int32), (112 : Int32), (x3 &&& (255 : Int32)), (110 : Int32), (100 : Int32), (115 : Int32)]) (n := 7) (Nat.le_trans O0.2.1 (Nat.le_trans K2002.1 (Nat.le_of_eq g1990))) E1992 F1995 F1996 A1998 rfl rfl (by decide) (by decide) (c8c (by decide) (c8c (by decide) (c8c (by decide) (c8c (c8_m _) (c8c (by decide) (c8c (by decide) (c8c (by decide) c8n))))))) (by decide) (by decide)) rfl (wk G 95 rfl) (wk G 96 rfl) (wk G 97 rfl) (by decide) pd8 rfl rfl (by rw [hml]; rfl) (Nat.le_of_ble_eq_true rfl) rfl rfl (by decide) (by decide) (allS (Nat.le_trans O0.2.1 (Nat.le_trans K2002.1 (Nat.le_of_eq g1990))) all0) (fun _ hal => (sfS (safe_null hal E1992 F1995) sf0)) (hb hby at_170) (k_n (pc' := 173) rfl ?_)
              rintro h2003 S2005 K2004
              refine go_astore (pc' := 175) (ls' := #[.val (.int x0), .val (.int x1), .val (.int x2), .val (.int x3), .val (.int ((x0 &&& (2147483647 : Int32)) % (3 : Int32))), .val (.ref a1591), .val (.ref (s_DEPENDS Z)), .val (.int (7 : Int32)), .val (.int (x3 &&& (255 : Int32))), .val (.int (1 : Int32)), .val (.int (x1 &&& (3 : Int32))), .val (.ref a1989), .val (.ref (s_DEPENDS Z)), .val (.ref r1760), .val (.int (3 : Int32))]) (hb hby at_173) rfl rfl rfl ?_
              refine go_goto (pc' := 279) (hb hby at_175) (by decide) rfl ?_
              refine go_aload (pc' := 281) (hb hby at_279) rfl rfl rfl ?_
              refine go_old (fun O2006 => ?_)
              refine callS0 (cells' := 6) (slots' := 53) (Wd := 0) (argsL := [(.ref a1989)]) (rest := []) (pay_of (a0 := a0) (c_of l G a1989 [(100 : Int32), (101 : Int32), (112 : Int32), (x3 &&& (255 : Int32)), (110 : Int32), (100 : Int32), (115 : Int32)] h2003 O2006 S2005) (wk G 28 rfl) (wk G 10 rfl) (by decide) (by decide)) (wk G 26 rfl) (wk G 27 rfl) (wk G 10 rfl) (wk G 28 rfl) (by decide) pd9 rfl rfl (by rw [hml]; rfl) (Nat.le_of_ble_eq_true rfl) rfl rfl (by decide) (by decide) all0 (fun _ _ => sf0) (hb hby at_281) (k_v (pc' := 284) rfl ?_)
              rintro _ h2007 (⟨rfl, f2009⟩ | ⟨rfl, f2010⟩ | ⟨rfl, f2011⟩ | ⟨rfl, f2012, f2013, f2014⟩) K2008
              · exact absurd f2009 (by simp)
              · exact absurd f2010 (by simp)
              · refine go_aload (pc' := 286) (hb hby at_284) rfl rfl rfl ?_
                refine go_acF (pc' := 289) (hb hby at_286) rfl rfl rfl (XT.aa_ne_f rfl) ?_
                refine go_iconst (pc' := 290) (v := 1) (hb hby at_289) rfl rfl ?_
                refine go_goto (pc' := 294) (hb hby at_290) (by decide) rfl ?_
                have K2015 : Keep h0 h1988 [] := (K2002.ext X1991)
                have K2016 : Keep h0 h2003 [] := (K2015.trans K2004 (allS (Or.inr (Nat.le_trans K2002.1 (Nat.le_of_eq g1990))) all0))
                have K2017 : Keep h0 h2007 [] := (K2016.trans K2008 all0)
                refine go_ireturn hret hlk rfl (by simp) (hb hby at_294) (by decide) (by decide) ⟨_, rfl, rfl⟩ K2017
              · exact absurd (by simp [c1987]) f2014
            · refine go_icT (pc' := 154) (hb hby at_146) (by decide) rfl (XT.ii_ne_t c1987) ?_
              refine go_aconst_null (pc' := 155) (hb hby at_154) rfl ?_
              refine go_astore (pc' := 157) (ls' := #[.val (.int x0), .val (.int x1), .val (.int x2), .val (.int x3), .val (.int ((x0 &&& (2147483647 : Int32)) % (3 : Int32))), .val (.ref a1591), .val (.ref (s_DEPENDS Z)), .val (.int (7 : Int32)), .val (.int (x3 &&& (255 : Int32))), .val (.int (1 : Int32)), .val (.int (x1 &&& (3 : Int32))), .unset, .val .null, .val (.ref r1760), .val (.int (3 : Int32))]) (hb hby at_155) rfl rfl rfl ?_
              refine go_goto (pc' := 164) (hb hby at_157) (by decide) rfl ?_
              refine go_newO (pc' := 167) (cells' := 4) (slots' := 43) (wk G 94 rfl) (wk G 3 rfl) (wk G 2 rfl) (hb hby at_164) rfl rfl rfl (by decide) (by decide) (fun h2018 a2019 g2020 X2021 E2022 D2023 U2024 => ?_)
              refine go_dup (pc' := 168) (hb hby at_167) rfl rfl ?_
              refine go_aload (pc' := 170) (hb hby at_168) rfl rfl rfl ?_
              have F2025 := D2023 (Or.inr (wk G 5 rfl)) (ty := (.array .byte)) (by decide)
              have F2026 := D2023 (Or.inr (wk G 6 rfl)) (ty := .byte) (by decide)
              have K2027 : Keep h1979 h2018 [] := ((Keep.refl h1979 []).ext X2021)
              have A2028 := (A1981.keep K2027 nin0)
              refine go_old (fun O2029 => ?_)
              have K2030 : Keep h0 h1758 [] := (K1764.trans K1759 all0)
              have K2031 : Keep h0 h1768 [] := (K2030.trans K1769 (allS (Or.inr (Nat.le_trans K1764.1 f1762)) all0))
              have K2032 : Keep h0 h1979 [] := (K2031.wr W1980 (Or.inr (Nat.le_trans K1764.1 f1762)))
              refine callI0 (cells' := 5) (slots' := 50) (Wd := 1) (argsL := [(.ref r1760)]) (rest := [(.ref a2019)]) (pay_new G O2029 (cs := [(100 : Int32), (101 : Int32), (112 : Int32), (x3 &&& (255 : Int32)), (110 : Int32), (100 : Int32), (115 : Int32)]) (n := 7) (Nat.le_trans O0.2.1 (Nat.le_trans K2032.1 (Nat.le_of_eq g2020))) E2022 F2025 F2026 A2028 rfl rfl (by decide) (by decide) (c8c (by decide) (c8c (by decide) (c8c (by decide) (c8c (c8_m _) (c8c (by decide) (c8c (by decide) (c8c (by decide) c8n))))))) (by decide) (by decide)) rfl (wk G 95 rfl) (wk G 96 rfl) (wk G 97 rfl) (by decide) pd8 rfl rfl (by rw [hml]; rfl) (Nat.le_of_ble_eq_true rfl) rfl rfl (by decide) (by decide) (allS (Nat.le_trans O0.2.1 (Nat.le_trans K2032.1 (Nat.le_of_eq g2020))) all0) (fun _ hal => (sfS (safe_null hal E2022 F2025) sf0)) (hb hby at_170) (k_n (pc' := 173) rfl ?_)
              rintro h2033 S2035 K2034
              refine go_astore (pc' := 175) (ls' := #[.val (.int x0), .val (.int x1), .val (.int x2), .val (.int x3), .val (.int ((x0 &&& (2147483647 : Int32)) % (3 : Int32))), .val (.ref a1591), .val (.ref (s_DEPENDS Z)), .val (.int (7 : Int32)), .val (.int (x3 &&& (255 : Int32))), .val (.int (1 : Int32)), .val (.int (x1 &&& (3 : Int32))), .val (.ref a2019), .val .null, .val (.ref r1760), .val (.int (3 : Int32))]) (hb hby at_173) rfl rfl rfl ?_
              refine go_goto (pc' := 279) (hb hby at_175) (by decide) rfl ?_
              refine go_aload (pc' := 281) (hb hby at_279) rfl rfl rfl ?_
              refine go_old (fun O2036 => ?_)
              refine callS0 (cells' := 6) (slots' := 53) (Wd := 0) (argsL := [(.ref a2019)]) (rest := []) (pay_of (a0 := a0) (c_of l G a2019 [(100 : Int32), (101 : Int32), (112 : Int32), (x3 &&& (255 : Int32)), (110 : Int32), (100 : Int32), (115 : Int32)] h2033 O2036 S2035) (wk G 28 rfl) (wk G 10 rfl) (by decide) (by decide)) (wk G 26 rfl) (wk G 27 rfl) (wk G 10 rfl) (wk G 28 rfl) (by decide) pd9 rfl rfl (by rw [hml]; rfl) (Nat.le_of_ble_eq_true rfl) rfl rfl (by decide) (by decide) all0 (fun _ _ => sf0) (hb hby at_281) (k_v (pc' := 284) rfl ?_)
              rintro _ h2037 (⟨rfl, f2039⟩ | ⟨rfl, f2040⟩ | ⟨rfl, f2041⟩ | ⟨rfl, f2042, f2043, f2044⟩) K2038
              · exact absurd f2039 (by simp)
              · exact absurd f2040 (by simp)
              · exact absurd f2041 (by simp [Ne.symm c1987])
              · refine go_aload (pc' := 286) (hb hby at_284) rfl rfl rfl ?_
                refine go_acF (pc' := 289) (hb hby at_286) rfl rfl rfl (XT.aa_ne_f rfl) ?_
                refine go_iconst (pc' := 290) (v := 1) (hb hby at_289) rfl rfl ?_
                refine go_goto (pc' := 294) (hb hby at_290) (by decide) rfl ?_
                have K2045 : Keep h0 h2018 [] := (K2032.ext X2021)
                have K2046 : Keep h0 h2033 [] := (K2045.trans K2034 (allS (Or.inr (Nat.le_trans K2032.1 (Nat.le_of_eq g2020))) all0))
                have K2047 : Keep h0 h2037 [] := (K2046.trans K2038 all0)
                refine go_ireturn hret hlk rfl (by simp) (hb hby at_294) (by decide) (by decide) ⟨_, rfl, rfl⟩ K2047
          · rw [q1771]
            refine go_istore (pc' := 130) (ls' := #[.val (.int x0), .val (.int x1), .val (.int x2), .val (.int x3), .val (.int ((x0 &&& (2147483647 : Int32)) % (3 : Int32))), .val (.ref a1591), .val (.ref (s_DEPENDS Z)), .val (.int (7 : Int32)), .val (.int (x3 &&& (255 : Int32))), .val (.int (1 : Int32)), .val (.int (x1 &&& (3 : Int32))), .unset, .unset, .val (.ref r1760), .val (.int (4 : Int32))]) (hb hby at_128) rfl rfl ?_
            refine go_aload (pc' := 132) (hb hby at_130) rfl rfl rfl ?_
            refine go_iload (pc' := 134) (hb hby at_132) rfl rfl ?_
            refine go_iload (pc' := 136) (hb hby at_134) rfl rfl ?_
            refine go_stC (pc' := 137) (i := 4) (x' := (x3 &&& (255 : Int32))) (vs' := [(.int (100 : Int32)), (.int (101 : Int32)), (.int (112 : Int32)), (.int (101 : Int32)), (.int (x3 &&& (255 : Int32))), (.int (100 : Int32)), (.int (115 : Int32))]) f1770 (Nat.le_trans O0.2.1 (Nat.le_trans K1764.1 f1762)) (by decide) (by decide) rfl (Nat.le_of_ble_eq_true rfl) (i2c_mask _) rfl (hb hby at_136) rfl (fun h2048 W2049 A2050 => ?_)
            refine go_iload (pc' := 139) (hb hby at_137) rfl rfl ?_
            refine go_aload (pc' := 141) (hb hby at_139) rfl rfl rfl ?_
            refine go_iload (pc' := 143) (hb hby at_141) rfl rfl ?_
            have K2051 : Keep h1590 h1768 [] := (K1765.trans K1769 (allS (Or.inr f1762) all0))
            have K2052 : Keep h1590 h2048 [] := (K2051.wr W2049 (Or.inr f1762))
            have S2053 := (S1599.keep K2052)
            refine go_old (fun O2054 => ?_)
            have E2055 := (E1595.keep K2052)
            refine callV0 (cells' := 3) (slots' := 39) (Wd := 1) (argsL := [(.int (4 : Int32))]) (rest := [(.int (x3 &&& (255 : Int32)))]) (pay_chr G O2054 (i := 4) (c := (110 : Int32)) S2053 rfl (Nat.le_of_ble_eq_true rfl) rfl (by decide) (by decide)) E2055 (wk G 73 rfl) (wk G 74 rfl) (wk G 76 rfl) (wk G 76 rfl) (wk G 75 rfl) (by decide) pd5 rfl rfl (by rw [hml]; rfl) (Nat.le_of_ble_eq_true rfl) rfl rfl (by decide) (by decide) all0 (fun _ _ => sf0) (hb hby at_143) (k_v (pc' := 146) rfl ?_)
            rintro _ _ ⟨rfl, rfl⟩ -
            by_cases c2056 : (x3 &&& (255 : Int32)) = (110 : Int32)
            · refine go_icF (pc' := 149) (hb hby at_146) rfl (XT.ii_ne_f c2056) ?_
              refine go_aload (pc' := 151) (hb hby at_149) rfl rfl rfl ?_
              refine go_goto (pc' := 155) (hb hby at_151) (by decide) rfl ?_
              refine go_astore (pc' := 157) (ls' := #[.val (.int x0), .val (.int x1), .val (.int x2), .val (.int x3), .val (.int ((x0 &&& (2147483647 : Int32)) % (3 : Int32))), .val (.ref a1591), .val (.ref (s_DEPENDS Z)), .val (.int (7 : Int32)), .val (.int (x3 &&& (255 : Int32))), .val (.int (1 : Int32)), .val (.int (x1 &&& (3 : Int32))), .unset, .val (.ref (s_DEPENDS Z)), .val (.ref r1760), .val (.int (4 : Int32))]) (hb hby at_155) rfl rfl rfl ?_
              refine go_goto (pc' := 164) (hb hby at_157) (by decide) rfl ?_
              refine go_newO (pc' := 167) (cells' := 4) (slots' := 43) (wk G 94 rfl) (wk G 3 rfl) (wk G 2 rfl) (hb hby at_164) rfl rfl rfl (by decide) (by decide) (fun h2057 a2058 g2059 X2060 E2061 D2062 U2063 => ?_)
              refine go_dup (pc' := 168) (hb hby at_167) rfl rfl ?_
              refine go_aload (pc' := 170) (hb hby at_168) rfl rfl rfl ?_
              have F2064 := D2062 (Or.inr (wk G 5 rfl)) (ty := (.array .byte)) (by decide)
              have F2065 := D2062 (Or.inr (wk G 6 rfl)) (ty := .byte) (by decide)
              have K2066 : Keep h2048 h2057 [] := ((Keep.refl h2048 []).ext X2060)
              have A2067 := (A2050.keep K2066 nin0)
              refine go_old (fun O2068 => ?_)
              have K2069 : Keep h0 h1758 [] := (K1764.trans K1759 all0)
              have K2070 : Keep h0 h1768 [] := (K2069.trans K1769 (allS (Or.inr (Nat.le_trans K1764.1 f1762)) all0))
              have K2071 : Keep h0 h2048 [] := (K2070.wr W2049 (Or.inr (Nat.le_trans K1764.1 f1762)))
              refine callI0 (cells' := 5) (slots' := 50) (Wd := 1) (argsL := [(.ref r1760)]) (rest := [(.ref a2058)]) (pay_new G O2068 (cs := [(100 : Int32), (101 : Int32), (112 : Int32), (101 : Int32), (x3 &&& (255 : Int32)), (100 : Int32), (115 : Int32)]) (n := 7) (Nat.le_trans O0.2.1 (Nat.le_trans K2071.1 (Nat.le_of_eq g2059))) E2061 F2064 F2065 A2067 rfl rfl (by decide) (by decide) (c8c (by decide) (c8c (by decide) (c8c (by decide) (c8c (by decide) (c8c (c8_m _) (c8c (by decide) (c8c (by decide) c8n))))))) (by decide) (by decide)) rfl (wk G 95 rfl) (wk G 96 rfl) (wk G 97 rfl) (by decide) pd8 rfl rfl (by rw [hml]; rfl) (Nat.le_of_ble_eq_true rfl) rfl rfl (by decide) (by decide) (allS (Nat.le_trans O0.2.1 (Nat.le_trans K2071.1 (Nat.le_of_eq g2059))) all0) (fun _ hal => (sfS (safe_null hal E2061 F2064) sf0)) (hb hby at_170) (k_n (pc' := 173) rfl ?_)
              rintro h2072 S2074 K2073
              refine go_astore (pc' := 175) (ls' := #[.val (.int x0), .val (.int x1), .val (.int x2), .val (.int x3), .val (.int ((x0 &&& (2147483647 : Int32)) % (3 : Int32))), .val (.ref a1591), .val (.ref (s_DEPENDS Z)), .val (.int (7 : Int32)), .val (.int (x3 &&& (255 : Int32))), .val (.int (1 : Int32)), .val (.int (x1 &&& (3 : Int32))), .val (.ref a2058), .val (.ref (s_DEPENDS Z)), .val (.ref r1760), .val (.int (4 : Int32))]) (hb hby at_173) rfl rfl rfl ?_
              refine go_goto (pc' := 279) (hb hby at_175) (by decide) rfl ?_
              refine go_aload (pc' := 281) (hb hby at_279) rfl rfl rfl ?_
              refine go_old (fun O2075 => ?_)
              refine callS0 (cells' := 6) (slots' := 53) (Wd := 0) (argsL := [(.ref a2058)]) (rest := []) (pay_of (a0 := a0) (c_of l G a2058 [(100 : Int32), (101 : Int32), (112 : Int32), (101 : Int32), (x3 &&& (255 : Int32)), (100 : Int32), (115 : Int32)] h2072 O2075 S2074) (wk G 28 rfl) (wk G 10 rfl) (by decide) (by decide)) (wk G 26 rfl) (wk G 27 rfl) (wk G 10 rfl) (wk G 28 rfl) (by decide) pd9 rfl rfl (by rw [hml]; rfl) (Nat.le_of_ble_eq_true rfl) rfl rfl (by decide) (by decide) all0 (fun _ _ => sf0) (hb hby at_281) (k_v (pc' := 284) rfl ?_)
              rintro _ h2076 (⟨rfl, f2078⟩ | ⟨rfl, f2079⟩ | ⟨rfl, f2080⟩ | ⟨rfl, f2081, f2082, f2083⟩) K2077
              · exact absurd f2078 (by simp)
              · exact absurd f2079 (by simp)
              · refine go_aload (pc' := 286) (hb hby at_284) rfl rfl rfl ?_
                refine go_acF (pc' := 289) (hb hby at_286) rfl rfl rfl (XT.aa_ne_f rfl) ?_
                refine go_iconst (pc' := 290) (v := 1) (hb hby at_289) rfl rfl ?_
                refine go_goto (pc' := 294) (hb hby at_290) (by decide) rfl ?_
                have K2084 : Keep h0 h2057 [] := (K2071.ext X2060)
                have K2085 : Keep h0 h2072 [] := (K2084.trans K2073 (allS (Or.inr (Nat.le_trans K2071.1 (Nat.le_of_eq g2059))) all0))
                have K2086 : Keep h0 h2076 [] := (K2085.trans K2077 all0)
                refine go_ireturn hret hlk rfl (by simp) (hb hby at_294) (by decide) (by decide) ⟨_, rfl, rfl⟩ K2086
              · exact absurd (by simp [c2056]) f2083
            · refine go_icT (pc' := 154) (hb hby at_146) (by decide) rfl (XT.ii_ne_t c2056) ?_
              refine go_aconst_null (pc' := 155) (hb hby at_154) rfl ?_
              refine go_astore (pc' := 157) (ls' := #[.val (.int x0), .val (.int x1), .val (.int x2), .val (.int x3), .val (.int ((x0 &&& (2147483647 : Int32)) % (3 : Int32))), .val (.ref a1591), .val (.ref (s_DEPENDS Z)), .val (.int (7 : Int32)), .val (.int (x3 &&& (255 : Int32))), .val (.int (1 : Int32)), .val (.int (x1 &&& (3 : Int32))), .unset, .val .null, .val (.ref r1760), .val (.int (4 : Int32))]) (hb hby at_155) rfl rfl rfl ?_
              refine go_goto (pc' := 164) (hb hby at_157) (by decide) rfl ?_
              refine go_newO (pc' := 167) (cells' := 4) (slots' := 43) (wk G 94 rfl) (wk G 3 rfl) (wk G 2 rfl) (hb hby at_164) rfl rfl rfl (by decide) (by decide) (fun h2087 a2088 g2089 X2090 E2091 D2092 U2093 => ?_)
              refine go_dup (pc' := 168) (hb hby at_167) rfl rfl ?_
              refine go_aload (pc' := 170) (hb hby at_168) rfl rfl rfl ?_
              have F2094 := D2092 (Or.inr (wk G 5 rfl)) (ty := (.array .byte)) (by decide)
              have F2095 := D2092 (Or.inr (wk G 6 rfl)) (ty := .byte) (by decide)
              have K2096 : Keep h2048 h2087 [] := ((Keep.refl h2048 []).ext X2090)
              have A2097 := (A2050.keep K2096 nin0)
              refine go_old (fun O2098 => ?_)
              have K2099 : Keep h0 h1758 [] := (K1764.trans K1759 all0)
              have K2100 : Keep h0 h1768 [] := (K2099.trans K1769 (allS (Or.inr (Nat.le_trans K1764.1 f1762)) all0))
              have K2101 : Keep h0 h2048 [] := (K2100.wr W2049 (Or.inr (Nat.le_trans K1764.1 f1762)))
              refine callI0 (cells' := 5) (slots' := 50) (Wd := 1) (argsL := [(.ref r1760)]) (rest := [(.ref a2088)]) (pay_new G O2098 (cs := [(100 : Int32), (101 : Int32), (112 : Int32), (101 : Int32), (x3 &&& (255 : Int32)), (100 : Int32), (115 : Int32)]) (n := 7) (Nat.le_trans O0.2.1 (Nat.le_trans K2101.1 (Nat.le_of_eq g2089))) E2091 F2094 F2095 A2097 rfl rfl (by decide) (by decide) (c8c (by decide) (c8c (by decide) (c8c (by decide) (c8c (by decide) (c8c (c8_m _) (c8c (by decide) (c8c (by decide) c8n))))))) (by decide) (by decide)) rfl (wk G 95 rfl) (wk G 96 rfl) (wk G 97 rfl) (by decide) pd8 rfl rfl (by rw [hml]; rfl) (Nat.le_of_ble_eq_true rfl) rfl rfl (by decide) (by decide) (allS (Nat.le_trans O0.2.1 (Nat.le_trans K2101.1 (Nat.le_of_eq g2089))) all0) (fun _ hal => (sfS (safe_null hal E2091 F2094) sf0)) (hb hby at_170) (k_n (pc' := 173) rfl ?_)
              rintro h2102 S2104 K2103
              refine go_astore (pc' := 175) (ls' := #[.val (.int x0), .val (.int x1), .val (.int x2), .val (.int x3), .val (.int ((x0 &&& (2147483647 : Int32)) % (3 : Int32))), .val (.ref a1591), .val (.ref (s_DEPENDS Z)), .val (.int (7 : Int32)), .val (.int (x3 &&& (255 : Int32))), .val (.int (1 : Int32)), .val (.int (x1 &&& (3 : Int32))), .val (.ref a2088), .val .null, .val (.ref r1760), .val (.int (4 : Int32))]) (hb hby at_173) rfl rfl rfl ?_
              refine go_goto (pc' := 279) (hb hby at_175) (by decide) rfl ?_
              refine go_aload (pc' := 281) (hb hby at_279) rfl rfl rfl ?_
              refine go_old (fun O2105 => ?_)
              refine callS0 (cells' := 6) (slots' := 53) (Wd := 0) (argsL := [(.ref a2088)]) (rest := []) (pay_of (a0 := a0) (c_of l G a2088 [(100 : Int32), (101 : Int32), (112 : Int32), (101 : Int32), (x3 &&& (255 : Int32)), (100 : Int32), (115 : Int32)] h2102 O2105 S2104) (wk G 28 rfl) (wk G 10 rfl) (by decide) (by decide)) (wk G 26 rfl) (wk G 27 rfl) (wk G 10 rfl) (wk G 28 rfl) (by decide) pd9 rfl rfl (by rw [hml]; rfl) (Nat.le_of_ble_eq_true rfl) rfl rfl (by decide) (by decide) all0 (fun _ _ => sf0) (hb hby at_281) (k_v (pc' := 284) rfl ?_)
              rintro _ h2106 (⟨rfl, f2108⟩ | ⟨rfl, f2109⟩ | ⟨rfl, f2110⟩ | ⟨rfl, f2111, f2112, f2113⟩) K2107
              · exact absurd f2108 (by simp)
              · exact absurd f2109 (by simp)
              · exact absurd f2110 (by simp [Ne.symm c2056])
              · refine go_aload (pc' := 286) (hb hby at_284) rfl rfl rfl ?_
                refine go_acF (pc' := 289) (hb hby at_286) rfl rfl rfl (XT.aa_ne_f rfl) ?_
                refine go_iconst (pc' := 290) (v := 1) (hb hby at_289) rfl rfl ?_
                refine go_goto (pc' := 294) (hb hby at_290) (by decide) rfl ?_
                have K2114 : Keep h0 h2087 [] := (K2101.ext X2090)
                have K2115 : Keep h0 h2102 [] := (K2114.trans K2103 (allS (Or.inr (Nat.le_trans K2101.1 (Nat.le_of_eq g2089))) all0))
                have K2116 : Keep h0 h2106 [] := (K2115.trans K2107 all0)
                refine go_ireturn hret hlk rfl (by simp) (hb hby at_294) (by decide) (by decide) ⟨_, rfl, rfl⟩ K2116
          · rw [q1771]
            refine go_istore (pc' := 130) (ls' := #[.val (.int x0), .val (.int x1), .val (.int x2), .val (.int x3), .val (.int ((x0 &&& (2147483647 : Int32)) % (3 : Int32))), .val (.ref a1591), .val (.ref (s_DEPENDS Z)), .val (.int (7 : Int32)), .val (.int (x3 &&& (255 : Int32))), .val (.int (1 : Int32)), .val (.int (x1 &&& (3 : Int32))), .unset, .unset, .val (.ref r1760), .val (.int (5 : Int32))]) (hb hby at_128) rfl rfl ?_
            refine go_aload (pc' := 132) (hb hby at_130) rfl rfl rfl ?_
            refine go_iload (pc' := 134) (hb hby at_132) rfl rfl ?_
            refine go_iload (pc' := 136) (hb hby at_134) rfl rfl ?_
            refine go_stC (pc' := 137) (i := 5) (x' := (x3 &&& (255 : Int32))) (vs' := [(.int (100 : Int32)), (.int (101 : Int32)), (.int (112 : Int32)), (.int (101 : Int32)), (.int (110 : Int32)), (.int (x3 &&& (255 : Int32))), (.int (115 : Int32))]) f1770 (Nat.le_trans O0.2.1 (Nat.le_trans K1764.1 f1762)) (by decide) (by decide) rfl (Nat.le_of_ble_eq_true rfl) (i2c_mask _) rfl (hb hby at_136) rfl (fun h2117 W2118 A2119 => ?_)
            refine go_iload (pc' := 139) (hb hby at_137) rfl rfl ?_
            refine go_aload (pc' := 141) (hb hby at_139) rfl rfl rfl ?_
            refine go_iload (pc' := 143) (hb hby at_141) rfl rfl ?_
            have K2120 : Keep h1590 h1768 [] := (K1765.trans K1769 (allS (Or.inr f1762) all0))
            have K2121 : Keep h1590 h2117 [] := (K2120.wr W2118 (Or.inr f1762))
            have S2122 := (S1599.keep K2121)
            refine go_old (fun O2123 => ?_)
            have E2124 := (E1595.keep K2121)
            refine callV0 (cells' := 3) (slots' := 39) (Wd := 1) (argsL := [(.int (5 : Int32))]) (rest := [(.int (x3 &&& (255 : Int32)))]) (pay_chr G O2123 (i := 5) (c := (100 : Int32)) S2122 rfl (Nat.le_of_ble_eq_true rfl) rfl (by decide) (by decide)) E2124 (wk G 73 rfl) (wk G 74 rfl) (wk G 76 rfl) (wk G 76 rfl) (wk G 75 rfl) (by decide) pd5 rfl rfl (by rw [hml]; rfl) (Nat.le_of_ble_eq_true rfl) rfl rfl (by decide) (by decide) all0 (fun _ _ => sf0) (hb hby at_143) (k_v (pc' := 146) rfl ?_)
            rintro _ _ ⟨rfl, rfl⟩ -
            by_cases c2125 : (x3 &&& (255 : Int32)) = (100 : Int32)
            · refine go_icF (pc' := 149) (hb hby at_146) rfl (XT.ii_ne_f c2125) ?_
              refine go_aload (pc' := 151) (hb hby at_149) rfl rfl rfl ?_
              refine go_goto (pc' := 155) (hb hby at_151) (by decide) rfl ?_
              refine go_astore (pc' := 157) (ls' := #[.val (.int x0), .val (.int x1), .val (.int x2), .val (.int x3), .val (.int ((x0 &&& (2147483647 : Int32)) % (3 : Int32))), .val (.ref a1591), .val (.ref (s_DEPENDS Z)), .val (.int (7 : Int32)), .val (.int (x3 &&& (255 : Int32))), .val (.int (1 : Int32)), .val (.int (x1 &&& (3 : Int32))), .unset, .val (.ref (s_DEPENDS Z)), .val (.ref r1760), .val (.int (5 : Int32))]) (hb hby at_155) rfl rfl rfl ?_
              refine go_goto (pc' := 164) (hb hby at_157) (by decide) rfl ?_
              refine go_newO (pc' := 167) (cells' := 4) (slots' := 43) (wk G 94 rfl) (wk G 3 rfl) (wk G 2 rfl) (hb hby at_164) rfl rfl rfl (by decide) (by decide) (fun h2126 a2127 g2128 X2129 E2130 D2131 U2132 => ?_)
              refine go_dup (pc' := 168) (hb hby at_167) rfl rfl ?_
              refine go_aload (pc' := 170) (hb hby at_168) rfl rfl rfl ?_
              have F2133 := D2131 (Or.inr (wk G 5 rfl)) (ty := (.array .byte)) (by decide)
              have F2134 := D2131 (Or.inr (wk G 6 rfl)) (ty := .byte) (by decide)
              have K2135 : Keep h2117 h2126 [] := ((Keep.refl h2117 []).ext X2129)
              have A2136 := (A2119.keep K2135 nin0)
              refine go_old (fun O2137 => ?_)
              have K2138 : Keep h0 h1758 [] := (K1764.trans K1759 all0)
              have K2139 : Keep h0 h1768 [] := (K2138.trans K1769 (allS (Or.inr (Nat.le_trans K1764.1 f1762)) all0))
              have K2140 : Keep h0 h2117 [] := (K2139.wr W2118 (Or.inr (Nat.le_trans K1764.1 f1762)))
              refine callI0 (cells' := 5) (slots' := 50) (Wd := 1) (argsL := [(.ref r1760)]) (rest := [(.ref a2127)]) (pay_new G O2137 (cs := [(100 : Int32), (101 : Int32), (112 : Int32), (101 : Int32), (110 : Int32), (x3 &&& (255 : Int32)), (115 : Int32)]) (n := 7) (Nat.le_trans O0.2.1 (Nat.le_trans K2140.1 (Nat.le_of_eq g2128))) E2130 F2133 F2134 A2136 rfl rfl (by decide) (by decide) (c8c (by decide) (c8c (by decide) (c8c (by decide) (c8c (by decide) (c8c (by decide) (c8c (c8_m _) (c8c (by decide) c8n))))))) (by decide) (by decide)) rfl (wk G 95 rfl) (wk G 96 rfl) (wk G 97 rfl) (by decide) pd8 rfl rfl (by rw [hml]; rfl) (Nat.le_of_ble_eq_true rfl) rfl rfl (by decide) (by decide) (allS (Nat.le_trans O0.2.1 (Nat.le_trans K2140.1 (Nat.le_of_eq g2128))) all0) (fun _ hal => (sfS (safe_null hal E2130 F2133) sf0)) (hb hby at_170) (k_n (pc' := 173) rfl ?_)
              rintro h2141 S2143 K2142
              refine go_astore (pc' := 175) (ls' := #[.val (.int x0), .val (.int x1), .val (.int x2), .val (.int x3), .val (.int ((x0 &&& (2147483647 : Int32)) % (3 : Int32))), .val (.ref a1591), .val (.ref (s_DEPENDS Z)), .val (.int (7 : Int32)), .val (.int (x3 &&& (255 : Int32))), .val (.int (1 : Int32)), .val (.int (x1 &&& (3 : Int32))), .val (.ref a2127), .val (.ref (s_DEPENDS Z)), .val (.ref r1760), .val (.int (5 : Int32))]) (hb hby at_173) rfl rfl rfl ?_
              refine go_goto (pc' := 279) (hb hby at_175) (by decide) rfl ?_
              refine go_aload (pc' := 281) (hb hby at_279) rfl rfl rfl ?_
              refine go_old (fun O2144 => ?_)
              refine callS0 (cells' := 6) (slots' := 53) (Wd := 0) (argsL := [(.ref a2127)]) (rest := []) (pay_of (a0 := a0) (c_of l G a2127 [(100 : Int32), (101 : Int32), (112 : Int32), (101 : Int32), (110 : Int32), (x3 &&& (255 : Int32)), (115 : Int32)] h2141 O2144 S2143) (wk G 28 rfl) (wk G 10 rfl) (by decide) (by decide)) (wk G 26 rfl) (wk G 27 rfl) (wk G 10 rfl) (wk G 28 rfl) (by decide) pd9 rfl rfl (by rw [hml]; rfl) (Nat.le_of_ble_eq_true rfl) rfl rfl (by decide) (by decide) all0 (fun _ _ => sf0) (hb hby at_281) (k_v (pc' := 284) rfl ?_)
              rintro _ h2145 (⟨rfl, f2147⟩ | ⟨rfl, f2148⟩ | ⟨rfl, f2149⟩ | ⟨rfl, f2150, f2151, f2152⟩) K2146
              · exact absurd f2147 (by simp)
              · exact absurd f2148 (by simp)
              · refine go_aload (pc' := 286) (hb hby at_284) rfl rfl rfl ?_
                refine go_acF (pc' := 289) (hb hby at_286) rfl rfl rfl (XT.aa_ne_f rfl) ?_
                refine go_iconst (pc' := 290) (v := 1) (hb hby at_289) rfl rfl ?_
                refine go_goto (pc' := 294) (hb hby at_290) (by decide) rfl ?_
                have K2153 : Keep h0 h2126 [] := (K2140.ext X2129)
                have K2154 : Keep h0 h2141 [] := (K2153.trans K2142 (allS (Or.inr (Nat.le_trans K2140.1 (Nat.le_of_eq g2128))) all0))
                have K2155 : Keep h0 h2145 [] := (K2154.trans K2146 all0)
                refine go_ireturn hret hlk rfl (by simp) (hb hby at_294) (by decide) (by decide) ⟨_, rfl, rfl⟩ K2155
              · exact absurd (by simp [c2125]) f2152
            · refine go_icT (pc' := 154) (hb hby at_146) (by decide) rfl (XT.ii_ne_t c2125) ?_
              refine go_aconst_null (pc' := 155) (hb hby at_154) rfl ?_
              refine go_astore (pc' := 157) (ls' := #[.val (.int x0), .val (.int x1), .val (.int x2), .val (.int x3), .val (.int ((x0 &&& (2147483647 : Int32)) % (3 : Int32))), .val (.ref a1591), .val (.ref (s_DEPENDS Z)), .val (.int (7 : Int32)), .val (.int (x3 &&& (255 : Int32))), .val (.int (1 : Int32)), .val (.int (x1 &&& (3 : Int32))), .unset, .val .null, .val (.ref r1760), .val (.int (5 : Int32))]) (hb hby at_155) rfl rfl rfl ?_
              refine go_goto (pc' := 164) (hb hby at_157) (by decide) rfl ?_
              refine go_newO (pc' := 167) (cells' := 4) (slots' := 43) (wk G 94 rfl) (wk G 3 rfl) (wk G 2 rfl) (hb hby at_164) rfl rfl rfl (by decide) (by decide) (fun h2156 a2157 g2158 X2159 E2160 D2161 U2162 => ?_)
              refine go_dup (pc' := 168) (hb hby at_167) rfl rfl ?_
              refine go_aload (pc' := 170) (hb hby at_168) rfl rfl rfl ?_
              have F2163 := D2161 (Or.inr (wk G 5 rfl)) (ty := (.array .byte)) (by decide)
              have F2164 := D2161 (Or.inr (wk G 6 rfl)) (ty := .byte) (by decide)
              have K2165 : Keep h2117 h2156 [] := ((Keep.refl h2117 []).ext X2159)
              have A2166 := (A2119.keep K2165 nin0)
              refine go_old (fun O2167 => ?_)
              have K2168 : Keep h0 h1758 [] := (K1764.trans K1759 all0)
              have K2169 : Keep h0 h1768 [] := (K2168.trans K1769 (allS (Or.inr (Nat.le_trans K1764.1 f1762)) all0))
              have K2170 : Keep h0 h2117 [] := (K2169.wr W2118 (Or.inr (Nat.le_trans K1764.1 f1762)))
              refine callI0 (cells' := 5) (slots' := 50) (Wd := 1) (argsL := [(.ref r1760)]) (rest := [(.ref a2157)]) (pay_new G O2167 (cs := [(100 : Int32), (101 : Int32), (112 : Int32), (101 : Int32), (110 : Int32), (x3 &&& (255 : Int32)), (115 : Int32)]) (n := 7) (Nat.le_trans O0.2.1 (Nat.le_trans K2170.1 (Nat.le_of_eq g2158))) E2160 F2163 F2164 A2166 rfl rfl (by decide) (by decide) (c8c (by decide) (c8c (by decide) (c8c (by decide) (c8c (by decide) (c8c (by decide) (c8c (c8_m _) (c8c (by decide) c8n))))))) (by decide) (by decide)) rfl (wk G 95 rfl) (wk G 96 rfl) (wk G 97 rfl) (by decide) pd8 rfl rfl (by rw [hml]; rfl) (Nat.le_of_ble_eq_true rfl) rfl rfl (by decide) (by decide) (allS (Nat.le_trans O0.2.1 (Nat.le_trans K2170.1 (Nat.le_of_eq g2158))) all0) (fun _ hal => (sfS (safe_null hal E2160 F2163) sf0)) (hb hby at_170) (k_n (pc' := 173) rfl ?_)
              rintro h2171 S2173 K2172
              refine go_astore (pc' := 175) (ls' := #[.val (.int x0), .val (.int x1), .val (.int x2), .val (.int x3), .val (.int ((x0 &&& (2147483647 : Int32)) % (3 : Int32))), .val (.ref a1591), .val (.ref (s_DEPENDS Z)), .val (.int (7 : Int32)), .val (.int (x3 &&& (255 : Int32))), .val (.int (1 : Int32)), .val (.int (x1 &&& (3 : Int32))), .val (.ref a2157), .val .null, .val (.ref r1760), .val (.int (5 : Int32))]) (hb hby at_173) rfl rfl rfl ?_
              refine go_goto (pc' := 279) (hb hby at_175) (by decide) rfl ?_
              refine go_aload (pc' := 281) (hb hby at_279) rfl rfl rfl ?_
              refine go_old (fun O2174 => ?_)
              refine callS0 (cells' := 6) (slots' := 53) (Wd := 0) (argsL := [(.ref a2157)]) (rest := []) (pay_of (a0 := a0) (c_of l G a2157 [(100 : Int32), (101 : Int32), (112 : Int32), (101 : Int32), (110 : Int32), (x3 &&& (255 : Int32)), (115 : Int32)] h2171 O2174 S2173) (wk G 28 rfl) (wk G 10 rfl) (by decide) (by decide)) (wk G 26 rfl) (wk G 27 rfl) (wk G 10 rfl) (wk G 28 rfl) (by decide) pd9 rfl rfl (by rw [hml]; rfl) (Nat.le_of_ble_eq_true rfl) rfl rfl (by decide) (by decide) all0 (fun _ _ => sf0) (hb hby at_281) (k_v (pc' := 284) rfl ?_)
              rintro _ h2175 (⟨rfl, f2177⟩ | ⟨rfl, f2178⟩ | ⟨rfl, f2179⟩ | ⟨rfl, f2180, f2181, f2182⟩) K2176
              · exact absurd f2177 (by simp)
              · exact absurd f2178 (by simp)
              · exact absurd f2179 (by simp [Ne.symm c2125])
              · refine go_aload (pc' := 286) (hb hby at_284) rfl rfl rfl ?_
                refine go_acF (pc' := 289) (hb hby at_286) rfl rfl rfl (XT.aa_ne_f rfl) ?_
                refine go_iconst (pc' := 290) (v := 1) (hb hby at_289) rfl rfl ?_
                refine go_goto (pc' := 294) (hb hby at_290) (by decide) rfl ?_
                have K2183 : Keep h0 h2156 [] := (K2170.ext X2159)
                have K2184 : Keep h0 h2171 [] := (K2183.trans K2172 (allS (Or.inr (Nat.le_trans K2170.1 (Nat.le_of_eq g2158))) all0))
                have K2185 : Keep h0 h2175 [] := (K2184.trans K2176 all0)
                refine go_ireturn hret hlk rfl (by simp) (hb hby at_294) (by decide) (by decide) ⟨_, rfl, rfl⟩ K2185
          · rw [q1771]
            refine go_istore (pc' := 130) (ls' := #[.val (.int x0), .val (.int x1), .val (.int x2), .val (.int x3), .val (.int ((x0 &&& (2147483647 : Int32)) % (3 : Int32))), .val (.ref a1591), .val (.ref (s_DEPENDS Z)), .val (.int (7 : Int32)), .val (.int (x3 &&& (255 : Int32))), .val (.int (1 : Int32)), .val (.int (x1 &&& (3 : Int32))), .unset, .unset, .val (.ref r1760), .val (.int (6 : Int32))]) (hb hby at_128) rfl rfl ?_
            refine go_aload (pc' := 132) (hb hby at_130) rfl rfl rfl ?_
            refine go_iload (pc' := 134) (hb hby at_132) rfl rfl ?_
            refine go_iload (pc' := 136) (hb hby at_134) rfl rfl ?_
            refine go_stC (pc' := 137) (i := 6) (x' := (x3 &&& (255 : Int32))) (vs' := [(.int (100 : Int32)), (.int (101 : Int32)), (.int (112 : Int32)), (.int (101 : Int32)), (.int (110 : Int32)), (.int (100 : Int32)), (.int (x3 &&& (255 : Int32)))]) f1770 (Nat.le_trans O0.2.1 (Nat.le_trans K1764.1 f1762)) (by decide) (by decide) rfl (Nat.le_of_ble_eq_true rfl) (i2c_mask _) rfl (hb hby at_136) rfl (fun h2186 W2187 A2188 => ?_)
            refine go_iload (pc' := 139) (hb hby at_137) rfl rfl ?_
            refine go_aload (pc' := 141) (hb hby at_139) rfl rfl rfl ?_
            refine go_iload (pc' := 143) (hb hby at_141) rfl rfl ?_
            have K2189 : Keep h1590 h1768 [] := (K1765.trans K1769 (allS (Or.inr f1762) all0))
            have K2190 : Keep h1590 h2186 [] := (K2189.wr W2187 (Or.inr f1762))
            have S2191 := (S1599.keep K2190)
            refine go_old (fun O2192 => ?_)
            have E2193 := (E1595.keep K2190)
            refine callV0 (cells' := 3) (slots' := 39) (Wd := 1) (argsL := [(.int (6 : Int32))]) (rest := [(.int (x3 &&& (255 : Int32)))]) (pay_chr G O2192 (i := 6) (c := (115 : Int32)) S2191 rfl (Nat.le_of_ble_eq_true rfl) rfl (by decide) (by decide)) E2193 (wk G 73 rfl) (wk G 74 rfl) (wk G 76 rfl) (wk G 76 rfl) (wk G 75 rfl) (by decide) pd5 rfl rfl (by rw [hml]; rfl) (Nat.le_of_ble_eq_true rfl) rfl rfl (by decide) (by decide) all0 (fun _ _ => sf0) (hb hby at_143) (k_v (pc' := 146) rfl ?_)
            rintro _ _ ⟨rfl, rfl⟩ -
            by_cases c2194 : (x3 &&& (255 : Int32)) = (115 : Int32)
            · refine go_icF (pc' := 149) (hb hby at_146) rfl (XT.ii_ne_f c2194) ?_
              refine go_aload (pc' := 151) (hb hby at_149) rfl rfl rfl ?_
              refine go_goto (pc' := 155) (hb hby at_151) (by decide) rfl ?_
              refine go_astore (pc' := 157) (ls' := #[.val (.int x0), .val (.int x1), .val (.int x2), .val (.int x3), .val (.int ((x0 &&& (2147483647 : Int32)) % (3 : Int32))), .val (.ref a1591), .val (.ref (s_DEPENDS Z)), .val (.int (7 : Int32)), .val (.int (x3 &&& (255 : Int32))), .val (.int (1 : Int32)), .val (.int (x1 &&& (3 : Int32))), .unset, .val (.ref (s_DEPENDS Z)), .val (.ref r1760), .val (.int (6 : Int32))]) (hb hby at_155) rfl rfl rfl ?_
              refine go_goto (pc' := 164) (hb hby at_157) (by decide) rfl ?_
              refine go_newO (pc' := 167) (cells' := 4) (slots' := 43) (wk G 94 rfl) (wk G 3 rfl) (wk G 2 rfl) (hb hby at_164) rfl rfl rfl (by decide) (by decide) (fun h2195 a2196 g2197 X2198 E2199 D2200 U2201 => ?_)
              refine go_dup (pc' := 168) (hb hby at_167) rfl rfl ?_
              refine go_aload (pc' := 170) (hb hby at_168) rfl rfl rfl ?_
              have F2202 := D2200 (Or.inr (wk G 5 rfl)) (ty := (.array .byte)) (by decide)
              have F2203 := D2200 (Or.inr (wk G 6 rfl)) (ty := .byte) (by decide)
              have K2204 : Keep h2186 h2195 [] := ((Keep.refl h2186 []).ext X2198)
              have A2205 := (A2188.keep K2204 nin0)
              refine go_old (fun O2206 => ?_)
              have K2207 : Keep h0 h1758 [] := (K1764.trans K1759 all0)
              have K2208 : Keep h0 h1768 [] := (K2207.trans K1769 (allS (Or.inr (Nat.le_trans K1764.1 f1762)) all0))
              have K2209 : Keep h0 h2186 [] := (K2208.wr W2187 (Or.inr (Nat.le_trans K1764.1 f1762)))
              refine callI0 (cells' := 5) (slots' := 50) (Wd := 1) (argsL := [(.ref r1760)]) (rest := [(.ref a2196)]) (pay_new G O2206 (cs := [(100 : Int32), (101 : Int32), (112 : Int32), (101 : Int32), (110 : Int32), (100 : Int32), (x3 &&& (255 : Int32))]) (n := 7) (Nat.le_trans O0.2.1 (Nat.le_trans K2209.1 (Nat.le_of_eq g2197))) E2199 F2202 F2203 A2205 rfl rfl (by decide) (by decide) (c8c (by decide) (c8c (by decide) (c8c (by decide) (c8c (by decide) (c8c (by decide) (c8c (by decide) (c8c (c8_m _) c8n))))))) (by decide) (by decide)) rfl (wk G 95 rfl) (wk G 96 rfl) (wk G 97 rfl) (by decide) pd8 rfl rfl (by rw [hml]; rfl) (Nat.le_of_ble_eq_true rfl) rfl rfl (by decide) (by decide) (allS (Nat.le_trans O0.2.1 (Nat.le_trans K2209.1 (Nat.le_of_eq g2197))) all0) (fun _ hal => (sfS (safe_null hal E2199 F2202) sf0)) (hb hby at_170) (k_n (pc' := 173) rfl ?_)
              rintro h2210 S2212 K2211
              refine go_astore (pc' := 175) (ls' := #[.val (.int x0), .val (.int x1), .val (.int x2), .val (.int x3), .val (.int ((x0 &&& (2147483647 : Int32)) % (3 : Int32))), .val (.ref a1591), .val (.ref (s_DEPENDS Z)), .val (.int (7 : Int32)), .val (.int (x3 &&& (255 : Int32))), .val (.int (1 : Int32)), .val (.int (x1 &&& (3 : Int32))), .val (.ref a2196), .val (.ref (s_DEPENDS Z)), .val (.ref r1760), .val (.int (6 : Int32))]) (hb hby at_173) rfl rfl rfl ?_
              refine go_goto (pc' := 279) (hb hby at_175) (by decide) rfl ?_
              refine go_aload (pc' := 281) (hb hby at_279) rfl rfl rfl ?_
              refine go_old (fun O2213 => ?_)
              refine callS0 (cells' := 6) (slots' := 53) (Wd := 0) (argsL := [(.ref a2196)]) (rest := []) (pay_of (a0 := a0) (c_of l G a2196 [(100 : Int32), (101 : Int32), (112 : Int32), (101 : Int32), (110 : Int32), (100 : Int32), (x3 &&& (255 : Int32))] h2210 O2213 S2212) (wk G 28 rfl) (wk G 10 rfl) (by decide) (by decide)) (wk G 26 rfl) (wk G 27 rfl) (wk G 10 rfl) (wk G 28 rfl) (by decide) pd9 rfl rfl (by rw [hml]; rfl) (Nat.le_of_ble_eq_true rfl) rfl rfl (by decide) (by decide) all0 (fun _ _ => sf0) (hb hby at_281) (k_v (pc' := 284) rfl ?_)
              rintro _ h2214 (⟨rfl, f2216⟩ | ⟨rfl, f2217⟩ | ⟨rfl, f2218⟩ | ⟨rfl, f2219, f2220, f2221⟩) K2215
              · exact absurd f2216 (by simp)
              · exact absurd f2217 (by simp)
              · refine go_aload (pc' := 286) (hb hby at_284) rfl rfl rfl ?_
                refine go_acF (pc' := 289) (hb hby at_286) rfl rfl rfl (XT.aa_ne_f rfl) ?_
                refine go_iconst (pc' := 290) (v := 1) (hb hby at_289) rfl rfl ?_
                refine go_goto (pc' := 294) (hb hby at_290) (by decide) rfl ?_
                have K2222 : Keep h0 h2195 [] := (K2209.ext X2198)
                have K2223 : Keep h0 h2210 [] := (K2222.trans K2211 (allS (Or.inr (Nat.le_trans K2209.1 (Nat.le_of_eq g2197))) all0))
                have K2224 : Keep h0 h2214 [] := (K2223.trans K2215 all0)
                refine go_ireturn hret hlk rfl (by simp) (hb hby at_294) (by decide) (by decide) ⟨_, rfl, rfl⟩ K2224
              · exact absurd (by simp [c2194]) f2221
            · refine go_icT (pc' := 154) (hb hby at_146) (by decide) rfl (XT.ii_ne_t c2194) ?_
              refine go_aconst_null (pc' := 155) (hb hby at_154) rfl ?_
              refine go_astore (pc' := 157) (ls' := #[.val (.int x0), .val (.int x1), .val (.int x2), .val (.int x3), .val (.int ((x0 &&& (2147483647 : Int32)) % (3 : Int32))), .val (.ref a1591), .val (.ref (s_DEPENDS Z)), .val (.int (7 : Int32)), .val (.int (x3 &&& (255 : Int32))), .val (.int (1 : Int32)), .val (.int (x1 &&& (3 : Int32))), .unset, .val .null, .val (.ref r1760), .val (.int (6 : Int32))]) (hb hby at_155) rfl rfl rfl ?_
              refine go_goto (pc' := 164) (hb hby at_157) (by decide) rfl ?_
              refine go_newO (pc' := 167) (cells' := 4) (slots' := 43) (wk G 94 rfl) (wk G 3 rfl) (wk G 2 rfl) (hb hby at_164) rfl rfl rfl (by decide) (by decide) (fun h2225 a2226 g2227 X2228 E2229 D2230 U2231 => ?_)
              refine go_dup (pc' := 168) (hb hby at_167) rfl rfl ?_
              refine go_aload (pc' := 170) (hb hby at_168) rfl rfl rfl ?_
              have F2232 := D2230 (Or.inr (wk G 5 rfl)) (ty := (.array .byte)) (by decide)
              have F2233 := D2230 (Or.inr (wk G 6 rfl)) (ty := .byte) (by decide)
              have K2234 : Keep h2186 h2225 [] := ((Keep.refl h2186 []).ext X2228)
              have A2235 := (A2188.keep K2234 nin0)
              refine go_old (fun O2236 => ?_)
              have K2237 : Keep h0 h1758 [] := (K1764.trans K1759 all0)
              have K2238 : Keep h0 h1768 [] := (K2237.trans K1769 (allS (Or.inr (Nat.le_trans K1764.1 f1762)) all0))
              have K2239 : Keep h0 h2186 [] := (K2238.wr W2187 (Or.inr (Nat.le_trans K1764.1 f1762)))
              refine callI0 (cells' := 5) (slots' := 50) (Wd := 1) (argsL := [(.ref r1760)]) (rest := [(.ref a2226)]) (pay_new G O2236 (cs := [(100 : Int32), (101 : Int32), (112 : Int32), (101 : Int32), (110 : Int32), (100 : Int32), (x3 &&& (255 : Int32))]) (n := 7) (Nat.le_trans O0.2.1 (Nat.le_trans K2239.1 (Nat.le_of_eq g2227))) E2229 F2232 F2233 A2235 rfl rfl (by decide) (by decide) (c8c (by decide) (c8c (by decide) (c8c (by decide) (c8c (by decide) (c8c (by decide) (c8c (by decide) (c8c (c8_m _) c8n))))))) (by decide) (by decide)) rfl (wk G 95 rfl) (wk G 96 rfl) (wk G 97 rfl) (by decide) pd8 rfl rfl (by rw [hml]; rfl) (Nat.le_of_ble_eq_true rfl) rfl rfl (by decide) (by decide) (allS (Nat.le_trans O0.2.1 (Nat.le_trans K2239.1 (Nat.le_of_eq g2227))) all0) (fun _ hal => (sfS (safe_null hal E2229 F2232) sf0)) (hb hby at_170) (k_n (pc' := 173) rfl ?_)
              rintro h2240 S2242 K2241
              refine go_astore (pc' := 175) (ls' := #[.val (.int x0), .val (.int x1), .val (.int x2), .val (.int x3), .val (.int ((x0 &&& (2147483647 : Int32)) % (3 : Int32))), .val (.ref a1591), .val (.ref (s_DEPENDS Z)), .val (.int (7 : Int32)), .val (.int (x3 &&& (255 : Int32))), .val (.int (1 : Int32)), .val (.int (x1 &&& (3 : Int32))), .val (.ref a2226), .val .null, .val (.ref r1760), .val (.int (6 : Int32))]) (hb hby at_173) rfl rfl rfl ?_
              refine go_goto (pc' := 279) (hb hby at_175) (by decide) rfl ?_
              refine go_aload (pc' := 281) (hb hby at_279) rfl rfl rfl ?_
              refine go_old (fun O2243 => ?_)
              refine callS0 (cells' := 6) (slots' := 53) (Wd := 0) (argsL := [(.ref a2226)]) (rest := []) (pay_of (a0 := a0) (c_of l G a2226 [(100 : Int32), (101 : Int32), (112 : Int32), (101 : Int32), (110 : Int32), (100 : Int32), (x3 &&& (255 : Int32))] h2240 O2243 S2242) (wk G 28 rfl) (wk G 10 rfl) (by decide) (by decide)) (wk G 26 rfl) (wk G 27 rfl) (wk G 10 rfl) (wk G 28 rfl) (by decide) pd9 rfl rfl (by rw [hml]; rfl) (Nat.le_of_ble_eq_true rfl) rfl rfl (by decide) (by decide) all0 (fun _ _ => sf0) (hb hby at_281) (k_v (pc' := 284) rfl ?_)
              rintro _ h2244 (⟨rfl, f2246⟩ | ⟨rfl, f2247⟩ | ⟨rfl, f2248⟩ | ⟨rfl, f2249, f2250, f2251⟩) K2245
              · exact absurd f2246 (by simp)
              · exact absurd f2247 (by simp)
              · exact absurd f2248 (by simp [Ne.symm c2194])
              · refine go_aload (pc' := 286) (hb hby at_284) rfl rfl rfl ?_
                refine go_acF (pc' := 289) (hb hby at_286) rfl rfl rfl (XT.aa_ne_f rfl) ?_
                refine go_iconst (pc' := 290) (v := 1) (hb hby at_289) rfl rfl ?_
                refine go_goto (pc' := 294) (hb hby at_290) (by decide) rfl ?_
                have K2252 : Keep h0 h2225 [] := (K2239.ext X2228)
                have K2253 : Keep h0 h2240 [] := (K2252.trans K2241 (allS (Or.inr (Nat.le_trans K2239.1 (Nat.le_of_eq g2227))) all0))
                have K2254 : Keep h0 h2244 [] := (K2253.trans K2245 all0)
                refine go_ireturn hret hlk rfl (by simp) (hb hby at_294) (by decide) (by decide) ⟨_, rfl, rfl⟩ K2254
        · refine go_ifT (pc' := 178) (hb hby at_99) (by decide) rfl (XT.i0_ne_t c1757) ?_
          refine go_iload (pc' := 180) (hb hby at_178) rfl rfl ?_
          refine go_iconst (pc' := 181) (v := 1) (hb hby at_180) rfl rfl ?_
          by_cases c2255 : (x1 &&& (3 : Int32)) = (1 : Int32)
          · refine go_icF (pc' := 184) (hb hby at_181) rfl (XT.ii_ne_f c2255) ?_
            refine go_iload (pc' := 186) (hb hby at_184) rfl rfl ?_
            refine go_iconst (pc' := 187) (v := 1) (hb hby at_186) rfl rfl ?_
            refine go_isub (pc' := 188) (z := (6 : Int32)) (hb hby at_187) rfl (by decide) ?_
            refine callS0 (cells' := 3) (slots' := 38) (Wd := 0) (argsL := [(.int (6 : Int32))]) (rest := []) (pay_of (a0 := a0) (c_sized6 l G  h1590 O1600 ) (wk G 64 rfl) (wk G 63 rfl) (by decide) (by decide)) (wk G 61 rfl) (wk G 62 rfl) (wk G 63 rfl) (wk G 64 rfl) (by decide) pd6 rfl rfl (by rw [hml]; rfl) (Nat.le_of_ble_eq_true rfl) rfl rfl (by decide) (by decide) all0 (fun _ _ => sf0) (hb hby at_188) (k_v (pc' := 191) rfl ?_)
            rintro _ h2256 ⟨r2258, r2259, rfl, f2260, f2261⟩ K2257
            refine go_astore (pc' := 193) (ls' := #[.val (.int x0), .val (.int x1), .val (.int x2), .val (.int x3), .val (.int ((x0 &&& (2147483647 : Int32)) % (3 : Int32))), .val (.ref a1591), .val (.ref (s_DEPENDS Z)), .val (.int (7 : Int32)), .val (.int (x3 &&& (255 : Int32))), .val (.int (1 : Int32)), .val (.int (x1 &&& (3 : Int32))), .unset, .unset, .val (.ref r2258), .unset]) (hb hby at_191) rfl rfl rfl ?_
            refine go_aload (pc' := 195) (hb hby at_193) rfl rfl rfl ?_
            refine go_aload (pc' := 197) (hb hby at_195) rfl rfl rfl ?_
            have K2262 : Keep h0 h1590 [] := ((Keep.refl h0 []).ext X1592)
            have K2263 : Keep h1590 h2256 [] := ((Keep.refl h1590 []).trans K2257 all0)
            have S2264 := (S1599.keep K2263)
            refine go_old (fun O2265 => ?_)
            refine callS0 (cells' := 3) (slots' := 38) (Wd := 0) (argsL := [(.ref r2258), (.ref a1591)]) (rest := []) (pay_of (a0 := a0) (c_fill67 l G r2258 a1591 r2259 (100 : Int32) (101 : Int32) (112 : Int32) (101 : Int32) (110 : Int32) (100 : Int32) (115 : Int32) h2256 O2265 (Nat.le_trans O0.2.1 (Nat.le_trans K2262.1 f2260)) f2261 S2264) (wk G 68 rfl) (wk G 63 rfl) (by decide) (by decide)) (wk G 66 rfl) (wk G 67 rfl) (wk G 63 rfl) (wk G 68 rfl) (by decide) pd7 rfl rfl (by rw [hml]; rfl) (Nat.le_of_ble_eq_true rfl) rfl rfl (by decide) (by decide) (allS (Nat.le_trans O0.2.1 (Nat.le_trans K2262.1 f2260)) all0) (fun _ hal => (sfS (Safe.arv hal f2261 (by simp)) sf0)) (hb hby at_197) (k_n (pc' := 200) rfl ?_)
            rintro  h2266 f2268 K2267
            refine go_newO (pc' := 203) (cells' := 4) (slots' := 42) (wk G 94 rfl) (wk G 3 rfl) (wk G 2 rfl) (hb hby at_200) rfl rfl rfl (by decide) (by decide) (fun h2269 a2270 g2271 X2272 E2273 D2274 U2275 => ?_)
            refine go_dup (pc' := 204) (hb hby at_203) rfl rfl ?_
            refine go_aload (pc' := 206) (hb hby at_204) rfl rfl rfl ?_
            have F2276 := D2274 (Or.inr (wk G 5 rfl)) (ty := (.array .byte)) (by decide)
            have F2277 := D2274 (Or.inr (wk G 6 rfl)) (ty := .byte) (by decide)
            have K2278 : Keep h2266 h2269 [] := ((Keep.refl h2266 []).ext X2272)
            have A2279 := (f2268.keep K2278 nin0)
            refine go_old (fun O2280 => ?_)
            have K2281 : Keep h0 h2256 [] := (K2262.trans K2257 all0)
            have K2282 : Keep h0 h2266 [] := (K2281.trans K2267 (allS (Or.inr (Nat.le_trans K2262.1 f2260)) all0))
            refine callI0 (cells' := 5) (slots' := 48) (Wd := 1) (argsL := [(.ref r2258)]) (rest := [(.ref a2270)]) (pay_new G O2280 (cs := [(100 : Int32), (101 : Int32), (112 : Int32), (101 : Int32), (110 : Int32), (100 : Int32)]) (n := 6) (Nat.le_trans O0.2.1 (Nat.le_trans K2282.1 (Nat.le_of_eq g2271))) E2273 F2276 F2277 A2279 rfl rfl (by decide) (by decide) (c8c (by decide) (c8c (by decide) (c8c (by decide) (c8c (by decide) (c8c (by decide) (c8c (by decide) c8n)))))) (by decide) (by decide)) rfl (wk G 95 rfl) (wk G 96 rfl) (wk G 97 rfl) (by decide) pd8 rfl rfl (by rw [hml]; rfl) (Nat.le_of_ble_eq_true rfl) rfl rfl (by decide) (by decide) (allS (Nat.le_trans O0.2.1 (Nat.le_trans K2282.1 (Nat.le_of_eq g2271))) all0) (fun _ hal => (sfS (safe_null hal E2273 F2276) sf0)) (hb hby at_206) (k_n (pc' := 209) rfl ?_)
            rintro h2283 S2285 K2284
            refine go_astore (pc' := 211) (ls' := #[.val (.int x0), .val (.int x1), .val (.int x2), .val (.int x3), .val (.int ((x0 &&& (2147483647 : Int32)) % (3 : Int32))), .val (.ref a1591), .val (.ref (s_DEPENDS Z)), .val (.int (7 : Int32)), .val (.int (x3 &&& (255 : Int32))), .val (.int (1 : Int32)), .val (.int (x1 &&& (3 : Int32))), .val (.ref a2270), .unset, .val (.ref r2258), .unset]) (hb hby at_209) rfl rfl rfl ?_
            refine go_aconst_null (pc' := 212) (hb hby at_211) rfl ?_
            refine go_astore (pc' := 214) (ls' := #[.val (.int x0), .val (.int x1), .val (.int x2), .val (.int x3), .val (.int ((x0 &&& (2147483647 : Int32)) % (3 : Int32))), .val (.ref a1591), .val (.ref (s_DEPENDS Z)), .val (.int (7 : Int32)), .val (.int (x3 &&& (255 : Int32))), .val (.int (1 : Int32)), .val (.int (x1 &&& (3 : Int32))), .val (.ref a2270), .val .null, .val (.ref r2258), .unset]) (hb hby at_212) rfl rfl rfl ?_
            refine go_goto (pc' := 279) (hb hby at_214) (by decide) rfl ?_
            refine go_aload (pc' := 281) (hb hby at_279) rfl rfl rfl ?_
            refine go_old (fun O2286 => ?_)
            refine callS0 (cells' := 6) (slots' := 51) (Wd := 0) (argsL := [(.ref a2270)]) (rest := []) (pay_of (a0 := a0) (c_of l G a2270 [(100 : Int32), (101 : Int32), (112 : Int32), (101 : Int32), (110 : Int32), (100 : Int32)] h2283 O2286 S2285) (wk G 28 rfl) (wk G 10 rfl) (by decide) (by decide)) (wk G 26 rfl) (wk G 27 rfl) (wk G 10 rfl) (wk G 28 rfl) (by decide) pd9 rfl rfl (by rw [hml]; rfl) (Nat.le_of_ble_eq_true rfl) rfl rfl (by decide) (by decide) all0 (fun _ _ => sf0) (hb hby at_281) (k_v (pc' := 284) rfl ?_)
            rintro _ h2287 (⟨rfl, f2289⟩ | ⟨rfl, f2290⟩ | ⟨rfl, f2291⟩ | ⟨rfl, f2292, f2293, f2294⟩) K2288
            · exact absurd f2289 (by simp)
            · exact absurd f2290 (by simp)
            · exact absurd f2291 (by simp)
            · refine go_aload (pc' := 286) (hb hby at_284) rfl rfl rfl ?_
              refine go_acF (pc' := 289) (hb hby at_286) rfl rfl rfl (XT.aa_ne_f rfl) ?_
              refine go_iconst (pc' := 290) (v := 1) (hb hby at_289) rfl rfl ?_
              refine go_goto (pc' := 294) (hb hby at_290) (by decide) rfl ?_
              have K2295 : Keep h0 h2269 [] := (K2282.ext X2272)
              have K2296 : Keep h0 h2283 [] := (K2295.trans K2284 (allS (Or.inr (Nat.le_trans K2282.1 (Nat.le_of_eq g2271))) all0))
              have K2297 : Keep h0 h2287 [] := (K2296.trans K2288 all0)
              refine go_ireturn hret hlk rfl (by simp) (hb hby at_294) (by decide) (by decide) ⟨_, rfl, rfl⟩ K2297
          · refine go_icT (pc' := 217) (hb hby at_181) (by decide) rfl (XT.ii_ne_t c2255) ?_
            refine go_iload (pc' := 219) (hb hby at_217) rfl rfl ?_
            refine go_iconst (pc' := 220) (v := 2) (hb hby at_219) rfl rfl ?_
            by_cases c2298 : (x1 &&& (3 : Int32)) = (2 : Int32)
            · refine go_icF (pc' := 223) (hb hby at_220) rfl (XT.ii_ne_f c2298) ?_
              refine go_iload (pc' := 225) (hb hby at_223) rfl rfl ?_
              refine go_iconst (pc' := 226) (v := 1) (hb hby at_225) rfl rfl ?_
              refine go_iadd (pc' := 227) (z := (8 : Int32)) (hb hby at_226) rfl (by decide) ?_
              refine callS0 (cells' := 3) (slots' := 40) (Wd := 0) (argsL := [(.int (8 : Int32))]) (rest := []) (pay_of (a0 := a0) (c_sized8 l G  h1590 O1600 ) (wk G 64 rfl) (wk G 63 rfl) (by decide) (by decide)) (wk G 61 rfl) (wk G 62 rfl) (wk G 63 rfl) (wk G 64 rfl) (by decide) pd6 rfl rfl (by rw [hml]; rfl) (Nat.le_of_ble_eq_true rfl) rfl rfl (by decide) (by decide) all0 (fun _ _ => sf0) (hb hby at_227) (k_v (pc' := 230) rfl ?_)
              rintro _ h2299 ⟨r2301, r2302, rfl, f2303, f2304⟩ K2300
              refine go_astore (pc' := 232) (ls' := #[.val (.int x0), .val (.int x1), .val (.int x2), .val (.int x3), .val (.int ((x0 &&& (2147483647 : Int32)) % (3 : Int32))), .val (.ref a1591), .val (.ref (s_DEPENDS Z)), .val (.int (7 : Int32)), .val (.int (x3 &&& (255 : Int32))), .val (.int (1 : Int32)), .val (.int (x1 &&& (3 : Int32))), .unset, .unset, .val (.ref r2301), .unset]) (hb hby at_230) rfl rfl rfl ?_
              refine go_aload (pc' := 234) (hb hby at_232) rfl rfl rfl ?_
              refine go_aload (pc' := 236) (hb hby at_234) rfl rfl rfl ?_
              have K2305 : Keep h0 h1590 [] := ((Keep.refl h0 []).ext X1592)
              have K2306 : Keep h1590 h2299 [] := ((Keep.refl h1590 []).trans K2300 all0)
              have S2307 := (S1599.keep K2306)
              refine go_old (fun O2308 => ?_)
              refine callS0 (cells' := 3) (slots' := 40) (Wd := 0) (argsL := [(.ref r2301), (.ref a1591)]) (rest := []) (pay_of (a0 := a0) (c_fill87 l G r2301 a1591 r2302 (100 : Int32) (101 : Int32) (112 : Int32) (101 : Int32) (110 : Int32) (100 : Int32) (115 : Int32) h2299 O2308 (Nat.le_trans O0.2.1 (Nat.le_trans K2305.1 f2303)) f2304 S2307) (wk G 68 rfl) (wk G 63 rfl) (by decide) (by decide)) (wk G 66 rfl) (wk G 67 rfl) (wk G 63 rfl) (wk G 68 rfl) (by decide) pd7 rfl rfl (by rw [hml]; rfl) (Nat.le_of_ble_eq_true rfl) rfl rfl (by decide) (by decide) (allS (Nat.le_trans O0.2.1 (Nat.le_trans K2305.1 f2303)) all0) (fun _ hal => (sfS (Safe.arv hal f2304 (by simp)) sf0)) (hb hby at_236) (k_n (pc' := 239) rfl ?_)
              rintro  h2309 f2311 K2310
              refine go_aload (pc' := 241) (hb hby at_239) rfl rfl rfl ?_
              refine go_iload (pc' := 243) (hb hby at_241) rfl rfl ?_
              refine go_iload (pc' := 245) (hb hby at_243) rfl rfl ?_
              refine go_stC (pc' := 246) (i := 7) (x' := (x3 &&& (255 : Int32))) (vs' := [(.int (100 : Int32)), (.int (101 : Int32)), (.int (112 : Int32)), (.int (101 : Int32)), (.int (110 : Int32)), (.int (100 : Int32)), (.int (115 : Int32)), (.int (x3 &&& (255 : Int32)))]) f2311 (Nat.le_trans O0.2.1 (Nat.le_trans K2305.1 f2303)) (by decide) (by decide) rfl (Nat.le_of_ble_eq_true rfl) (i2c_mask _) rfl (hb hby at_245) rfl (fun h2312 W2313 A2314 => ?_)
              refine go_newO (pc' := 249) (cells' := 4) (slots' := 44) (wk G 94 rfl) (wk G 3 rfl) (wk G 2 rfl) (hb hby at_246) rfl rfl rfl (by decide) (by decide) (fun h2315 a2316 g2317 X2318 E2319 D2320 U2321 => ?_)
              refine go_dup (pc' := 250) (hb hby at_249) rfl rfl ?_
              refine go_aload (pc' := 252) (hb hby at_250) rfl rfl rfl ?_
              have F2322 := D2320 (Or.inr (wk G 5 rfl)) (ty := (.array .byte)) (by decide)
              have F2323 := D2320 (Or.inr (wk G 6 rfl)) (ty := .byte) (by decide)
              have K2324 : Keep h2312 h2315 [] := ((Keep.refl h2312 []).ext X2318)
              have A2325 := (A2314.keep K2324 nin0)
              refine go_old (fun O2326 => ?_)
              have K2327 : Keep h0 h2299 [] := (K2305.trans K2300 all0)
              have K2328 : Keep h0 h2309 [] := (K2327.trans K2310 (allS (Or.inr (Nat.le_trans K2305.1 f2303)) all0))
              have K2329 : Keep h0 h2312 [] := (K2328.wr W2313 (Or.inr (Nat.le_trans K2305.1 f2303)))
              refine callI0 (cells' := 5) (slots' := 52) (Wd := 1) (argsL := [(.ref r2301)]) (rest := [(.ref a2316)]) (pay_new G O2326 (cs := [(100 : Int32), (101 : Int32), (112 : Int32), (101 : Int32), (110 : Int32), (100 : Int32), (115 : Int32), (x3 &&& (255 : Int32))]) (n := 8) (Nat.le_trans O0.2.1 (Nat.le_trans K2329.1 (Nat.le_of_eq g2317))) E2319 F2322 F2323 A2325 rfl rfl (by decide) (by decide) (c8c (by decide) (c8c (by decide) (c8c (by decide) (c8c (by decide) (c8c (by decide) (c8c (by decide) (c8c (by decide) (c8c (c8_m _) c8n)))))))) (by decide) (by decide)) rfl (wk G 95 rfl) (wk G 96 rfl) (wk G 97 rfl) (by decide) pd8 rfl rfl (by rw [hml]; rfl) (Nat.le_of_ble_eq_true rfl) rfl rfl (by decide) (by decide) (allS (Nat.le_trans O0.2.1 (Nat.le_trans K2329.1 (Nat.le_of_eq g2317))) all0) (fun _ hal => (sfS (safe_null hal E2319 F2322) sf0)) (hb hby at_252) (k_n (pc' := 255) rfl ?_)
              rintro h2330 S2332 K2331
              refine go_astore (pc' := 257) (ls' := #[.val (.int x0), .val (.int x1), .val (.int x2), .val (.int x3), .val (.int ((x0 &&& (2147483647 : Int32)) % (3 : Int32))), .val (.ref a1591), .val (.ref (s_DEPENDS Z)), .val (.int (7 : Int32)), .val (.int (x3 &&& (255 : Int32))), .val (.int (1 : Int32)), .val (.int (x1 &&& (3 : Int32))), .val (.ref a2316), .unset, .val (.ref r2301), .unset]) (hb hby at_255) rfl rfl rfl ?_
              refine go_aconst_null (pc' := 258) (hb hby at_257) rfl ?_
              refine go_astore (pc' := 260) (ls' := #[.val (.int x0), .val (.int x1), .val (.int x2), .val (.int x3), .val (.int ((x0 &&& (2147483647 : Int32)) % (3 : Int32))), .val (.ref a1591), .val (.ref (s_DEPENDS Z)), .val (.int (7 : Int32)), .val (.int (x3 &&& (255 : Int32))), .val (.int (1 : Int32)), .val (.int (x1 &&& (3 : Int32))), .val (.ref a2316), .val .null, .val (.ref r2301), .unset]) (hb hby at_258) rfl rfl rfl ?_
              refine go_goto (pc' := 279) (hb hby at_260) (by decide) rfl ?_
              refine go_aload (pc' := 281) (hb hby at_279) rfl rfl rfl ?_
              refine go_old (fun O2333 => ?_)
              refine callS0 (cells' := 6) (slots' := 55) (Wd := 0) (argsL := [(.ref a2316)]) (rest := []) (pay_of (a0 := a0) (c_of l G a2316 [(100 : Int32), (101 : Int32), (112 : Int32), (101 : Int32), (110 : Int32), (100 : Int32), (115 : Int32), (x3 &&& (255 : Int32))] h2330 O2333 S2332) (wk G 28 rfl) (wk G 10 rfl) (by decide) (by decide)) (wk G 26 rfl) (wk G 27 rfl) (wk G 10 rfl) (wk G 28 rfl) (by decide) pd9 rfl rfl (by rw [hml]; rfl) (Nat.le_of_ble_eq_true rfl) rfl rfl (by decide) (by decide) all0 (fun _ _ => sf0) (hb hby at_281) (k_v (pc' := 284) rfl ?_)
              rintro _ h2334 (⟨rfl, f2336⟩ | ⟨rfl, f2337⟩ | ⟨rfl, f2338⟩ | ⟨rfl, f2339, f2340, f2341⟩) K2335
              · exact absurd f2336 (by simp)
              · exact absurd f2337 (by simp)
              · exact absurd f2338 (by simp)
              · refine go_aload (pc' := 286) (hb hby at_284) rfl rfl rfl ?_
                refine go_acF (pc' := 289) (hb hby at_286) rfl rfl rfl (XT.aa_ne_f rfl) ?_
                refine go_iconst (pc' := 290) (v := 1) (hb hby at_289) rfl rfl ?_
                refine go_goto (pc' := 294) (hb hby at_290) (by decide) rfl ?_
                have K2342 : Keep h0 h2315 [] := (K2329.ext X2318)
                have K2343 : Keep h0 h2330 [] := (K2342.trans K2331 (allS (Or.inr (Nat.le_trans K2329.1 (Nat.le_of_eq g2317))) all0))
                have K2344 : Keep h0 h2334 [] := (K2343.trans K2335 all0)
                refine go_ireturn hret hlk rfl (by simp) (hb hby at_294) (by decide) (by decide) ⟨_, rfl, rfl⟩ K2344
            · refine go_icT (pc' := 263) (hb hby at_220) (by decide) rfl (XT.ii_ne_t c2298) ?_
              refine go_iload (pc' := 265) (hb hby at_263) rfl rfl ?_
              refine go_ifF (pc' := 268) (hb hby at_265) rfl (by decide) ?_
              refine go_aconst_null (pc' := 269) (hb hby at_268) rfl ?_
              refine go_goto (pc' := 274) (hb hby at_269) (by decide) rfl ?_
              refine go_astore (pc' := 276) (ls' := #[.val (.int x0), .val (.int x1), .val (.int x2), .val (.int x3), .val (.int ((x0 &&& (2147483647 : Int32)) % (3 : Int32))), .val (.ref a1591), .val (.ref (s_DEPENDS Z)), .val (.int (7 : Int32)), .val (.int (x3 &&& (255 : Int32))), .val (.int (1 : Int32)), .val (.int (x1 &&& (3 : Int32))), .val .null, .unset, .unset, .unset]) (hb hby at_274) rfl rfl rfl ?_
              refine go_aconst_null (pc' := 277) (hb hby at_276) rfl ?_
              refine go_astore (pc' := 279) (ls' := #[.val (.int x0), .val (.int x1), .val (.int x2), .val (.int x3), .val (.int ((x0 &&& (2147483647 : Int32)) % (3 : Int32))), .val (.ref a1591), .val (.ref (s_DEPENDS Z)), .val (.int (7 : Int32)), .val (.int (x3 &&& (255 : Int32))), .val (.int (1 : Int32)), .val (.int (x1 &&& (3 : Int32))), .val .null, .val .null, .unset, .unset]) (hb hby at_277) rfl rfl rfl ?_
              refine go_aload (pc' := 281) (hb hby at_279) rfl rfl rfl ?_
              refine callS0 (cells' := 3) (slots' := 35) (Wd := 0) (argsL := [.null]) (rest := []) (pay_of (a0 := a0) (c_ofnull l G  h1590 O1600 ) (wk G 28 rfl) (wk G 10 rfl) (by decide) (by decide)) (wk G 26 rfl) (wk G 27 rfl) (wk G 10 rfl) (wk G 28 rfl) (by decide) pd9 rfl rfl (by rw [hml]; rfl) (Nat.le_of_ble_eq_true rfl) rfl rfl (by decide) (by decide) all0 (fun _ _ => sf0) (hb hby at_281) (k_v (pc' := 284) rfl ?_)
              rintro _ h2345 rfl K2346
              refine go_aload (pc' := 286) (hb hby at_284) rfl rfl rfl ?_
              refine go_acF (pc' := 289) (hb hby at_286) rfl rfl rfl (XT.aa_ne_f rfl) ?_
              refine go_iconst (pc' := 290) (v := 1) (hb hby at_289) rfl rfl ?_
              refine go_goto (pc' := 294) (hb hby at_290) (by decide) rfl ?_
              have K2347 : Keep h0 h1590 [] := ((Keep.refl h0 []).ext X1592)
              have K2348 : Keep h0 h2345 [] := (K2347.trans K2346 all0)
              refine go_ireturn hret hlk rfl (by simp) (hb hby at_294) (by decide) (by decide) ⟨_, rfl, rfl⟩ K2348
set_option maxRecDepth 65536 in
set_option maxHeartbeats 40000000 in
theorem comes_1 {Post : Tables → Env → Array Value → State → Outcome → State → Prop} (hpost : ∀ tb e args s v u, (limb_1_1.after args s (.returned v) u = true ∧ limb_1_2.after args s (.returned v) u = true ∧ True) → ReturnedEndW s (.returned v) u (Jvm.fieldLocs frame_1_writes args s ++ Jvm.arrayLocs frame_1_arrays args s ++ Jvm.staticLocs frame_1_statics s) 24 4288 → Post tb e args s (.returned v) u) :
    ArmFor flags0 classFile x code maxLocals ret World_1 tables_1 room_1 Calls_1 rest_1 Pre_1 Post := by
  intro l hfl _ _ p e ha hc hk s m args below hf hA hF happ hP
  obtain ⟨hcalls, hrest, hpre⟩ := hP
  obtain ⟨-, -, -, hnamed, -, -, -, hat⟩ := (Spec.applies_iff hf).mp happ
  obtain ⟨hg, hn⟩ := and_e (Cond.before_iff.mp (show (Jvm.Cond.and given_1 narrow_1).before args s = true from hpre))
  obtain ⟨h1, h2⟩ := and_e hg
  obtain ⟨w0, w1, w2, w3, rfl⟩ : ∃ w0 w1 w2 w3 : Value, args = #[w0, w1, w2, w3] := by
    have hs : args.size = 4 := by simpa [Cond.value, given_1] using h1
    obtain ⟨L⟩ := args
    match L, hs with
    | [w0, w1, w2, w3], _ => exact ⟨w0, w1, w2, w3, rfl⟩
  have hw := fun d (hd : d ∈ tables_1) => atoms_spec (ws := Jvm.Cond.code x code maxLocals ret :: tables_1) hat d (List.mem_cons_of_mem _ hd)
  obtain ⟨hsets, hown0⟩ := atoms_of _ (rest_1_c_eq ▸ (show rest_1_c.before _ s = true from hrest))
  have hfit : Fit s := fun {y c} hc i hi => by
    obtain ⟨ha, rfl⟩ := Array.getElem?_eq_some_iff.mp hc
    have q := List.all_eq_true.mp ((Array.all_eq_true_iff_forall_mem.mp hF) _ (Array.getElem_mem ha)) i (List.mem_range.mpr hi)
    simpa [Array.getElem?_eq_getElem hi] using q
  obtain ⟨q0, h2⟩ := and_e h2
  obtain ⟨i0, e0⟩ := is_v q0
  obtain rfl : w0 = (.int i0) := Option.some.inj e0
  obtain ⟨q1, h2⟩ := and_e h2
  obtain ⟨i1, e1⟩ := is_v q1
  obtain rfl : w1 = (.int i1) := Option.some.inj e1
  obtain ⟨q2, h2⟩ := and_e h2
  obtain ⟨i2, e2⟩ := is_v q2
  obtain rfl : w2 = (.int i2) := Option.some.inj e2
  have q3 := h2
  obtain ⟨i3, e3⟩ := is_v q3
  obtain rfl : w3 = (.int i3) := Option.some.inj e3
  have hew : EW s #[(.int i0), (.int i1), (.int i2), (.int i3)] EL1 := (EW.cons (hw _ (List.mem_of_getElem? (i := 1) rfl)) (by decide) (EW.cons (hw _ (List.mem_of_getElem? (i := 59) rfl)) (by decide) (EW.cons (hw _ (List.mem_of_getElem? (i := 114) rfl)) (by decide) (EW.cons (hw _ (List.mem_of_getElem? (i := 25) rfl)) (by decide) EW.nil))))
  have G : GH s #[(.int i0), (.int i1), (.int i2), (.int i3)] := ⟨hw, hsets, hew, hn, hfit⟩
  obtain ⟨n, o, h1, h2, h3, v, L, rfl, ⟨⟨_, rfl, hv⟩, N, -⟩, hC, -⟩ := c_law l G i0 i1 i2 i3 s.heap (Old.start s) p e ha hc hk s m _ below hf ((Spec.applies_iff_loose hf).mp happ).1 ⟨rfl, State.Warmed39.refl s, rfl, (fun _ => CHv.start (a0 := _) hew (fun q hq => held_of (hcalls.1 q hq)) (hsets _ (List.mem_of_getElem? (i := 2) rfl)) (hw _ (List.mem_of_getElem? (i := 4) rfl)) (hw _ (List.mem_of_getElem? (i := 3) rfl)))⟩ trivial
  subst hv
  have hq := (hC rfl).2
  refine ⟨n, _, h1, h2, h3, hpost _ _ _ _ _ _ ⟨Cond.after_iff.mpr rfl, Cond.after_iff.mpr (eq_i res_at (Term.int_eval (1)) rfl), trivial⟩ ⟨hq.1, hq.2.1, hq.2.2.1, (hq.2.2.2.sift fun y hy => Or.inr (N y hy)).mono (by decide) (by decide)⟩⟩
theorem main_1_1 : Claimed_1_1 := comes_1 fun _ _ _ _ _ _ h hF => ⟨h.1, hF⟩
theorem main_1_2 : Claimed_1_2 := comes_1 fun _ _ _ _ _ _ h hF => ⟨h.2.1, hF⟩
end Jvm.Pilot.@@N@@
namespace Jvm.Pilot.@@N@@
open Jvm Jvm.ClassFile Sem Op Lib Jvm.Free Jvm.Stand Jvm.Pilot.@@N@@.Jvm.D
/-! MADE BY PROGRAM (witnessworld.py) out of the Statement's table words and the real class files: 23 classes; the members and pool entries that the words name. The judged class is class 1, her method 1. -/
namespace start1
open Jvm.ClassFile
def u (s : String) : CpInfo := .utf8 (stringToUtf16 s)
/-- a pool by its gaps: so many unusable entries, then the entry; so many at the end -/
def gap : Nat → List CpInfo → List CpInfo
  | 0, r => r
  | n + 1, r => .unusable :: gap n r
def poolList (es : List (Nat × CpInfo)) (last : Nat) : List CpInfo := es.foldr (fun e r => gap e.1 (e.2 :: r)) (gap last [])
def pool (es : List (Nat × CpInfo)) (last : Nat) : Array CpInfo := ⟨poolList es last⟩
def fileOf (pool : Array CpInfo) (this : Nat) (attrs : Array Attribute := #[]) (ms : Array MethodInfo := #[]) (fl : Nat := 33) (sup : Nat := 0) (ifs : Array Nat := #[]) (fds : Array FieldInfo := #[]) : ClassFile where
  minorVersion := 0
  majorVersion := 65
  constantPool := pool
  accessFlags := fl
  thisClass := this
  superClass := sup
  interfaces := ifs
  fields := fds
  methods := ms
  attributes := attrs
def plain (name : String) (sup : Option ClassId) : Class where
  name := name
  kind := .ordinary
  loader := none
  accessFlags := 33
  super := sup
  interfaces := #[]
  cf := none
  fields := #[]
  methods := #[]
  instanceTypes := #[]
  staticTypes := #[]
  resolved := #[]
  callSites := []
  init := .initialized
  statics := none
  mirror := none

def pool0 : Array CpInfo := pool [(5, u "<init>"), (0, u "()V"), (1, .class_ 10), (1, u "java/lang/Object"), (85, u "clone"), (0, u "()Ljava/lang/Object;")] 26

def k0c0 : Code := { maxStack := 0, maxLocals := 1, code := object_method_1_code, exceptionTable := #[], attributes := #[] }
def k0m0 : Method := { name := "<init>", desc := "()V", sig := { parameters := [], returnType := none }, accessFlags := 1, code := some k0c0 }
def k0m1 : Method := { name := "clone", desc := "()Ljava/lang/Object;", sig := { parameters := [], returnType := some (.object "java/lang/Object") }, accessFlags := 260, code := none }
/-- java/lang/Object -/
def k0 : Class := { plain "java/lang/Object" none with
  accessFlags := 33
  interfaces := #[]
  cf := some (fileOf pool0 8 #[] #[{ accessFlags := 1, nameIndex := 5, descriptorIndex := 6, attributes := #[] }, { accessFlags := 260, nameIndex := 96, descriptorIndex := 97, attributes := #[] }] 33 0 #[] #[])
  fields := #[]
  methods := #[k0m0, k0m1]
  instanceTypes := #[]
  staticTypes := #[]
  resolved := Array.replicate 124 none
  statics := none }

def pool1 : Array CpInfo := pool [(2, .class_ 4), (1, u "java/lang/Object"), (0, u "<init>"), (0, u "()V"), (0, .integer 2147483647), (0, .string 9), (0, u "withhold"), (0, .string 11), (0, u "deliver"), (0, .string 13), (0, u "depends"), (0, .fieldref 15 16), (0, .class_ 17), (0, .nameAndType 18 19), (0, u "com/example/ispol/ispol/scoring/Label"), (0, u "WITHHOLD"), (0, u "Lcom/example/ispol/ispol/scoring/Label;"), (0, .fieldref 15 21), (0, .nameAndType 22 19), (0, u "DELIVER"), (0, .fieldref 15 24), (0, .nameAndType 25 19), (0, u "DEPENDS"), (0, .methodref 27 28), (0, .class_ 29), (0, .nameAndType 30 31), (0, u "java/lang/String"), (0, u "length"), (0, u "()I"), (0, .methodref 33 34), (0, .class_ 35), (0, .nameAndType 36 37), (0, u "com/example/ispol/ispol/scoring/LabelOfPinLaw"), (0, u "sized"), (0, u "(I)[C"), (0, .methodref 33 39), (0, .nameAndType 40 41), (0, u "fill"), (0, u "([CLjava/lang/String;)V"), (0, .methodref 27 43), (0, .nameAndType 44 45), (0, u "charAt"), (0, u "(I)C"), (0, .methodref 27 47), (0, .nameAndType 5 48), (0, u "([C)V"), (0, .string 50), (0, u ""), (0, .methodref 15 52), (0, .nameAndType 53 54), (0, u "of"), (0, u "(Ljava/lang/String;)Lcom/example/ispol/ispol/scoring/Label;"), (0, .methodref 56 57), (0, .class_ 58), (0, .nameAndType 59 60), (0, u "java/lang/Math"), (0, u "min"), (0, u "(II)I"), (2, u "law"), (0, u "(IIII)Z")] 5

def k1m0 : Method := { name := "<init>", desc := "()V", sig := { parameters := [], returnType := none }, accessFlags := 1, code := none }
def k1c1 : Code := { maxStack := 3, maxLocals := 15, code := code, exceptionTable := #[], attributes := #[] }
def k1m1 : Method := { name := "law", desc := "(IIII)Z", sig := { parameters := [.int, .int, .int, .int], returnType := some .boolean }, accessFlags := 9, code := some k1c1 }
def k1c2 : Code := { maxStack := 2, maxLocals := 1, code := method_3_code, exceptionTable := #[], attributes := #[] }
def k1m2 : Method := { name := "sized", desc := "(I)[C", sig := { parameters := [.int], returnType := some (.array .char) }, accessFlags := 10, code := some k1c2 }
def k1c3 : Code := { maxStack := 4, maxLocals := 3, code := method_4_code, exceptionTable := #[], attributes := #[] }
def k1m3 : Method := { name := "fill", desc := "([CLjava/lang/String;)V", sig := { parameters := [(.array .char), (.object "java/lang/String")], returnType := none }, accessFlags := 10, code := some k1c3 }
/-- com/example/ispol/ispol/scoring/LabelOfPinLaw -/
def k1 : Class := { plain "com/example/ispol/ispol/scoring/LabelOfPinLaw" (some 0) with
  accessFlags := 49
  interfaces := #[]
  cf := some (fileOf pool1 33 #[] #[{ accessFlags := 1, nameIndex := 5, descriptorIndex := 6, attributes := #[] }, { accessFlags := 9, nameIndex := 63, descriptorIndex := 64, attributes := #[] }, { accessFlags := 10, nameIndex := 36, descriptorIndex := 37, attributes := #[] }, { accessFlags := 10, nameIndex := 40, descriptorIndex := 41, attributes := #[] }] 49 2 #[] #[])
  fields := #[]
  methods := #[k1m0, k1m1, k1m2, k1m3]
  instanceTypes := #[]
  staticTypes := #[]
  resolved := Array.replicate 70 none
  statics := none }

def pool2 : Array CpInfo := pool [(1, .class_ 2), (0, u "java/io/Serializable"), (0, .class_ 4), (0, u "java/lang/Object")] 2

/-- java/io/Serializable -/
def k2 : Class := { plain "java/io/Serializable" (some 0) with
  accessFlags := 1537
  interfaces := #[]
  cf := some (fileOf pool2 1 #[] #[] 1537 3 #[] #[])
  fields := #[]
  methods := #[]
  instanceTypes := #[]
  staticTypes := #[]
  resolved := Array.replicate 7 none
  statics := none }

def pool3 : Array CpInfo := pool [(1, .class_ 2), (0, u "java/lang/Comparable"), (0, .class_ 4), (0, u "java/lang/Object")] 7

/-- java/lang/Comparable -/
def k3 : Class := { plain "java/lang/Comparable" (some 0) with
  accessFlags := 1537
  interfaces := #[]
  cf := some (fileOf pool3 1 #[] #[] 1537 3 #[] #[])
  fields := #[]
  methods := #[]
  instanceTypes := #[]
  staticTypes := #[]
  resolved := Array.replicate 12 none
  statics := none }

def pool4 : Array CpInfo := pool [(2, .class_ 4), (1, u "java/lang/CharSequence"), (42, .class_ 48), (0, u "java/lang/CharSequence$1CodePointIterator"), (10, .class_ 60), (0, u "java/lang/CharSequence$1CharIterator"), (5, .class_ 67), (0, u "java/lang/Object")] 63

/-- java/lang/CharSequence -/
def k4 : Class := { plain "java/lang/CharSequence" (some 0) with
  accessFlags := 1537
  interfaces := #[]
  cf := some (fileOf pool4 2 #[.nestMembers #[47, 59]] #[] 1537 66 #[] #[])
  fields := #[]
  methods := #[]
  instanceTypes := #[]
  staticTypes := #[]
  resolved := Array.replicate 131 none
  statics := none }

def pool5 : Array CpInfo := pool [(1, .class_ 2), (0, u "java/lang/constant/Constable"), (0, .class_ 4), (0, u "java/lang/Object")] 6

/-- java/lang/constant/Constable -/
def k5 : Class := { plain "java/lang/constant/Constable" (some 0) with
  accessFlags := 1537
  interfaces := #[]
  cf := some (fileOf pool5 1 #[] #[] 1537 3 #[] #[])
  fields := #[]
  methods := #[]
  instanceTypes := #[]
  staticTypes := #[]
  resolved := Array.replicate 11 none
  statics := none }

def pool6 : Array CpInfo := pool [(1, .class_ 2), (0, u "java/lang/constant/ConstantDesc"), (0, .class_ 4), (0, u "java/lang/Object")] 32

/-- java/lang/constant/ConstantDesc -/
def k6 : Class := { plain "java/lang/constant/ConstantDesc" (some 0) with
  accessFlags := 1537
  interfaces := #[]
  cf := some (fileOf pool6 1 #[] #[] 1537 3 #[] #[])
  fields := #[]
  methods := #[]
  instanceTypes := #[]
  staticTypes := #[]
  resolved := Array.replicate 37 none
  statics := none }

def pool7 : Array CpInfo := pool [(1, .methodref 2 3), (0, .class_ 4), (0, .nameAndType 5 6), (0, u "java/lang/Object"), (0, u "<init>"), (0, u "()V"), (2, .fieldref 10 11), (0, .class_ 12), (0, .nameAndType 13 14), (0, u "java/lang/String"), (0, u "value"), (0, u "[B"), (0, .fieldref 10 16), (0, .nameAndType 17 18), (0, u "coder"), (0, u "B"), (2, u "hash"), (0, u "I"), (2, u "hashIsZero"), (0, u "Z"), (0, .methodref 10 28), (0, .nameAndType 5 29), (0, u "([CIILjava/lang/Void;)V"), (8, .fieldref 10 39), (0, .nameAndType 40 26), (0, u "COMPACT_STRINGS"), (1, .class_ 44), (1, u "java/lang/StringUTF16"), (0, u "compress"), (1, .methodref 42 48), (0, .nameAndType 49 50), (0, u "coderFromArrayLen"), (0, u "([BI)B"), (56, .class_ 109), (1, u "java/lang/StringLatin1"), (32, u "()Z"), (34, .methodref 42 178), (0, .nameAndType 45 179), (0, u "([CII)[B"), (154, u "()I"), (0, .methodref 10 336), (0, .nameAndType 17 337), (0, u "()B"), (25, u "([BI)C"), (27, u "(II)V"), (35, u "(I)C"), (64, .methodref 10 493), (0, .nameAndType 494 142), (0, u "isLatin1"), (0, .methodref 107 496), (0, .nameAndType 497 363), (0, u "charAt"), (3, u "checkIndex"), (5, u "length"), (33, .methodref 107 542), (0, .nameAndType 543 544), (0, u "equals"), (0, u "([B[B)Z"), (28, u "(Ljava/lang/Object;)Z"), (1, .class_ 576), (0, u "java/lang/CharSequence"), (22, u "CASE_INSENSITIVE_ORDER"), (0, u "Ljava/util/Comparator;"), (409, u "([C)V"), (42, .fieldref 1054 1055), (0, .class_ 1056), (0, .nameAndType 1057 1058), (0, u "jdk/internal/util/Preconditions"), (0, u "SIOOBE_FORMATTER"), (0, u "Ljava/util/function/BiFunction;"), (0, .methodref 1054 1060), (0, .nameAndType 501 1061), (0, u "(IILjava/util/function/BiFunction;)I"), (39, u "serialPersistentFields"), (0, u "[Ljava/io/ObjectStreamField;"), (0, .class_ 1104), (0, u "java/lang/String$CaseInsensitiveComparator"), (1, .class_ 1107), (0, u "java/io/Serializable"), (0, .class_ 1109), (0, u "java/lang/Comparable"), (0, .class_ 1111), (0, u "java/lang/constant/Constable"), (0, .class_ 1113), (0, u "java/lang/constant/ConstantDesc"), (2, u "serialVersionUID"), (0, u "J"), (3, u "REPL"), (0, u "C"), (2, u "LATIN1"), (1, u "UTF16")] 323

def k7m0 : Method := { name := "<init>", desc := "()V", sig := { parameters := [], returnType := none }, accessFlags := 1, code := none }
def k7c1 : Code := { maxStack := 5, maxLocals := 2, code := jdk_42_method_3_code, exceptionTable := #[], attributes := #[] }
def k7m1 : Method := { name := "<init>", desc := "([C)V", sig := { parameters := [(.array .char)], returnType := none }, accessFlags := 1, code := some k7c1 }
def k7c2 : Code := { maxStack := 2, maxLocals := 1, code := jdk_42_method_54_code, exceptionTable := #[], attributes := #[] }
def k7m2 : Method := { name := "length", desc := "()I", sig := { parameters := [], returnType := some .int }, accessFlags := 1, code := some k7c2 }
def k7c3 : Code := { maxStack := 2, maxLocals := 2, code := jdk_42_method_56_code, exceptionTable := #[], attributes := #[] }
def k7m3 : Method := { name := "charAt", desc := "(I)C", sig := { parameters := [.int], returnType := some .char }, accessFlags := 1, code := some k7c3 }
def k7c4 : Code := { maxStack := 2, maxLocals := 3, code := jdk_42_method_66_code, exceptionTable := #[], attributes := #[] }
def k7m4 : Method := { name := "equals", desc := "(Ljava/lang/Object;)Z", sig := { parameters := [(.object "java/lang/Object")], returnType := some .boolean }, accessFlags := 1, code := some k7c4 }
def k7c5 : Code := { maxStack := 4, maxLocals := 6, code := jdk_42_method_149_code, exceptionTable := #[], attributes := #[] }
def k7m5 : Method := { name := "<init>", desc := "([CIILjava/lang/Void;)V", sig := { parameters := [(.array .char), .int, .int, (.object "java/lang/Void")], returnType := none }, accessFlags := 2, code := some k7c5 }
def k7c6 : Code := { maxStack := 1, maxLocals := 1, code := jdk_42_method_152_code, exceptionTable := #[], attributes := #[] }
def k7m6 : Method := { name := "coder", desc := "()B", sig := { parameters := [], returnType := some .byte }, accessFlags := 0, code := some k7c6 }
def k7c7 : Code := { maxStack := 1, maxLocals := 1, code := jdk_42_method_154_code, exceptionTable := #[], attributes := #[] }
def k7m7 : Method := { name := "isLatin1", desc := "()Z", sig := { parameters := [], returnType := some .boolean }, accessFlags := 0, code := some k7c7 }
def k7c8 : Code := { maxStack := 3, maxLocals := 2, code := jdk_42_method_155_code, exceptionTable := #[], attributes := #[] }
def k7m8 : Method := { name := "checkIndex", desc := "(II)V", sig := { parameters := [.int, .int], returnType := none }, accessFlags := 8, code := some k7c8 }
/-- java/lang/String -/
def k7 : Class := { plain "java/lang/String" (some 0) with
  accessFlags := 49
  interfaces := #[2, 3, 4, 5, 6]
  cf := some (fileOf pool7 10 #[.nestMembers #[1103]] #[{ accessFlags := 1, nameIndex := 5, descriptorIndex := 6, attributes := #[] }, { accessFlags := 1, nameIndex := 5, descriptorIndex := 1010, attributes := #[] }, { accessFlags := 1, nameIndex := 507, descriptorIndex := 334, attributes := #[] }, { accessFlags := 1, nameIndex := 497, descriptorIndex := 427, attributes := #[] }, { accessFlags := 1, nameIndex := 543, descriptorIndex := 573, attributes := #[] }, { accessFlags := 2, nameIndex := 5, descriptorIndex := 29, attributes := #[] }, { accessFlags := 0, nameIndex := 17, descriptorIndex := 337, attributes := #[] }, { accessFlags := 0, nameIndex := 494, descriptorIndex := 142, attributes := #[] }, { accessFlags := 8, nameIndex := 501, descriptorIndex := 391, attributes := #[] }] 49 2 #[1106, 1108, 575, 1110, 1112] #[{ accessFlags := 18, nameIndex := 13, descriptorIndex := 14, attributes := #[] }, { accessFlags := 18, nameIndex := 17, descriptorIndex := 18, attributes := #[] }, { accessFlags := 2, nameIndex := 21, descriptorIndex := 22, attributes := #[] }, { accessFlags := 2, nameIndex := 25, descriptorIndex := 26, attributes := #[] }, { accessFlags := 26, nameIndex := 1116, descriptorIndex := 1117, attributes := #[] }, { accessFlags := 24, nameIndex := 40, descriptorIndex := 26, attributes := #[] }, { accessFlags := 26, nameIndex := 1101, descriptorIndex := 1102, attributes := #[] }, { accessFlags := 26, nameIndex := 1121, descriptorIndex := 1122, attributes := #[] }, { accessFlags := 25, nameIndex := 599, descriptorIndex := 600, attributes := #[] }, { accessFlags := 24, nameIndex := 1125, descriptorIndex := 18, attributes := #[] }, { accessFlags := 24, nameIndex := 1127, descriptorIndex := 18, attributes := #[] }])
  fields := #[{ name := "value", type := (.array .byte), accessFlags := 18, slot := 0, constantValue := 0 }, { name := "coder", type := .byte, accessFlags := 18, slot := 1, constantValue := 0 }, { name := "hash", type := .int, accessFlags := 2, slot := 2, constantValue := 0 }, { name := "hashIsZero", type := .boolean, accessFlags := 2, slot := 3, constantValue := 0 }, { name := "serialVersionUID", type := .long, accessFlags := 26, slot := 0, constantValue := 0 }, { name := "COMPACT_STRINGS", type := .boolean, accessFlags := 24, slot := 1, constantValue := 0 }, { name := "serialPersistentFields", type := (.array (.object "java/io/ObjectStreamField")), accessFlags := 26, slot := 2, constantValue := 0 }, { name := "REPL", type := .char, accessFlags := 26, slot := 3, constantValue := 0 }, { name := "CASE_INSENSITIVE_ORDER", type := (.object "java/util/Comparator"), accessFlags := 25, slot := 4, constantValue := 0 }, { name := "LATIN1", type := .byte, accessFlags := 24, slot := 5, constantValue := 0 }, { name := "UTF16", type := .byte, accessFlags := 24, slot := 6, constantValue := 0 }]
  methods := #[k7m0, k7m1, k7m2, k7m3, k7m4, k7m5, k7m6, k7m7, k7m8]
  instanceTypes := #[(.array .byte), .byte, .int, .boolean]
  staticTypes := #[.long, .boolean, (.array (.object "java/io/ObjectStreamField")), .char, (.object "java/util/Comparator"), .byte, .byte]
  resolved := Array.replicate 1451 none
  statics := some 0 }

def pool8 : Array CpInfo := pool [(2, .class_ 4), (1, u "java/lang/Enum"), (0, u "name"), (0, u "Ljava/lang/String;"), (2, u "ordinal"), (0, u "I"), (1, .class_ 14), (1, u "java/lang/Object"), (4, u "hash"), (86, .class_ 108), (1, u "java/lang/Enum$EnumDesc"), (2, .class_ 112), (0, u "java/lang/constant/Constable"), (0, .class_ 114), (0, u "java/lang/Comparable"), (0, .class_ 116), (0, u "java/io/Serializable")] 87

/-- java/lang/Enum -/
def k8 : Class := { plain "java/lang/Enum" (some 0) with
  accessFlags := 1057
  interfaces := #[5, 3, 2]
  cf := some (fileOf pool8 2 #[.nestMembers #[106]] #[] 1057 12 #[111, 113, 115] #[{ accessFlags := 18, nameIndex := 5, descriptorIndex := 6, attributes := #[] }, { accessFlags := 18, nameIndex := 9, descriptorIndex := 10, attributes := #[] }, { accessFlags := 2, nameIndex := 19, descriptorIndex := 10, attributes := #[] }])
  fields := #[{ name := "name", type := (.object "java/lang/String"), accessFlags := 18, slot := 0, constantValue := 0 }, { name := "ordinal", type := .int, accessFlags := 18, slot := 1, constantValue := 0 }, { name := "hash", type := .int, accessFlags := 2, slot := 2, constantValue := 0 }]
  methods := #[]
  instanceTypes := #[(.object "java/lang/String"), .int, .int]
  staticTypes := #[]
  resolved := Array.replicate 204 none
  statics := none }

def pool9 : Array CpInfo := pool [(1, .class_ 2), (0, u "com/example/ispol/ispol/scoring/Label"), (2, u "WITHHOLD"), (0, u "Lcom/example/ispol/ispol/scoring/Label;"), (2, u "DELIVER"), (2, u "DEPENDS"), (0, .fieldref 1 14), (0, .nameAndType 15 16), (0, u "$VALUES"), (0, u "[Lcom/example/ispol/ispol/scoring/Label;"), (0, .methodref 18 19), (0, .class_ 16), (0, .nameAndType 20 21), (0, u "clone"), (0, u "()Ljava/lang/Object;"), (1, .class_ 25), (1, u "java/lang/Enum"), (6, .fieldref 1 33), (0, .nameAndType 34 35), (0, u "word"), (0, u "Ljava/lang/String;"), (0, .methodref 1 37), (0, .nameAndType 38 39), (0, u "values"), (0, u "()[Lcom/example/ispol/ispol/scoring/Label;"), (0, .methodref 41 42), (0, .class_ 43), (0, .nameAndType 44 45), (0, u "java/lang/String"), (0, u "equals"), (0, u "(Ljava/lang/Object;)Z"), (17, u "(Ljava/lang/String;)Lcom/example/ispol/ispol/scoring/Label;"), (3, u "of")] 8

def k9c0 : Code := { maxStack := 1, maxLocals := 0, code := prog_20_method_1_code, exceptionTable := #[], attributes := #[] }
def k9m0 : Method := { name := "values", desc := "()[Lcom/example/ispol/ispol/scoring/Label;", sig := { parameters := [], returnType := some (.array (.object "com/example/ispol/ispol/scoring/Label")) }, accessFlags := 9, code := some k9c0 }
def k9c1 : Code := { maxStack := 2, maxLocals := 6, code := prog_20_method_4_code, exceptionTable := #[], attributes := #[] }
def k9m1 : Method := { name := "of", desc := "(Ljava/lang/String;)Lcom/example/ispol/ispol/scoring/Label;", sig := { parameters := [(.object "java/lang/String")], returnType := some (.object "com/example/ispol/ispol/scoring/Label") }, accessFlags := 8, code := some k9c1 }
/-- com/example/ispol/ispol/scoring/Label -/
def k9 : Class := { plain "com/example/ispol/ispol/scoring/Label" (some 8) with
  accessFlags := 16432
  interfaces := #[]
  cf := some (fileOf pool9 1 #[] #[{ accessFlags := 9, nameIndex := 38, descriptorIndex := 39, attributes := #[] }, { accessFlags := 8, nameIndex := 67, descriptorIndex := 63, attributes := #[] }] 16432 23 #[] #[{ accessFlags := 16409, nameIndex := 5, descriptorIndex := 6, attributes := #[] }, { accessFlags := 16409, nameIndex := 9, descriptorIndex := 6, attributes := #[] }, { accessFlags := 16409, nameIndex := 12, descriptorIndex := 6, attributes := #[] }, { accessFlags := 18, nameIndex := 34, descriptorIndex := 35, attributes := #[] }, { accessFlags := 4122, nameIndex := 15, descriptorIndex := 16, attributes := #[] }])
  fields := #[{ name := "WITHHOLD", type := (.object "com/example/ispol/ispol/scoring/Label"), accessFlags := 16409, slot := 0, constantValue := 0 }, { name := "DELIVER", type := (.object "com/example/ispol/ispol/scoring/Label"), accessFlags := 16409, slot := 1, constantValue := 0 }, { name := "DEPENDS", type := (.object "com/example/ispol/ispol/scoring/Label"), accessFlags := 16409, slot := 2, constantValue := 0 }, { name := "word", type := (.object "java/lang/String"), accessFlags := 18, slot := 3, constantValue := 0 }, { name := "$VALUES", type := (.array (.object "com/example/ispol/ispol/scoring/Label")), accessFlags := 4122, slot := 3, constantValue := 0 }]
  methods := #[k9m0, k9m1]
  instanceTypes := #[(.object "java/lang/String"), .int, .int, (.object "java/lang/String")]
  staticTypes := #[(.object "com/example/ispol/ispol/scoring/Label"), (.object "com/example/ispol/ispol/scoring/Label"), (.object "com/example/ispol/ispol/scoring/Label"), (.array (.object "com/example/ispol/ispol/scoring/Label"))]
  resolved := Array.replicate 76 none
  statics := some 1 }

def pool10 : Array CpInfo := pool [(1, .class_ 2), (0, u "java/lang/Cloneable"), (0, .class_ 4), (0, u "java/lang/Object")] 2

/-- java/lang/Cloneable -/
def k10 : Class := { plain "java/lang/Cloneable" (some 0) with
  accessFlags := 1537
  interfaces := #[]
  cf := some (fileOf pool10 1 #[] #[] 1537 3 #[] #[])
  fields := #[]
  methods := #[]
  instanceTypes := #[]
  staticTypes := #[]
  resolved := Array.replicate 7 none
  statics := none }

def pool11 : Array CpInfo := pool [(1, .class_ 2), (0, u "java/lang/String"), (1, .class_ 6), (1, u "java/lang/Object"), (0, u "<init>"), (0, u "()V"), (0, .methodref 1 10), (0, .nameAndType 11 12), (0, u "checkIndex"), (0, u "(II)V"), (1, .class_ 16), (1, u "java/lang/StringLatin1"), (36, u "([BI)C"), (67, u "$assertionsDisabled"), (0, u "Z"), (98, .class_ 223), (1, u "java/lang/StringLatin1$LinesSpliterator"), (28, u "charAt"), (28, u "equals"), (0, u "([B[B)Z"), (107, .class_ 391), (0, u "java/lang/StringLatin1$CharsSpliterator")] 3

def k11m0 : Method := { name := "<init>", desc := "()V", sig := { parameters := [], returnType := none }, accessFlags := 0, code := none }
def k11c1 : Code := { maxStack := 2, maxLocals := 2, code := jdk_43_method_2_code, exceptionTable := #[], attributes := #[] }
def k11m1 : Method := { name := "charAt", desc := "([BI)C", sig := { parameters := [(.array .byte), .int], returnType := some .char }, accessFlags := 9, code := some k11c1 }
def k11c2 : Code := { maxStack := 3, maxLocals := 3, code := jdk_43_method_13_code, exceptionTable := #[], attributes := #[] }
def k11m2 : Method := { name := "equals", desc := "([B[B)Z", sig := { parameters := [(.array .byte), (.array .byte)], returnType := some .boolean }, accessFlags := 9, code := some k11c2 }
/-- java/lang/StringLatin1 -/
def k11 : Class := { plain "java/lang/StringLatin1" (some 0) with
  accessFlags := 48
  interfaces := #[]
  cf := some (fileOf pool11 14 #[.nestMembers #[390, 221]] #[{ accessFlags := 0, nameIndex := 7, descriptorIndex := 8, attributes := #[] }, { accessFlags := 9, nameIndex := 252, descriptorIndex := 53, attributes := #[] }, { accessFlags := 9, nameIndex := 281, descriptorIndex := 282, attributes := #[] }] 48 4 #[] #[{ accessFlags := 4120, nameIndex := 121, descriptorIndex := 122, attributes := #[] }])
  fields := #[{ name := "$assertionsDisabled", type := .boolean, accessFlags := 4120, slot := 0, constantValue := 0 }]
  methods := #[k11m0, k11m1, k11m2]
  instanceTypes := #[]
  staticTypes := #[.boolean]
  resolved := Array.replicate 395 none
  statics := none }

def pool12 : Array CpInfo := pool [(1, .class_ 2), (0, u "java/lang/Math"), (1, .class_ 6), (1, u "java/lang/Object"), (0, u "<init>"), (0, u "()V"), (89, .class_ 100), (1, u "java/lang/Math$RandomNumberGeneratorHolder"), (71, u "negativeZeroFloatBits"), (0, u "J"), (2, u "negativeZeroDoubleBits"), (24, u "min"), (43, u "$assertionsDisabled"), (0, u "Z"), (88, u "(II)I"), (2, u "twoToTheDoubleScaleDown"), (0, u "D"), (4, u "twoToTheDoubleScaleUp"), (9, u "E"), (3, u "PI"), (2, u "TAU"), (2, u "DEGREES_TO_RADIANS"), (0, u "RADIANS_TO_DEGREES")] 94

def k12m0 : Method := { name := "<init>", desc := "()V", sig := { parameters := [], returnType := none }, accessFlags := 2, code := none }
def k12c1 : Code := { maxStack := 2, maxLocals := 2, code := jdk_29_method_69_code, exceptionTable := #[], attributes := #[] }
def k12m1 : Method := { name := "min", desc := "(II)I", sig := { parameters := [.int, .int], returnType := some .int }, accessFlags := 9, code := some k12c1 }
/-- java/lang/Math -/
def k12 : Class := { plain "java/lang/Math" (some 0) with
  accessFlags := 49
  interfaces := #[]
  cf := some (fileOf pool12 1 #[.nestMembers #[98]] #[{ accessFlags := 2, nameIndex := 7, descriptorIndex := 8, attributes := #[] }, { accessFlags := 9, nameIndex := 201, descriptorIndex := 335, attributes := #[] }] 49 4 #[] #[{ accessFlags := 25, nameIndex := 354, descriptorIndex := 339, attributes := #[] }, { accessFlags := 25, nameIndex := 358, descriptorIndex := 339, attributes := #[] }, { accessFlags := 25, nameIndex := 361, descriptorIndex := 339, attributes := #[] }, { accessFlags := 26, nameIndex := 364, descriptorIndex := 339, attributes := #[] }, { accessFlags := 26, nameIndex := 365, descriptorIndex := 339, attributes := #[] }, { accessFlags := 26, nameIndex := 172, descriptorIndex := 173, attributes := #[] }, { accessFlags := 26, nameIndex := 176, descriptorIndex := 173, attributes := #[] }, { accessFlags := 8, nameIndex := 344, descriptorIndex := 339, attributes := #[] }, { accessFlags := 8, nameIndex := 338, descriptorIndex := 339, attributes := #[] }, { accessFlags := 4120, nameIndex := 245, descriptorIndex := 246, attributes := #[] }])
  fields := #[{ name := "E", type := .double, accessFlags := 25, slot := 0, constantValue := 0 }, { name := "PI", type := .double, accessFlags := 25, slot := 1, constantValue := 0 }, { name := "TAU", type := .double, accessFlags := 25, slot := 2, constantValue := 0 }, { name := "DEGREES_TO_RADIANS", type := .double, accessFlags := 26, slot := 3, constantValue := 0 }, { name := "RADIANS_TO_DEGREES", type := .double, accessFlags := 26, slot := 4, constantValue := 0 }, { name := "negativeZeroFloatBits", type := .long, accessFlags := 26, slot := 5, constantValue := 0 }, { name := "negativeZeroDoubleBits", type := .long, accessFlags := 26, slot := 6, constantValue := 0 }, { name := "twoToTheDoubleScaleUp", type := .double, accessFlags := 8, slot := 7, constantValue := 0 }, { name := "twoToTheDoubleScaleDown", type := .double, accessFlags := 8, slot := 8, constantValue := 0 }, { name := "$assertionsDisabled", type := .boolean, accessFlags := 4120, slot := 9, constantValue := 0 }]
  methods := #[k12m0, k12m1]
  instanceTypes := #[]
  staticTypes := #[.double, .double, .double, .double, .double, .long, .long, .double, .double, .boolean]
  resolved := Array.replicate 460 none
  statics := none }

def pool13 : Array CpInfo := pool [(2, .class_ 4), (1, u "java/lang/Object"), (0, u "<init>"), (0, u "()V"), (17, .class_ 26), (1, u "jdk/internal/util/Preconditions"), (6, u "checkIndex"), (21, .class_ 56), (0, u "jdk/internal/util/Preconditions$4"), (57, .class_ 115), (0, u "jdk/internal/util/Preconditions$1"), (7, u "SIOOBE_FORMATTER"), (0, u "Ljava/util/function/BiFunction;"), (0, .class_ 126), (0, u "jdk/internal/util/Preconditions$2"), (3, u "AIOOBE_FORMATTER"), (0, .class_ 132), (0, u "jdk/internal/util/Preconditions$3"), (3, u "IOOBE_FORMATTER"), (41, u "(IILjava/util/function/BiFunction;)I")] 15

def k13m0 : Method := { name := "<init>", desc := "()V", sig := { parameters := [], returnType := none }, accessFlags := 1, code := none }
def k13c1 : Code := { maxStack := 3, maxLocals := 3, code := jdk_41_method_11_code, exceptionTable := #[], attributes := #[] }
def k13m1 : Method := { name := "checkIndex", desc := "(IILjava/util/function/BiFunction;)I", sig := { parameters := [.int, .int, (.object "java/util/function/BiFunction")], returnType := some .int }, accessFlags := 9, code := some k13c1 }
/-- jdk/internal/util/Preconditions -/
def k13 : Class := { plain "jdk/internal/util/Preconditions" (some 0) with
  accessFlags := 33
  interfaces := #[]
  cf := some (fileOf pool13 24 #[.nestMembers #[55, 131, 125, 114]] #[{ accessFlags := 1, nameIndex := 5, descriptorIndex := 6, attributes := #[] }, { accessFlags := 9, nameIndex := 33, descriptorIndex := 178, attributes := #[] }] 33 2 #[] #[{ accessFlags := 25, nameIndex := 123, descriptorIndex := 124, attributes := #[] }, { accessFlags := 25, nameIndex := 130, descriptorIndex := 124, attributes := #[] }, { accessFlags := 25, nameIndex := 136, descriptorIndex := 124, attributes := #[] }])
  fields := #[{ name := "SIOOBE_FORMATTER", type := (.object "java/util/function/BiFunction"), accessFlags := 25, slot := 0, constantValue := 0 }, { name := "AIOOBE_FORMATTER", type := (.object "java/util/function/BiFunction"), accessFlags := 25, slot := 1, constantValue := 0 }, { name := "IOOBE_FORMATTER", type := (.object "java/util/function/BiFunction"), accessFlags := 25, slot := 2, constantValue := 0 }]
  methods := #[k13m0, k13m1]
  instanceTypes := #[]
  staticTypes := #[(.object "java/util/function/BiFunction"), (.object "java/util/function/BiFunction"), (.object "java/util/function/BiFunction")]
  resolved := Array.replicate 194 none
  statics := some 2 }

def pool14 : Array CpInfo := pool [(6, .class_ 8), (1, u "java/lang/Object"), (0, u "<init>"), (0, u "()V"), (1, .class_ 14), (1, u "java/lang/StringUTF16"), (31, u "$assertionsDisabled"), (0, u "Z"), (13, u "HI_BYTE_SHIFT"), (0, u "I"), (2, u "LO_BYTE_SHIFT"), (49, .methodref 12 116), (0, .nameAndType 117 118), (0, u "compress"), (0, u "([CI[BII)I"), (3, u "([CII)[B"), (138, u "coderFromArrayLen"), (0, u "([BI)B"), (106, .class_ 371), (1, u "java/lang/StringUTF16$LinesSpliterator"), (58, u "MAX_LENGTH"), (196, .class_ 628), (0, u "java/lang/StringUTF16$CodePointsSpliterator"), (0, .class_ 630), (0, u "java/lang/StringUTF16$CharsSpliterator")] 4

def k14m0 : Method := { name := "<init>", desc := "()V", sig := { parameters := [], returnType := none }, accessFlags := 0, code := none }
def k14c1 : Code := { maxStack := 2, maxLocals := 2, code := jdk_52_method_15_code, exceptionTable := #[], attributes := #[] }
def k14m1 : Method := { name := "coderFromArrayLen", desc := "([BI)B", sig := { parameters := [(.array .byte), .int], returnType := some .byte }, accessFlags := 8, code := some k14c1 }
def k14c2 : Code := { maxStack := 5, maxLocals := 6, code := jdk_52_method_16_code, exceptionTable := #[], attributes := #[] }
def k14m2 : Method := { name := "compress", desc := "([CII)[B", sig := { parameters := [(.array .char), .int, .int], returnType := some (.array .byte) }, accessFlags := 9, code := some k14c2 }
def k14c3 : Code := { maxStack := 3, maxLocals := 7, code := jdk_52_method_21_code, exceptionTable := #[], attributes := #[] }
def k14m3 : Method := { name := "compress", desc := "([CI[BII)I", sig := { parameters := [(.array .char), .int, (.array .byte), .int, .int], returnType := some .int }, accessFlags := 9, code := some k14c3 }
/-- java/lang/StringUTF16 -/
def k14 : Class := { plain "java/lang/StringUTF16" (some 0) with
  accessFlags := 48
  interfaces := #[]
  cf := some (fileOf pool14 12 #[.nestMembers #[627, 629, 369]] #[{ accessFlags := 0, nameIndex := 9, descriptorIndex := 10, attributes := #[] }, { accessFlags := 8, nameIndex := 261, descriptorIndex := 262, attributes := #[] }, { accessFlags := 9, nameIndex := 117, descriptorIndex := 122, attributes := #[] }, { accessFlags := 9, nameIndex := 117, descriptorIndex := 118, attributes := #[] }] 48 6 #[] #[{ accessFlags := 26, nameIndex := 61, descriptorIndex := 62, attributes := #[] }, { accessFlags := 26, nameIndex := 65, descriptorIndex := 62, attributes := #[] }, { accessFlags := 24, nameIndex := 430, descriptorIndex := 62, attributes := #[] }, { accessFlags := 4120, nameIndex := 46, descriptorIndex := 47, attributes := #[] }])
  fields := #[{ name := "HI_BYTE_SHIFT", type := .int, accessFlags := 26, slot := 0, constantValue := 0 }, { name := "LO_BYTE_SHIFT", type := .int, accessFlags := 26, slot := 1, constantValue := 0 }, { name := "MAX_LENGTH", type := .int, accessFlags := 24, slot := 2, constantValue := 0 }, { name := "$assertionsDisabled", type := .boolean, accessFlags := 4120, slot := 3, constantValue := 0 }]
  methods := #[k14m0, k14m1, k14m2, k14m3]
  instanceTypes := #[]
  staticTypes := #[.int, .int, .int, .boolean]
  resolved := Array.replicate 635 none
  statics := none }

def pool15 : Array CpInfo := pool [(9, u "<init>"), (6, .class_ 18), (1, u "java/lang/Object"), (0, u "()V"), (1, .class_ 23), (1, u "jdk/internal/util/ArraysSupport"), (0, u "LOG2_ARRAY_LONG_INDEX_SCALE"), (0, u "I"), (2, u "U"), (0, u "Ljdk/internal/misc/Unsafe;"), (8, u "BIG_ENDIAN"), (0, u "Z"), (8, u "LOG2_BYTE_BIT_SIZE"), (4, u "LOG2_ARRAY_INT_INDEX_SCALE"), (54, u "JLA"), (0, u "Ljdk/internal/access/JavaLangAccess;"), (11, u "LOG2_ARRAY_BOOLEAN_INDEX_SCALE"), (9, u "LOG2_ARRAY_BYTE_INDEX_SCALE"), (5, u "LOG2_ARRAY_CHAR_INDEX_SCALE"), (5, u "LOG2_ARRAY_SHORT_INDEX_SCALE"), (18, u "LOG2_ARRAY_FLOAT_INDEX_SCALE"), (24, u "LOG2_ARRAY_DOUBLE_INDEX_SCALE"), (89, u "T_BOOLEAN"), (2, u "T_CHAR"), (1, u "T_FLOAT"), (1, u "T_DOUBLE"), (1, u "T_BYTE"), (1, u "T_SHORT"), (1, u "T_INT"), (1, u "T_LONG"), (1, u "SOFT_MAX_ARRAY_LENGTH")] 83

def k15m0 : Method := { name := "<init>", desc := "()V", sig := { parameters := [], returnType := none }, accessFlags := 2, code := none }
/-- jdk/internal/util/ArraysSupport -/
def k15 : Class := { plain "jdk/internal/util/ArraysSupport" (some 0) with
  accessFlags := 33
  interfaces := #[]
  cf := some (fileOf pool15 21 #[] #[{ accessFlags := 2, nameIndex := 9, descriptorIndex := 19, attributes := #[] }] 33 16 #[] #[{ accessFlags := 24, nameIndex := 28, descriptorIndex := 29, attributes := #[] }, { accessFlags := 26, nameIndex := 38, descriptorIndex := 39, attributes := #[] }, { accessFlags := 25, nameIndex := 121, descriptorIndex := 25, attributes := #[] }, { accessFlags := 25, nameIndex := 131, descriptorIndex := 25, attributes := #[] }, { accessFlags := 25, nameIndex := 137, descriptorIndex := 25, attributes := #[] }, { accessFlags := 25, nameIndex := 143, descriptorIndex := 25, attributes := #[] }, { accessFlags := 25, nameIndex := 53, descriptorIndex := 25, attributes := #[] }, { accessFlags := 25, nameIndex := 24, descriptorIndex := 25, attributes := #[] }, { accessFlags := 25, nameIndex := 162, descriptorIndex := 25, attributes := #[] }, { accessFlags := 25, nameIndex := 187, descriptorIndex := 25, attributes := #[] }, { accessFlags := 26, nameIndex := 48, descriptorIndex := 25, attributes := #[] }, { accessFlags := 25, nameIndex := 277, descriptorIndex := 25, attributes := #[] }, { accessFlags := 25, nameIndex := 280, descriptorIndex := 25, attributes := #[] }, { accessFlags := 25, nameIndex := 282, descriptorIndex := 25, attributes := #[] }, { accessFlags := 25, nameIndex := 284, descriptorIndex := 25, attributes := #[] }, { accessFlags := 25, nameIndex := 286, descriptorIndex := 25, attributes := #[] }, { accessFlags := 25, nameIndex := 288, descriptorIndex := 25, attributes := #[] }, { accessFlags := 25, nameIndex := 290, descriptorIndex := 25, attributes := #[] }, { accessFlags := 25, nameIndex := 292, descriptorIndex := 25, attributes := #[] }, { accessFlags := 26, nameIndex := 108, descriptorIndex := 109, attributes := #[] }, { accessFlags := 25, nameIndex := 294, descriptorIndex := 25, attributes := #[] }])
  fields := #[{ name := "U", type := (.object "jdk/internal/misc/Unsafe"), accessFlags := 24, slot := 0, constantValue := 0 }, { name := "BIG_ENDIAN", type := .boolean, accessFlags := 26, slot := 1, constantValue := 0 }, { name := "LOG2_ARRAY_BOOLEAN_INDEX_SCALE", type := .int, accessFlags := 25, slot := 2, constantValue := 0 }, { name := "LOG2_ARRAY_BYTE_INDEX_SCALE", type := .int, accessFlags := 25, slot := 3, constantValue := 0 }, { name := "LOG2_ARRAY_CHAR_INDEX_SCALE", type := .int, accessFlags := 25, slot := 4, constantValue := 0 }, { name := "LOG2_ARRAY_SHORT_INDEX_SCALE", type := .int, accessFlags := 25, slot := 5, constantValue := 0 }, { name := "LOG2_ARRAY_INT_INDEX_SCALE", type := .int, accessFlags := 25, slot := 6, constantValue := 0 }, { name := "LOG2_ARRAY_LONG_INDEX_SCALE", type := .int, accessFlags := 25, slot := 7, constantValue := 0 }, { name := "LOG2_ARRAY_FLOAT_INDEX_SCALE", type := .int, accessFlags := 25, slot := 8, constantValue := 0 }, { name := "LOG2_ARRAY_DOUBLE_INDEX_SCALE", type := .int, accessFlags := 25, slot := 9, constantValue := 0 }, { name := "LOG2_BYTE_BIT_SIZE", type := .int, accessFlags := 26, slot := 10, constantValue := 0 }, { name := "T_BOOLEAN", type := .int, accessFlags := 25, slot := 11, constantValue := 0 }, { name := "T_CHAR", type := .int, accessFlags := 25, slot := 12, constantValue := 0 }, { name := "T_FLOAT", type := .int, accessFlags := 25, slot := 13, constantValue := 0 }, { name := "T_DOUBLE", type := .int, accessFlags := 25, slot := 14, constantValue := 0 }, { name := "T_BYTE", type := .int, accessFlags := 25, slot := 15, constantValue := 0 }, { name := "T_SHORT", type := .int, accessFlags := 25, slot := 16, constantValue := 0 }, { name := "T_INT", type := .int, accessFlags := 25, slot := 17, constantValue := 0 }, { name := "T_LONG", type := .int, accessFlags := 25, slot := 18, constantValue := 0 }, { name := "JLA", type := (.object "jdk/internal/access/JavaLangAccess"), accessFlags := 26, slot := 19, constantValue := 0 }, { name := "SOFT_MAX_ARRAY_LENGTH", type := .int, accessFlags := 25, slot := 20, constantValue := 0 }]
  methods := #[k15m0]
  instanceTypes := #[]
  staticTypes := #[(.object "jdk/internal/misc/Unsafe"), .boolean, .int, .int, .int, .int, .int, .int, .int, .int, .int, .int, .int, .int, .int, .int, .int, .int, .int, (.object "jdk/internal/access/JavaLangAccess"), .int]
  resolved := Array.replicate 378 none
  statics := none }

/-- the primitive byte -/
def k16 : Class := { plain "byte" none with kind := .primitive 'B', accessFlags := 0x411 }
/-- [B -/
def k17 : Class := { plain "[B" (some 0) with kind := .array 16 .byte, interfaces := #[10, 2], accessFlags := 1041 }

/-- the primitive char -/
def k18 : Class := { plain "char" none with kind := .primitive 'C', accessFlags := 0x411 }
/-- [C -/
def k19 : Class := { plain "[C" (some 0) with kind := .array 18 .char, interfaces := #[10, 2], accessFlags := 1041 }

/-- the primitive int -/
def k20 : Class := { plain "int" none with kind := .primitive 'I', accessFlags := 0x411 }
/-- [I -/
def k21 : Class := { plain "[I" (some 0) with kind := .array 20 .int, interfaces := #[10, 2], accessFlags := 1041 }

/-- [Lcom/example/ispol/ispol/scoring/Label; -/
def k22 : Class := { plain "[Lcom/example/ispol/ispol/scoring/Label;" (some 0) with kind := .array 9 (.object "com/example/ispol/ispol/scoring/Label"), interfaces := #[10, 2], accessFlags := 1041 }

def heap : Heap := #[{ cls := 7, slots := #[.long 0, .int 1, .null, .int 0, .null, .int 0, .int 0], vm := .statics 7 },
  { cls := 9, slots := #[.ref 4, .ref 5, .ref 6, .ref 3], vm := .statics 9 },
  { cls := 13, slots := #[.null, .null, .null], vm := .statics 13 },
  { cls := 22, slots := #[.ref 4, .ref 5, .ref 6], vm := .none },
  { cls := 9, slots := #[.null, .int 0, .int 0, .ref 7], vm := .none },
  { cls := 9, slots := #[.null, .int 1, .int 0, .ref 8], vm := .none },
  { cls := 9, slots := #[.null, .int 2, .int 0, .ref 9], vm := .none },
  { cls := 7, slots := #[.ref 10, .int 0, .int 0, .int 0], vm := .none },
  { cls := 7, slots := #[.ref 11, .int 0, .int 0, .int 0], vm := .none },
  { cls := 7, slots := #[.ref 12, .int 0, .int 0, .int 0], vm := .none },
  { cls := 17, slots := #[.int 119, .int 105, .int 116, .int 104, .int 104, .int 111, .int 108, .int 100], vm := .none },
  { cls := 17, slots := #[.int 100, .int 101, .int 108, .int 105, .int 118, .int 101, .int 114], vm := .none },
  { cls := 17, slots := #[.int 100, .int 101, .int 112, .int 101, .int 110, .int 100, .int 115], vm := .none }]
def classes : Array Class := #[k0, k1, k2, k3, k4, k5, k6, k7, k8, k9, k10, k11, k12, k13, k14, k15, k16, k17, k18, k19, k20, k21, k22]
def interned : List (Array UInt16 × Addr) := []
def slotsUsed : Nat := 63
def theMethod : MethodId := ⟨1, 1⟩
def args0 : Array Value := #[.int 0, .int 0, .int 0, .int 0]
def aboutOver (below : List Frame) : State where
  vm := { classes := classes, interned := interned.toArray }
  heap := heap
  slotsUsed := slotsUsed
  threads := #[{ frames := .invoking theMethod args0 :: below }]
def below0 : List Frame := [.native { method := ⟨0, 0⟩, args := #[] }]
def about1 : State := aboutOver below0
def p0 : Program := .bare "" "" ""
def e0 : Env := launch0.env 0 0 0
theorem w_frames : about1.frames = Frame.invoking theMethod args0 :: below0 := rfl
set_option maxRecDepth 65536 in
theorem w_args : argsFit about1.vm theMethod args0 = true := by decide +kernel
set_option maxRecDepth 65536 in
theorem w_heap : heapFits about1 = true := by decide +kernel
set_option maxRecDepth 65536 in
theorem w_runnable : about1.curStatus? = some .runnable := by decide +kernel
set_option maxRecDepth 65536 in
theorem w_alone : about1.alone = true := by decide +kernel
set_option maxRecDepth 65536 in
theorem w_named : about1.methodNamed? x = some theMethod := by decide +kernel
set_option maxRecDepth 65536 in
theorem w_hears : about1.hears theMethod below0 = true := by decide +kernel
set_option maxRecDepth 65536 in
theorem w_ripe : about1.ripe theMethod args0 below0 = true := by decide +kernel
theorem w_running : about1.status = .running := rfl
set_option maxRecDepth 65536 in
theorem w_room : about1.hasRoom e0.platform room_1 = true :=
  launch0.hasRoom_least _ room_1 (by decide +kernel) (by decide +kernel) (by decide +kernel) (by decide +kernel) (by decide +kernel) (by decide +kernel)
theorem allAtoms_all (ts : List Jvm.Cond) (a : Array Jvm.Value) (st : Jvm.State) : (allAtoms ts).before a st = ts.all (fun c => c.before a st) := by
  induction ts with
  | nil => rfl
  | cons c t ih =>
    show (Jvm.Cond.and c (allAtoms t)).before a st = _
    rw [Jvm.Cond.before_and, ih, List.all_cons]
def words1 : List Jvm.Cond := Jvm.Cond.code x code maxLocals ret :: tables_1
/-- a 'code' word, met by the world's own term for the bytes: nothing is compared byte by byte -/
theorem code_word {y : MethodName} {bytes : ByteArray} {mx : Nat} {rt : Option FieldType} {a : Array Value} {s : State} {m : MethodId} {meth : Method} {c : Code} (h1 : s.methodNamed? y = some m) (h2 : s.vm.method? m = some meth) (h3 : meth.code = some c) (h4 : c.code = bytes)
    (h5 : (c.maxLocals == mx && c.exceptionTable.isEmpty && decide (c.maxStack ≤ mostOperands) && decide (meth.sig.returnType = rt) && !meth.locks && decide (parseMethodDescriptor y.desc = some meth.sig)) = true) : (Jvm.Cond.code y bytes mx rt).before a s = true := by
  simp only [Bool.and_eq_true, beq_iff_eq, Bool.not_eq_true', decide_eq_true_eq] at h5
  obtain ⟨⟨⟨⟨⟨g1, g2⟩, g3⟩, g4⟩, g5⟩, g6⟩ := h5
  simp [Cond.before, Cond.holds, Cond.value, h1, h2, h3, h4, g1, g2, g3, g4, g5, g6]
def isCode : Jvm.Cond → Bool
  | .code _ _ _ _ => true
  | _ => false
theorem all_split {L : List Jvm.Cond} {P : Jvm.Cond → Bool} (h1 : L.all (fun c => isCode c || P c) = true) (h2 : ∀ c ∈ L.filter isCode, P c = true) : L.all P = true := by
  refine List.all_eq_true.mpr fun c hc => ?_
  have h := List.all_eq_true.mp h1 c hc
  rcases Bool.eq_false_or_eq_true (isCode c) with hi | hi
  · exact h2 c (List.mem_filter.mpr ⟨hc, hi⟩)
  · simpa [hi] using h
set_option maxRecDepth 65536 in
theorem w_c0 : (Jvm.Cond.code x code maxLocals ret).before args0 about1 = true := code_word (m := ⟨1, 1⟩) (meth := k1m1) (c := k1c1) (by decide +kernel) rfl rfl rfl (by decide +kernel)
set_option maxRecDepth 65536 in
theorem w_c1 : (Jvm.Cond.code ({ cls := "java/lang/String", name := "length", desc := "()I" } : Jvm.MethodName) jdk_42_method_54_code (1 : Nat) (Option.some Jvm.ClassFile.FieldType.int)).before args0 about1 = true := code_word (m := ⟨7, 2⟩) (meth := k7m2) (c := k7c2) (by decide +kernel) rfl rfl rfl (by decide +kernel)
set_option maxRecDepth 65536 in
theorem w_c2 : (Jvm.Cond.code ({ cls := "java/lang/String", name := "coder", desc := "()B" } : Jvm.MethodName) jdk_42_method_152_code (1 : Nat) (Option.some Jvm.ClassFile.FieldType.byte)).before args0 about1 = true := code_word (m := ⟨7, 6⟩) (meth := k7m6) (c := k7c6) (by decide +kernel) rfl rfl rfl (by decide +kernel)
set_option maxRecDepth 65536 in
theorem w_c3 : (Jvm.Cond.code ({ cls := "com/example/ispol/ispol/scoring/Label", name := "of", desc := "(Ljava/lang/String;)Lcom/example/ispol/ispol/scoring/Label;" } : Jvm.MethodName) prog_20_method_4_code (6 : Nat) (Option.some (Jvm.ClassFile.FieldType.object "com/example/ispol/ispol/scoring/Label"))).before args0 about1 = true := code_word (m := ⟨9, 1⟩) (meth := k9m1) (c := k9c1) (by decide +kernel) rfl rfl rfl (by decide +kernel)
set_option maxRecDepth 65536 in
theorem w_c4 : (Jvm.Cond.code ({ cls := "com/example/ispol/ispol/scoring/Label", name := "values", desc := "()[Lcom/example/ispol/ispol/scoring/Label;" } : Jvm.MethodName) prog_20_method_1_code (0 : Nat) (Option.some (Jvm.ClassFile.FieldType.array (Jvm.ClassFile.FieldType.object "com/example/ispol/ispol/scoring/Label")))).before args0 about1 = true := code_word (m := ⟨9, 0⟩) (meth := k9m0) (c := k9c0) (by decide +kernel) rfl rfl rfl (by decide +kernel)
set_option maxRecDepth 65536 in
theorem w_c5 : (Jvm.Cond.code ({ cls := "java/lang/String", name := "equals", desc := "(Ljava/lang/Object;)Z" } : Jvm.MethodName) jdk_42_method_66_code (3 : Nat) (Option.some Jvm.ClassFile.FieldType.boolean)).before args0 about1 = true := code_word (m := ⟨7, 4⟩) (meth := k7m4) (c := k7c4) (by decide +kernel) rfl rfl rfl (by decide +kernel)
set_option maxRecDepth 65536 in
theorem w_c6 : (Jvm.Cond.code ({ cls := "java/lang/StringLatin1", name := "equals", desc := "([B[B)Z" } : Jvm.MethodName) jdk_43_method_13_code (3 : Nat) (Option.some Jvm.ClassFile.FieldType.boolean)).before args0 about1 = true := code_word (m := ⟨11, 2⟩) (meth := k11m2) (c := k11c2) (by decide +kernel) rfl rfl rfl (by decide +kernel)
set_option maxRecDepth 65536 in
theorem w_c7 : (Jvm.Cond.code ({ cls := "com/example/ispol/ispol/scoring/LabelOfPinLaw", name := "sized", desc := "(I)[C" } : Jvm.MethodName) method_3_code (1 : Nat) (Option.some (Jvm.ClassFile.FieldType.array Jvm.ClassFile.FieldType.char))).before args0 about1 = true := code_word (m := ⟨1, 2⟩) (meth := k1m2) (c := k1c2) (by decide +kernel) rfl rfl rfl (by decide +kernel)
set_option maxRecDepth 65536 in
theorem w_c8 : (Jvm.Cond.code ({ cls := "com/example/ispol/ispol/scoring/LabelOfPinLaw", name := "fill", desc := "([CLjava/lang/String;)V" } : Jvm.MethodName) method_4_code (3 : Nat) (Option.none : Option Jvm.ClassFile.FieldType)).before args0 about1 = true := code_word (m := ⟨1, 3⟩) (meth := k1m3) (c := k1c3) (by decide +kernel) rfl rfl rfl (by decide +kernel)
set_option maxRecDepth 65536 in
theorem w_c9 : (Jvm.Cond.code ({ cls := "java/lang/Math", name := "min", desc := "(II)I" } : Jvm.MethodName) jdk_29_method_69_code (2 : Nat) (Option.some Jvm.ClassFile.FieldType.int)).before args0 about1 = true := code_word (m := ⟨12, 1⟩) (meth := k12m1) (c := k12c1) (by decide +kernel) rfl rfl rfl (by decide +kernel)
set_option maxRecDepth 65536 in
theorem w_c10 : (Jvm.Cond.code ({ cls := "java/lang/String", name := "charAt", desc := "(I)C" } : Jvm.MethodName) jdk_42_method_56_code (2 : Nat) (Option.some Jvm.ClassFile.FieldType.char)).before args0 about1 = true := code_word (m := ⟨7, 3⟩) (meth := k7m3) (c := k7c3) (by decide +kernel) rfl rfl rfl (by decide +kernel)
set_option maxRecDepth 65536 in
theorem w_c11 : (Jvm.Cond.code ({ cls := "java/lang/String", name := "isLatin1", desc := "()Z" } : Jvm.MethodName) jdk_42_method_154_code (1 : Nat) (Option.some Jvm.ClassFile.FieldType.boolean)).before args0 about1 = true := code_word (m := ⟨7, 7⟩) (meth := k7m7) (c := k7c7) (by decide +kernel) rfl rfl rfl (by decide +kernel)
set_option maxRecDepth 65536 in
theorem w_c12 : (Jvm.Cond.code ({ cls := "java/lang/StringLatin1", name := "charAt", desc := "([BI)C" } : Jvm.MethodName) jdk_43_method_2_code (2 : Nat) (Option.some Jvm.ClassFile.FieldType.char)).before args0 about1 = true := code_word (m := ⟨11, 1⟩) (meth := k11m1) (c := k11c1) (by decide +kernel) rfl rfl rfl (by decide +kernel)
set_option maxRecDepth 65536 in
theorem w_c13 : (Jvm.Cond.code ({ cls := "java/lang/String", name := "checkIndex", desc := "(II)V" } : Jvm.MethodName) jdk_42_method_155_code (2 : Nat) (Option.none : Option Jvm.ClassFile.FieldType)).before args0 about1 = true := code_word (m := ⟨7, 8⟩) (meth := k7m8) (c := k7c8) (by decide +kernel) rfl rfl rfl (by decide +kernel)
set_option maxRecDepth 65536 in
theorem w_c14 : (Jvm.Cond.code ({ cls := "jdk/internal/util/Preconditions", name := "checkIndex", desc := "(IILjava/util/function/BiFunction;)I" } : Jvm.MethodName) jdk_41_method_11_code (3 : Nat) (Option.some Jvm.ClassFile.FieldType.int)).before args0 about1 = true := code_word (m := ⟨13, 1⟩) (meth := k13m1) (c := k13c1) (by decide +kernel) rfl rfl rfl (by decide +kernel)
set_option maxRecDepth 65536 in
theorem w_c15 : (Jvm.Cond.code ({ cls := "java/lang/String", name := "<init>", desc := "([C)V" } : Jvm.MethodName) jdk_42_method_3_code (2 : Nat) (Option.none : Option Jvm.ClassFile.FieldType)).before args0 about1 = true := code_word (m := ⟨7, 1⟩) (meth := k7m1) (c := k7c1) (by decide +kernel) rfl rfl rfl (by decide +kernel)
set_option maxRecDepth 65536 in
theorem w_c16 : (Jvm.Cond.code ({ cls := "java/lang/String", name := "<init>", desc := "([CIILjava/lang/Void;)V" } : Jvm.MethodName) jdk_42_method_149_code (6 : Nat) (Option.none : Option Jvm.ClassFile.FieldType)).before args0 about1 = true := code_word (m := ⟨7, 5⟩) (meth := k7m5) (c := k7c5) (by decide +kernel) rfl rfl rfl (by decide +kernel)
set_option maxRecDepth 65536 in
theorem w_c17 : (Jvm.Cond.code ({ cls := "java/lang/Object", name := "<init>", desc := "()V" } : Jvm.MethodName) object_method_1_code (1 : Nat) (Option.none : Option Jvm.ClassFile.FieldType)).before args0 about1 = true := code_word (m := ⟨0, 0⟩) (meth := k0m0) (c := k0c0) (by decide +kernel) rfl rfl rfl (by decide +kernel)
set_option maxRecDepth 65536 in
theorem w_c18 : (Jvm.Cond.code ({ cls := "java/lang/StringUTF16", name := "compress", desc := "([CII)[B" } : Jvm.MethodName) jdk_52_method_16_code (6 : Nat) (Option.some (Jvm.ClassFile.FieldType.array Jvm.ClassFile.FieldType.byte))).before args0 about1 = true := code_word (m := ⟨14, 2⟩) (meth := k14m2) (c := k14c2) (by decide +kernel) rfl rfl rfl (by decide +kernel)
set_option maxRecDepth 65536 in
theorem w_c19 : (Jvm.Cond.code ({ cls := "java/lang/StringUTF16", name := "compress", desc := "([CI[BII)I" } : Jvm.MethodName) jdk_52_method_21_code (7 : Nat) (Option.some Jvm.ClassFile.FieldType.int)).before args0 about1 = true := code_word (m := ⟨14, 3⟩) (meth := k14m3) (c := k14c3) (by decide +kernel) rfl rfl rfl (by decide +kernel)
set_option maxRecDepth 65536 in
theorem w_c20 : (Jvm.Cond.code ({ cls := "java/lang/StringUTF16", name := "coderFromArrayLen", desc := "([BI)B" } : Jvm.MethodName) jdk_52_method_15_code (2 : Nat) (Option.some Jvm.ClassFile.FieldType.byte)).before args0 about1 = true := code_word (m := ⟨14, 1⟩) (meth := k14m1) (c := k14c1) (by decide +kernel) rfl rfl rfl (by decide +kernel)
def codes1 : List Jvm.Cond := [Jvm.Cond.code x code maxLocals ret, Jvm.Cond.code ({ cls := "java/lang/String", name := "length", desc := "()I" } : Jvm.MethodName) jdk_42_method_54_code (1 : Nat) (Option.some Jvm.ClassFile.FieldType.int), Jvm.Cond.code ({ cls := "java/lang/String", name := "coder", desc := "()B" } : Jvm.MethodName) jdk_42_method_152_code (1 : Nat) (Option.some Jvm.ClassFile.FieldType.byte), Jvm.Cond.code ({ cls := "com/example/ispol/ispol/scoring/Label", name := "of", desc := "(Ljava/lang/String;)Lcom/example/ispol/ispol/scoring/Label;" } : Jvm.MethodName) prog_20_method_4_code (6 : Nat) (Option.some (Jvm.ClassFile.FieldType.object "com/example/ispol/ispol/scoring/Label")), Jvm.Cond.code ({ cls := "com/example/ispol/ispol/scoring/Label", name := "values", desc := "()[Lcom/example/ispol/ispol/scoring/Label;" } : Jvm.MethodName) prog_20_method_1_code (0 : Nat) (Option.some (Jvm.ClassFile.FieldType.array (Jvm.ClassFile.FieldType.object "com/example/ispol/ispol/scoring/Label"))), Jvm.Cond.code ({ cls := "java/lang/String", name := "equals", desc := "(Ljava/lang/Object;)Z" } : Jvm.MethodName) jdk_42_method_66_code (3 : Nat) (Option.some Jvm.ClassFile.FieldType.boolean), Jvm.Cond.code ({ cls := "java/lang/StringLatin1", name := "equals", desc := "([B[B)Z" } : Jvm.MethodName) jdk_43_method_13_code (3 : Nat) (Option.some Jvm.ClassFile.FieldType.boolean), Jvm.Cond.code ({ cls := "com/example/ispol/ispol/scoring/LabelOfPinLaw", name := "sized", desc := "(I)[C" } : Jvm.MethodName) method_3_code (1 : Nat) (Option.some (Jvm.ClassFile.FieldType.array Jvm.ClassFile.FieldType.char)), Jvm.Cond.code ({ cls := "com/example/ispol/ispol/scoring/LabelOfPinLaw", name := "fill", desc := "([CLjava/lang/String;)V" } : Jvm.MethodName) method_4_code (3 : Nat) (Option.none : Option Jvm.ClassFile.FieldType), Jvm.Cond.code ({ cls := "java/lang/Math", name := "min", desc := "(II)I" } : Jvm.MethodName) jdk_29_method_69_code (2 : Nat) (Option.some Jvm.ClassFile.FieldType.int), Jvm.Cond.code ({ cls := "java/lang/String", name := "charAt", desc := "(I)C" } : Jvm.MethodName) jdk_42_method_56_code (2 : Nat) (Option.some Jvm.ClassFile.FieldType.char), Jvm.Cond.code ({ cls := "java/lang/String", name := "isLatin1", desc := "()Z" } : Jvm.MethodName) jdk_42_method_154_code (1 : Nat) (Option.some Jvm.ClassFile.FieldType.boolean), Jvm.Cond.code ({ cls := "java/lang/StringLatin1", name := "charAt", desc := "([BI)C" } : Jvm.MethodName) jdk_43_method_2_code (2 : Nat) (Option.some Jvm.ClassFile.FieldType.char), Jvm.Cond.code ({ cls := "java/lang/String", name := "checkIndex", desc := "(II)V" } : Jvm.MethodName) jdk_42_method_155_code (2 : Nat) (Option.none : Option Jvm.ClassFile.FieldType), Jvm.Cond.code ({ cls := "jdk/internal/util/Preconditions", name := "checkIndex", desc := "(IILjava/util/function/BiFunction;)I" } : Jvm.MethodName) jdk_41_method_11_code (3 : Nat) (Option.some Jvm.ClassFile.FieldType.int), Jvm.Cond.code ({ cls := "java/lang/String", name := "<init>", desc := "([C)V" } : Jvm.MethodName) jdk_42_method_3_code (2 : Nat) (Option.none : Option Jvm.ClassFile.FieldType), Jvm.Cond.code ({ cls := "java/lang/String", name := "<init>", desc := "([CIILjava/lang/Void;)V" } : Jvm.MethodName) jdk_42_method_149_code (6 : Nat) (Option.none : Option Jvm.ClassFile.FieldType), Jvm.Cond.code ({ cls := "java/lang/Object", name := "<init>", desc := "()V" } : Jvm.MethodName) object_method_1_code (1 : Nat) (Option.none : Option Jvm.ClassFile.FieldType), Jvm.Cond.code ({ cls := "java/lang/StringUTF16", name := "compress", desc := "([CII)[B" } : Jvm.MethodName) jdk_52_method_16_code (6 : Nat) (Option.some (Jvm.ClassFile.FieldType.array Jvm.ClassFile.FieldType.byte)), Jvm.Cond.code ({ cls := "java/lang/StringUTF16", name := "compress", desc := "([CI[BII)I" } : Jvm.MethodName) jdk_52_method_21_code (7 : Nat) (Option.some Jvm.ClassFile.FieldType.int), Jvm.Cond.code ({ cls := "java/lang/StringUTF16", name := "coderFromArrayLen", desc := "([BI)B" } : Jvm.MethodName) jdk_52_method_15_code (2 : Nat) (Option.some Jvm.ClassFile.FieldType.byte)]
set_option maxRecDepth 65536 in
theorem codes_eq : words1.filter isCode = codes1 := rfl
theorem w_codes : ∀ c ∈ words1.filter isCode, c.before args0 about1 = true := by
  rw [codes_eq]
  intro c hc
  simp only [codes1, List.mem_cons, List.not_mem_nil, or_false] at hc
  rcases hc with rfl | rfl | rfl | rfl | rfl | rfl | rfl | rfl | rfl | rfl | rfl | rfl | rfl | rfl | rfl | rfl | rfl | rfl | rfl | rfl | rfl
  · exact w_c0
  · exact w_c1
  · exact w_c2
  · exact w_c3
  · exact w_c4
  · exact w_c5
  · exact w_c6
  · exact w_c7
  · exact w_c8
  · exact w_c9
  · exact w_c10
  · exact w_c11
  · exact w_c12
  · exact w_c13
  · exact w_c14
  · exact w_c15
  · exact w_c16
  · exact w_c17
  · exact w_c18
  · exact w_c19
  · exact w_c20
set_option maxRecDepth 65536 in
theorem w_t1 : (words1.take 24).all (fun c => isCode c || c.before args0 about1) = true := by decide +kernel
set_option maxRecDepth 65536 in
theorem w_t2 : ((words1.drop 24).take 24).all (fun c => isCode c || c.before args0 about1) = true := by decide +kernel
set_option maxRecDepth 65536 in
theorem w_t3 : (((words1.drop 24).drop 24).take 24).all (fun c => isCode c || c.before args0 about1) = true := by decide +kernel
set_option maxRecDepth 65536 in
theorem w_t4 : ((((words1.drop 24).drop 24).drop 24).take 24).all (fun c => isCode c || c.before args0 about1) = true := by decide +kernel
set_option maxRecDepth 65536 in
theorem w_t5 : ((((words1.drop 24).drop 24).drop 24).drop 24).all (fun c => isCode c || c.before args0 about1) = true := by decide +kernel
theorem w_tables : (allAtoms (Jvm.Cond.code x code maxLocals ret :: tables_1)).before args0 about1 = true := by
  rw [allAtoms_all]
  show words1.all (fun c => c.before args0 about1) = true
  refine all_split ?_ w_codes
  rw [← List.take_append_drop 24 words1, List.all_append, w_t1, ← List.take_append_drop 24 (words1.drop 24), List.all_append, w_t2, ← List.take_append_drop 24 ((words1.drop 24).drop 24), List.all_append, w_t3, ← List.take_append_drop 24 (((words1.drop 24).drop 24).drop 24), List.all_append, w_t4, w_t5]
  rfl
set_option maxRecDepth 65536 in
theorem w_rest : rest_1_c.before args0 about1 = true := by decide +kernel
set_option maxRecDepth 65536 in
theorem w_case : (Jvm.Cond.and given_1 narrow_1).before args0 about1 = true := by decide +kernel
set_option maxRecDepth 65536 in
theorem w_consts : constsHeld consts_1 about1 := Jvm.Lit.constsHeldB_iff.mp (by decide +kernel)
theorem w_applies : (headSpec (Jvm.Cond.code x code maxLocals ret :: tables_1) room_1).applies x e0.platform about1 = true :=
  (Spec.applies_iff w_frames).mpr ⟨w_running, w_runnable, w_alone, w_named, w_hears, w_ripe, w_room, w_tables⟩
theorem atStart : AtStart classFile x code maxLocals ret World_1 tables_1 room_1 Calls_1 rest_1 Pre_1 launch0 p0 e0 about1 theMethod args0 below0 :=
  ⟨lists_1, trivial, launch0.admits_env _ _ _, launch0.least_env, fairChoices_fair.cas, fairChoices_fair.clock, w_frames, w_args, w_heap, w_applies, ⟨w_consts, trivial⟩, w_rest, w_case⟩
end start1
theorem witness_1 : WitnessClaimed_1 := ⟨start1.p0, start1.e0, start1.about1, start1.theMethod, start1.args0, start1.below0, start1.atStart⟩
end Jvm.Pilot.@@N@@
