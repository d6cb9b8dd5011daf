import JvmDerived
import JvmDerived.Pilot.@@N@@Statement
import JvmDerived.Pilot.@@N@@Code
set_option linter.unusedVariables false
set_option linter.unusedSimpArgs false
/- laws to paste: Road.backV, Road.lenW, Road.chN, Road.eqW, Road.codOf (cut by pick.py; bodies as the Statement names them) -/
namespace Jvm.Pilot.@@N@@
namespace StrChars
open Jvm Sem ClassFile Op Lib Jvm.Stand Jvm.Free.XT Jvm.Free.ALB Jvm.Free.JM Jvm.Free
open Jvm.Lib.Cold (StaticIs)
/-- a char array whose places are chars -/
def Ch (a : Addr) (A : Cell) (U : State) : Prop := Arr .char a A U ∧ Typed .char A
theorem Ch.mv {a : Addr} {A : Cell} {U U' : State} (h : Ch a A U) (hal : U.vm.Alike U'.vm) (hh : U'.heap = U.heap) : Ch a A U' := ⟨h.1.mv hal hh, h.2⟩
theorem Ch.keep {a : Addr} {A : Cell} {U U' : State} (h : Ch a A U) (hal : U.vm.Alike U'.vm) (hk : U'.heap[a]? = some A) : Ch a A U' := ⟨h.1.keep hal hk, h.2⟩
/-- what place i of a char[]'s cell holds -/
def cv (A : Cell) (i : Nat) : Int32 := match A.slots[i]? with | some (.int x) => x | _ => 0
theorem Ch.get {a : Addr} {A : Cell} {U : State} (h : Ch a A U) {i : Nat} (hi : i < A.slots.size) : A.slots[i]? = some (.int (cv A i)) := by
  have e := Array.getElem?_eq_getElem hi
  have f := h.2 i _ e
  unfold cv; rw [e]
  generalize A.slots[i] = v at f
  cases v <;> simp [fits] at f ⊢
/-- the byte that i2b leaves of a char -/
def lo8 (x : Int32) : Int32 := x.toInt8.toInt32
theorem fits_lo8 (y : Int32) : fits .byte (.int (lo8 y)) = true := by
  have h1 := y.toInt8.le_toInt
  have h2 := y.toInt8.toInt_lt
  simp only [lo8, fits, Bool.and_eq_true, decide_eq_true_eq, Int32.le_iff_toInt_le, Int8.toInt_toInt32, show (-128 : Int32).toInt = -128 from by decide, show (127 : Int32).toInt = 127 from by decide]
  omega
/-- A' is A but that each place j of lo .. hi - 1 holds f j -/
def Laid (A A' : Cell) (lo hi : Nat) (f : Nat → Value) : Prop := A'.cls = A.cls ∧ A'.vm = A.vm ∧ A'.slots.size = A.slots.size ∧ ∀ i, A'.slots[i]? = if lo ≤ i ∧ i < hi then some (f i) else A.slots[i]?
theorem Laid.zero (A : Cell) (lo : Nat) (f : Nat → Value) : Laid A A lo (lo + 0) f := ⟨rfl, rfl, rfl, fun i => by rw [if_neg (by omega)]⟩
theorem Laid.step {A Ak : Cell} {lo k : Nat} {f : Nat → Value} {v : Value} (h : Laid A Ak lo k f) (hlo : lo ≤ k) (hk : k < Ak.slots.size) (hv : v = f k) : Laid A (Ak.setSlot k v) lo (k + 1) f := by
  refine ⟨h.1, h.2.1, by simpa [Cell.setSlot] using h.2.2.1, fun i => ?_⟩
  by_cases e : k = i
  · subst e; rw [Cell.slots_setSlot_self v hk, if_pos (by omega), hv]
  · rw [Cell.slots_setSlot_ne v e, h.2.2.2 i]
    by_cases q : lo ≤ i ∧ i < k
    · rw [if_pos q, if_pos (by omega)]
    · rw [if_neg q, if_neg (by omega)]
def U16 : String := "java/lang/StringUTF16"
namespace Cmp5
def yN : MethodName := ⟨"java/lang/StringUTF16", "compress", "([CI[BII)I"⟩
abbrev yB : ByteArray := jdk_52_method_21_code
theorem d0 : decode yB 0 = .ok (.iconst 0, 1) := by decide +kernel
theorem d1 : decode yB 1 = .ok (.istore 5, 2) := by decide +kernel
theorem d3 : decode yB 3 = .ok (.iload 5, 2) := by decide +kernel
theorem d5 : decode yB 5 = .ok (.iload 4, 2) := by decide +kernel
theorem d7 : decode yB 7 = .ok (.if_icmp (.ge) 37, 3) := by decide +kernel
theorem d10 : decode yB 10 = .ok (.aload_n 0, 1) := by decide +kernel
theorem d11 : decode yB 11 = .ok (.iload_n 1, 1) := by decide +kernel
theorem d12 : decode yB 12 = .ok (.caload, 1) := by decide +kernel
theorem d13 : decode yB 13 = .ok (.istore 6, 2) := by decide +kernel
theorem d15 : decode yB 15 = .ok (.iload 6, 2) := by decide +kernel
theorem d17 : decode yB 17 = .ok (.sipush 255, 3) := by decide +kernel
theorem d20 : decode yB 20 = .ok (.if_icmp (.le) 6, 3) := by decide +kernel
theorem d26 : decode yB 26 = .ok (.aload_n 2, 1) := by decide +kernel
theorem d27 : decode yB 27 = .ok (.iload_n 3, 1) := by decide +kernel
theorem d28 : decode yB 28 = .ok (.iload 6, 2) := by decide +kernel
theorem d30 : decode yB 30 = .ok (.i2b, 1) := by decide +kernel
theorem d31 : decode yB 31 = .ok (.bastore, 1) := by decide +kernel
theorem d32 : decode yB 32 = .ok (.iinc 1 1, 3) := by decide +kernel
theorem d35 : decode yB 35 = .ok (.iinc 3 1, 3) := by decide +kernel
theorem d38 : decode yB 38 = .ok (.iinc 5 1, 3) := by decide +kernel
theorem d41 : decode yB 41 = .ok (.goto (-38), 3) := by decide +kernel
theorem d44 : decode yB 44 = .ok (.iload 4, 2) := by decide +kernel
theorem d46 : decode yB 46 = .ok (.ireturn, 1) := by decide +kernel
def site : List Cond := []
def tab : Cond := tabOf yN yB 7 (some .int) site
def P (b : Addr) (A : Cell) (d : Addr) (B : Cell) (o q len : Nat) (args : Array Value) (s : State) : Prop := args = #[.ref b, .int (Int32.ofNat o), .ref d, .int (Int32.ofNat q), .int (Int32.ofNat len)] ∧ Ch b A s ∧ Arr .byte d B s ∧ b ≠ d ∧ o + len ≤ A.slots.size ∧ q + len ≤ B.slots.size ∧ ∀ i, i < len → ¬ 255 < cv A (o + i)
def E (b : Addr) (A : Cell) (d : Addr) (B : Cell) (o q len : Nat) (r : Option Value) (s u : State) : Prop := r = some (.int (Int32.ofNat len)) ∧ ∃ B', Put d B' s u ∧ Laid B B' q (q + len) (fun j => Value.int (lo8 (cv A (o + (j - q)))))
/-- no char of the range above 255: len; the places written hold each char's low byte -/
theorem law (l : Launch) (b : Addr) (A : Cell) (d : Addr) (B : Cell) (o q len : Nat) : Law l yN 5 5 0 0 yB 7 (some .int) site (P b A d B o q len) (E b A d B o q len) (copyLocs d q len) 0 0 := by
  refine Law.of_walk (plainFor_of_name (by decide +kernel)) (by decide +kernel) (by decide +kernel) (by decide) (fun _ _ h => by rw [h.1]; rfl) (fun _ U U' hal hh h => ⟨h.1, h.2.1.mv hal hh, h.2.2.1.mv hal hh, h.2.2.2⟩) (fun r U U' V V' h1 hal h2 h => ⟨h.1, h.2.elim fun B' q => ⟨B', q.1.mv h1 h2, q.2⟩⟩) ?_
  intro p e s m args below meth c s₁ X0 hexec hbytes hml hret hlk hnm hown hh0 W hP
  obtain ⟨rfl, hA, hB, hne, l1, l2, hp⟩ := hP
  have c1 : Steps p.tables e below (s₁.setTop (entryFrame m #[.ref b, .int (Int32.ofNat o), .ref d, .int (Int32.ofNat q), .int (Int32.ofNat len)] 7)) (s₁.setTop (mkF m 0 #[.val (.ref b), .val (.int (Int32.ofNat o)), .val (.ref d), .val (.int (Int32.ofNat q)), .val (.int (Int32.ofNat len)), .unset, .unset] [])) := entry rfl
  have hA0 := hA.1.mv X0.warmed.alike hh0
  have hB0 := hB.mv X0.warmed.alike hh0
  have a31 := hA.1.2.2.2
  have c2 : Steps p.tables e below (s₁.setTop (entryFrame m #[.ref b, .int (Int32.ofNat o), .ref d, .int (Int32.ofNat q), .int (Int32.ofNat len)] 7)) (s₁.setTop (mkF m 3 #[.val (.ref b), .val (.int (Int32.ofNat o)), .val (.ref d), .val (.int (Int32.ofNat q)), .val (.int (Int32.ofNat len)), .val (.int 0), .unset] [])) := c1.trans (by
    refine iconstV X0.here hexec rfl 0 (hb hbytes d0) (by decide) ?_
    refine XS.istore X0.here hexec rfl (hb hbytes d1) rfl rfl ?_
    exact Steps.refl _)
  have loop : ∀ (r i : Nat), i + r = len → ∀ (z : Slot), (z = .unset ∨ ∃ w, z = .val w ∧ w.category = 1) → ∀ (Tl : State) (Bk : Cell), Stand p l e { frames := 0, locals := 0, cells := 0, slots := 0 } s m #[.ref b, .int (Int32.ofNat o), .ref d, .int (Int32.ofNat q), .int (Int32.ofNat len)] below meth c Tl ([] ++ copyLocs d q i) 0 0 → Put d Bk s₁ Tl → Laid B Bk q (q + i) (fun j => Value.int (lo8 (cv A (o + (j - q))))) →
      Steps p.tables e below (s₁.setTop (entryFrame m #[.ref b, .int (Int32.ofNat o), .ref d, .int (Int32.ofNat q), .int (Int32.ofNat len)] 7)) (Tl.setTop (mkF m 3 #[.val (.ref b), .val (.int (Int32.ofNat (o + i))), .val (.ref d), .val (.int (Int32.ofNat (q + i))), .val (.int (Int32.ofNat len)), .val (.int (Int32.ofNat i)), z] [])) → ∃ (T' : State) (B' : Cell) (z' : Slot), Stand p l e { frames := 0, locals := 0, cells := 0, slots := 0 } s m #[.ref b, .int (Int32.ofNat o), .ref d, .int (Int32.ofNat q), .int (Int32.ofNat len)] below meth c T' ([] ++ copyLocs d q len) 0 0 ∧ Put d B' s₁ T' ∧ Laid B B' q (q + len) (fun j => Value.int (lo8 (cv A (o + (j - q))))) ∧
      Steps p.tables e below (s₁.setTop (entryFrame m #[.ref b, .int (Int32.ofNat o), .ref d, .int (Int32.ofNat q), .int (Int32.ofNat len)] 7)) (T'.setTop (mkF m 3 #[.val (.ref b), .val (.int (Int32.ofNat (o + len))), .val (.ref d), .val (.int (Int32.ofNat (q + len))), .val (.int (Int32.ofNat len)), .val (.int (Int32.ofNat len)), z'] [])) := by
    intro r
    induction r with
    | zero =>
      intro i hi z hz Tl Bk Xl pl fl cl
      have hil : i = len := by omega
      rw [hil] at Xl fl cl
      exact ⟨Tl, Bk, z, Xl, pl, fl, cl⟩
    | succ r ih =>
      intro i hi z hz Tl Bk Xl pl fl cl
      have all := X0.warmed.alike.symm.trans Xl.warmed.alike
      have hAl := hA0.keep all (pl.other hne hA0.1)
      have hBk := hB0.like all pl.1 fl.1 fl.2.1 fl.2.2.1
      have hlt : q + i < Bk.slots.size := by rw [fl.2.2.1]; omega
      have c3 : Steps p.tables e below (s₁.setTop (entryFrame m #[.ref b, .int (Int32.ofNat o), .ref d, .int (Int32.ofNat q), .int (Int32.ofNat len)] 7)) (Tl.setTop (mkF m 12 #[.val (.ref b), .val (.int (Int32.ofNat (o + i))), .val (.ref d), .val (.int (Int32.ofNat (q + i))), .val (.int (Int32.ofNat len)), .val (.int (Int32.ofNat i)), z] [.int (Int32.ofNat (o + i)), .ref b])) := cl.trans (by
        refine XS.iload Xl.here hexec rfl (hb hbytes d3) rfl ?_
        refine XS.iload Xl.here hexec rfl (hb hbytes d5) rfl ?_
        refine XS.icmpNo Xl.here hexec rfl (hb hbytes d7) rfl (ii_ge_f (lt32 (by omega) (by omega))) ?_
        refine XS.aloadN Xl.here hexec rfl (hb hbytes d10) rfl rfl ?_
        refine XS.iloadN Xl.here hexec rfl (hb hbytes d11) rfl ?_
        exact Steps.refl _)
      have c4 : Steps p.tables e below (s₁.setTop (entryFrame m #[.ref b, .int (Int32.ofNat o), .ref d, .int (Int32.ofNat q), .int (Int32.ofNat len)] 7)) (Tl.setTop (mkF m 13 #[.val (.ref b), .val (.int (Int32.ofNat (o + i))), .val (.ref d), .val (.int (Int32.ofNat (q + i))), .val (.int (Int32.ofNat len)), .val (.int (Int32.ofNat i)), z] [.int (cv A (o + i))])) := c3.trans (by
        refine Xl.aget hexec hAl rfl (hA.get (i := o + i) (by omega)) rfl rfl (hb hbytes d12) ?_
        exact Steps.refl _)
      have c5 : Steps p.tables e below (s₁.setTop (entryFrame m #[.ref b, .int (Int32.ofNat o), .ref d, .int (Int32.ofNat q), .int (Int32.ofNat len)] 7)) (Tl.setTop (mkF m 15 #[.val (.ref b), .val (.int (Int32.ofNat (o + i))), .val (.ref d), .val (.int (Int32.ofNat (q + i))), .val (.int (Int32.ofNat len)), .val (.int (Int32.ofNat i)), .val (.int (cv A (o + i)))] [])) := c4.trans (by
        refine XS.istoreS Xl.here hexec rfl (hb hbytes d13) rfl rfl hz ?_
        exact Steps.refl _)
      have c6 : Steps p.tables e below (s₁.setTop (entryFrame m #[.ref b, .int (Int32.ofNat o), .ref d, .int (Int32.ofNat q), .int (Int32.ofNat len)] 7)) (Tl.setTop (mkF m 31 #[.val (.ref b), .val (.int (Int32.ofNat (o + i))), .val (.ref d), .val (.int (Int32.ofNat (q + i))), .val (.int (Int32.ofNat len)), .val (.int (Int32.ofNat i)), .val (.int (cv A (o + i)))] [.int (lo8 (cv A (o + i))), .int (Int32.ofNat (q + i)), .ref d])) := c5.trans (by
        refine XS.iload Xl.here hexec rfl (hb hbytes d15) rfl ?_
        refine sipushV Xl.here hexec rfl 255 (hb hbytes d17) (by decide) ?_
        refine XS.icmpYes Xl.here hexec rfl (pc0 := 20) rfl (hb hbytes d20) rfl (ii_le_t (hp i (by omega))) (by decide) rfl ?_
        refine XS.aloadN Xl.here hexec rfl (hb hbytes d26) rfl rfl ?_
        refine XS.iloadN Xl.here hexec rfl (hb hbytes d27) rfl ?_
        refine XS.iload Xl.here hexec rfl (hb hbytes d28) rfl ?_
        refine i2b Xl.here hexec rfl (hb hbytes d30) rfl ?_
        exact Steps.refl _)
      obtain ⟨T7, X7, p7, st7⟩ := Xl.aput hexec hBk rfl hlt rfl (fits_lo8 (cv A (o + i))) (g := (mkF m 31 #[.val (.ref b), .val (.int (Int32.ofNat (o + i))), .val (.ref d), .val (.int (Int32.ofNat (q + i))), .val (.int (Int32.ofNat len)), .val (.int (Int32.ofNat i)), .val (.int (cv A (o + i)))] [.int (lo8 (cv A (o + i))), .int (Int32.ofNat (q + i)), .ref d])) rfl (rest := []) rfl (hb hbytes d31)
      have c8 : Steps p.tables e below (s₁.setTop (entryFrame m #[.ref b, .int (Int32.ofNat o), .ref d, .int (Int32.ofNat q), .int (Int32.ofNat len)] 7)) (T7.setTop (mkF m 32 #[.val (.ref b), .val (.int (Int32.ofNat (o + i))), .val (.ref d), .val (.int (Int32.ofNat (q + i))), .val (.int (Int32.ofNat len)), .val (.int (Int32.ofNat i)), .val (.int (cv A (o + i)))] [])) := c6.trans (st7 _ (Steps.refl _))
      have c9 : Steps p.tables e below (s₁.setTop (entryFrame m #[.ref b, .int (Int32.ofNat o), .ref d, .int (Int32.ofNat q), .int (Int32.ofNat len)] 7)) (T7.setTop (mkF m 3 #[.val (.ref b), .val (.int (Int32.ofNat (o + i) + 1)), .val (.ref d), .val (.int (Int32.ofNat (q + i) + 1)), .val (.int (Int32.ofNat len)), .val (.int (Int32.ofNat i + 1)), .val (.int (cv A (o + i)))] [])) := c8.trans (by
        refine iincV X7.here hexec rfl 1 (hb hbytes d32) (by decide) rfl rfl ?_
        refine iincV X7.here hexec rfl 1 (hb hbytes d35) (by decide) rfl rfl ?_
        refine iincV X7.here hexec rfl 1 (hb hbytes d38) (by decide) rfl rfl ?_
        refine XS.goto X7.here hexec rfl (pc0 := 41) rfl (hb hbytes d41) (by decide) rfl ?_
        exact Steps.refl _)
      have c10 : Steps p.tables e below (s₁.setTop (entryFrame m #[.ref b, .int (Int32.ofNat o), .ref d, .int (Int32.ofNat q), .int (Int32.ofNat len)] 7)) (T7.setTop (mkF m 3 #[.val (.ref b), .val (.int (Int32.ofNat (o + (i + 1)))), .val (.ref d), .val (.int (Int32.ofNat (q + (i + 1)))), .val (.int (Int32.ofNat len)), .val (.int (Int32.ofNat (i + 1))), .val (.int (cv A (o + i)))] [])) := by
        have := c9
        rw [succ32, succ32, succ32] at this
        exact this
      exact ih (i + 1) (by omega) _ (Or.inr ⟨_, rfl, rfl⟩) T7 _ (by rw [copyLocs_step, ← List.append_assoc]; exact X7) (pl.trans p7) (fl.step (by omega) hlt (by simp)) c10
  obtain ⟨T9, B9, z9, X9, p9, f9, g9⟩ := loop len 0 (by omega) .unset (Or.inl rfl) s₁ B (by simpa [copyLocs] using X0) ⟨hB0.1, fun _ _ => rfl, rfl⟩ (Laid.zero _ _ _) c2
  have c11 : Steps p.tables e below (s₁.setTop (entryFrame m #[.ref b, .int (Int32.ofNat o), .ref d, .int (Int32.ofNat q), .int (Int32.ofNat len)] 7)) (T9.setTop (mkF m 46 #[.val (.ref b), .val (.int (Int32.ofNat (o + len))), .val (.ref d), .val (.int (Int32.ofNat (q + len))), .val (.int (Int32.ofNat len)), .val (.int (Int32.ofNat len)), z9] [.int (Int32.ofNat len)])) := g9.trans (by
    refine XS.iload X9.here hexec rfl (hb hbytes d3) rfl ?_
    refine XS.iload X9.here hexec rfl (hb hbytes d5) rfl ?_
    refine XS.icmpYes X9.here hexec rfl (pc0 := 7) rfl (hb hbytes d7) rfl (ii_ge_t (nlt32 (by omega) (Nat.le_refl _))) (by decide) rfl ?_
    refine XS.iload X9.here hexec rfl (hb hbytes d44) rfl ?_
    exact Steps.refl _)
  exact ⟨T9, some (.int (Int32.ofNat len)), _, _, _, X9, by simp, rfl, rfl, (fun h => by cases h), ⟨rfl, B9, p9.from hh0, f9⟩, fun fs hl => c11.trans (X9.ireturnOut hexec hret rfl (Or.inl rfl) (hb hbytes d46) hl)⟩
end Cmp5
namespace Cmp3
def yN : MethodName := ⟨"java/lang/StringUTF16", "compress", "([CII)[B"⟩
abbrev yB : ByteArray := jdk_52_method_16_code
theorem d0 : decode yB 0 = .ok (.iload_n 2, 1) := by decide +kernel
theorem d1 : decode yB 1 = .ok (.newarray .byte, 2) := by decide +kernel
theorem d3 : decode yB 3 = .ok (.astore_n 3, 1) := by decide +kernel
theorem d4 : decode yB 4 = .ok (.aload_n 0, 1) := by decide +kernel
theorem d5 : decode yB 5 = .ok (.iload_n 1, 1) := by decide +kernel
theorem d6 : decode yB 6 = .ok (.aload_n 3, 1) := by decide +kernel
theorem d7 : decode yB 7 = .ok (.iconst 0, 1) := by decide +kernel
theorem d8 : decode yB 8 = .ok (.iload_n 2, 1) := by decide +kernel
theorem d9 : decode yB 9 = .ok (.invokestatic 115, 3) := by decide +kernel
theorem d12 : decode yB 12 = .ok (.istore 4, 2) := by decide +kernel
theorem d14 : decode yB 14 = .ok (.iload 4, 2) := by decide +kernel
theorem d16 : decode yB 16 = .ok (.iload_n 2, 1) := by decide +kernel
theorem d17 : decode yB 17 = .ok (.if_icmp (.eq) 40, 3) := by decide +kernel
theorem d57 : decode yB 57 = .ok (.aload_n 3, 1) := by decide +kernel
theorem d58 : decode yB 58 = .ok (.areturn, 1) := by decide +kernel
def site : List Cond := [.arrayClass .byte, Cmp5.tab] ++ staticW U16 115 Cmp5.yN
def tab : Cond := tabOf yN yB 6 (some (.array .byte)) site
def P (b : Addr) (A : Cell) (o len : Nat) (args : Array Value) (s : State) : Prop := args = #[.ref b, .int (Int32.ofNat o), .int (Int32.ofNat len)] ∧ Ch b A s ∧ o + len ≤ A.slots.size ∧ len ≤ 536870912 ∧ ∀ i, i < len → ¬ 255 < cv A (o + i)
def E (b : Addr) (A : Cell) (o len : Nat) (r : Option Value) (s u : State) : Prop := NewArr .byte "[B" len (fun j => .int (lo8 (cv A (o + j)))) r s u ∧ u.heap.size = s.heap.size + 1
/-- no char of the range above 255: a new byte[] of their low bytes -/
theorem law (l : Launch) (b : Addr) (A : Cell) (o len : Nat) : Law l yN 3 3 1 18 yB 6 (some (.array .byte)) site (P b A o len) (E b A o len) [] 1 len := by
  refine Law.of_walk (plainFor_of_name (by decide +kernel)) (by decide +kernel) (by decide +kernel) (by decide) (fun _ _ h => by rw [h.1]; rfl) (fun _ U U' hal hh h => ⟨h.1, h.2.1.mv hal hh, h.2.2⟩) (fun r U U' V V' h1 hal h2 h => ⟨NewArr.mv r U U' V V' h1 hal h2 h.1, by rw [h1, h2]; exact h.2⟩) ?_
  intro p e s m args below meth c s₁ X0 hexec hbytes hml hret hlk hnm hown hh0 W hP
  obtain ⟨rfl, hA, l1, l2, hp⟩ := hP
  have a31 := hA.1.2.2.2
  have c1 : Steps p.tables e below (s₁.setTop (entryFrame m #[.ref b, .int (Int32.ofNat o), .int (Int32.ofNat len)] 6)) (s₁.setTop (mkF m 0 #[.val (.ref b), .val (.int (Int32.ofNat o)), .val (.int (Int32.ofNat len)), .unset, .unset, .unset] [])) := entry rfl
  have c2 : Steps p.tables e below (s₁.setTop (entryFrame m #[.ref b, .int (Int32.ofNat o), .int (Int32.ofNat len)] 6)) (s₁.setTop (mkF m 1 #[.val (.ref b), .val (.int (Int32.ofNat o)), .val (.int (Int32.ofNat len)), .unset, .unset, .unset] [.int (Int32.ofNat len)])) := c1.trans (by
    refine XS.iloadN X0.here hexec rfl (hb hbytes d0) rfl ?_
    exact Steps.refl _)
  obtain ⟨T3, B3, X3, ba3, bs3, bv3, bh3, bf3, st3⟩ := X0.anew hexec (atype := .byte) (wk W (.arrayClass .byte)) rfl (by show len * 1 ≤ _; omega) (by omega) (g := (mkF m 1 #[.val (.ref b), .val (.int (Int32.ofNat o)), .val (.int (Int32.ofNat len)), .unset, .unset, .unset] [.int (Int32.ofNat len)])) rfl (hb hbytes d1) (rest := []) rfl (Nat.le_refl _) (by show 0 + len ≤ len; omega)
  rw [hh0] at ba3 st3
  have kp3 : XT.Kept s T3 := (XT.Kept.of_eq hh0).push bh3
  have hA3 := hA.keep X3.warmed.alike (kp3 _ _ hA.1.1)
  have hne : b ≠ s.heap.size := hA.1.ne
  have c4 : Steps p.tables e below (s₁.setTop (entryFrame m #[.ref b, .int (Int32.ofNat o), .int (Int32.ofNat len)] 6)) (T3.setTop (mkF m 3 #[.val (.ref b), .val (.int (Int32.ofNat o)), .val (.int (Int32.ofNat len)), .unset, .unset, .unset] [.ref s.heap.size])) := c2.trans (st3 _ (Steps.refl _))
  have c5 : Steps p.tables e below (s₁.setTop (entryFrame m #[.ref b, .int (Int32.ofNat o), .int (Int32.ofNat len)] 6)) (T3.setTop (mkF m 9 #[.val (.ref b), .val (.int (Int32.ofNat o)), .val (.int (Int32.ofNat len)), .val (.ref s.heap.size), .unset, .unset] [.int (Int32.ofNat len), .int 0, .ref s.heap.size, .int (Int32.ofNat o), .ref b])) := c4.trans (by
    refine XS.astoreN X3.here hexec rfl (hb hbytes d3) rfl rfl rfl ?_
    refine XS.aloadN X3.here hexec rfl (hb hbytes d4) rfl rfl ?_
    refine XS.iloadN X3.here hexec rfl (hb hbytes d5) rfl ?_
    refine XS.aloadN X3.here hexec rfl (hb hbytes d6) rfl rfl ?_
    refine iconstV X3.here hexec rfl 0 (hb hbytes d7) (by decide) ?_
    refine XS.iloadN X3.here hexec rfl (hb hbytes d8) rfl ?_
    exact Steps.refl _)
  obtain ⟨v6, T6, X6, E6, g6⟩ := X3.callS hexec (Cmp5.law l b A s.heap.size B3 o 0 len) hown (wks W (staticW U16 115 Cmp5.yN)) (wk W Cmp5.tab) (W := 0) (Nat.le_of_ble_eq_true rfl) (Nat.le_of_ble_eq_true rfl) (Nat.le_refl _) (by show 0 + len + 0 ≤ len; omega) (g := (mkF m 9 #[.val (.ref b), .val (.int (Int32.ofNat o)), .val (.int (Int32.ofNat len)), .val (.ref s.heap.size), .unset, .unset] [.int (Int32.ofNat len), .int (Int32.ofNat 0), .ref s.heap.size, .int (Int32.ofNat o), .ref b])) rfl (by rw [hml]; rfl) c5 (argsL := [.ref b, .int (Int32.ofNat o), .ref s.heap.size, .int (Int32.ofNat 0), .int (Int32.ofNat len)]) (rest := []) rfl rfl (by show 2 * 0 + 0 ≤ _; decide) (hb hbytes d9) (⟨rfl, hA3, ba3, hne, l1, by rw [bs3]; simp, hp⟩)
  obtain ⟨rfl, B6, p6, f6⟩ := E6
  have c7 : Steps p.tables e below (s₁.setTop (entryFrame m #[.ref b, .int (Int32.ofNat o), .int (Int32.ofNat len)] 6)) (T6.setTop (mkF m 12 #[.val (.ref b), .val (.int (Int32.ofNat o)), .val (.int (Int32.ofNat len)), .val (.ref s.heap.size), .unset, .unset] [.int (Int32.ofNat len)])) := g6
  have c8 : Steps p.tables e below (s₁.setTop (entryFrame m #[.ref b, .int (Int32.ofNat o), .int (Int32.ofNat len)] 6)) (T6.setTop (mkF m 58 #[.val (.ref b), .val (.int (Int32.ofNat o)), .val (.int (Int32.ofNat len)), .val (.ref s.heap.size), .val (.int (Int32.ofNat len)), .unset] [.ref s.heap.size])) := c7.trans (by
    refine XS.istore X6.here hexec rfl (hb hbytes d12) rfl rfl ?_
    refine XS.iload X6.here hexec rfl (hb hbytes d14) rfl ?_
    refine XS.iloadN X6.here hexec rfl (hb hbytes d16) rfl ?_
    refine XS.icmpYes X6.here hexec rfl (pc0 := 17) rfl (hb hbytes d17) rfl (ii_eq_t rfl) (by decide) rfl ?_
    refine XS.aloadN X6.here hexec rfl (hb hbytes d57) rfl rfl ?_
    exact Steps.refl _)
  have X8 := X6.wide (L' := []) (cells' := 1) (slots' := len) (fun x hx hlt => by
    simp only [List.nil_append, copyLocs, List.mem_map, List.mem_range] at hx
    obtain ⟨i, -, rfl⟩ := hx
    exact absurd hlt (Nat.lt_irrefl _)) (Nat.le_refl _) (by omega)
  exact ⟨T6, some (.ref s.heap.size), _, _, _, X8, rfl, rfl, rfl, (fun h => by cases h), ⟨⟨rfl, B6, ba3.like (X3.warmed.alike.symm.trans X6.warmed.alike) p6.1 f6.1 f6.2.1 f6.2.2.1, f6.2.1.trans bv3, by rw [X6.warmed.alike.findClass, f6.1]; exact bf3, by rw [f6.2.2.1, bs3]; simp, fun j hj => by rw [f6.2.2.2 j, if_pos (by omega)]; rfl, kp3.put p6 (Nat.le_refl _)⟩, by rw [p6.2.2, bh3, hh0]; simp⟩, fun fs hl => c8.trans (X8.areturnOut hexec rfl hret rfl (hb hbytes d58) hl)⟩
end Cmp3
namespace CodL
def yN : MethodName := ⟨"java/lang/StringUTF16", "coderFromArrayLen", "([BI)B"⟩
abbrev yB : ByteArray := jdk_52_method_15_code
theorem d0 : decode yB 0 = .ok (.iload_n 1, 1) := by decide +kernel
theorem d1 : decode yB 1 = .ok (.aload_n 0, 1) := by decide +kernel
theorem d2 : decode yB 2 = .ok (.arraylength, 1) := by decide +kernel
theorem d3 : decode yB 3 = .ok (.isub, 1) := by decide +kernel
theorem d4 : decode yB 4 = .ok (.bipush 31, 2) := by decide +kernel
theorem d6 : decode yB 6 = .ok (.iushr, 1) := by decide +kernel
theorem d7 : decode yB 7 = .ok (.i2b, 1) := by decide +kernel
theorem d8 : decode yB 8 = .ok (.ireturn, 1) := by decide +kernel
def site : List Cond := []
def tab : Cond := tabOf yN yB 2 (some .byte) site
def P (d : Addr) (B : Cell) (args : Array Value) (s : State) : Prop := args = #[.ref d, .int (Int32.ofNat B.slots.size)] ∧ Arr .byte d B s
def E (r : Option Value) (s u : State) : Prop := XT.PureE (some (.int 0)) r s u
/-- an array as long as the number of chars: LATIN1 -/
theorem law (l : Launch) (d : Addr) (B : Cell) : Law l yN 2 2 0 0 yB 2 (some .byte) site (P d B) E [] 0 0 := by
  refine Law.of_walk (plainFor_of_name (by decide +kernel)) (by decide +kernel) (by decide +kernel) (by decide) (fun _ _ h => by rw [h.1]; rfl) (fun _ U U' hal hh h => ⟨h.1, h.2.mv hal hh⟩) (fun r U U' V V' h1 hal h2 h => XT.PureE.mv r U U' V V' h1 hal h2 h) ?_
  intro p e s m args below meth c s₁ X0 hexec hbytes hml hret hlk hnm hown hh0 W hP
  obtain ⟨rfl, hB⟩ := hP
  have hB0 := hB.mv X0.warmed.alike hh0
  have c1 : Steps p.tables e below (s₁.setTop (entryFrame m #[.ref d, .int (Int32.ofNat B.slots.size)] 2)) (s₁.setTop (mkF m 0 #[.val (.ref d), .val (.int (Int32.ofNat B.slots.size))] [])) := entry rfl
  have c2 : Steps p.tables e below (s₁.setTop (entryFrame m #[.ref d, .int (Int32.ofNat B.slots.size)] 2)) (s₁.setTop (mkF m 2 #[.val (.ref d), .val (.int (Int32.ofNat B.slots.size))] [.ref d, .int (Int32.ofNat B.slots.size)])) := c1.trans (by
    refine XS.iloadN X0.here hexec rfl (hb hbytes d0) rfl ?_
    refine XS.aloadN X0.here hexec rfl (hb hbytes d1) rfl rfl ?_
    exact Steps.refl _)
  have c3 : Steps p.tables e below (s₁.setTop (entryFrame m #[.ref d, .int (Int32.ofNat B.slots.size)] 2)) (s₁.setTop (mkF m 8 #[.val (.ref d), .val (.int (Int32.ofNat B.slots.size))] [.int (lo8 (ushr (Int32.ofNat B.slots.size - Int32.ofNat B.slots.size) 31))])) := c2.trans (by
    refine X0.alen hexec hB0 rfl rfl (hb hbytes d2) ?_
    refine XS.isub X0.here hexec rfl (hb hbytes d3) rfl ?_
    refine bipushV X0.here hexec rfl 31 (hb hbytes d4) (by decide) ?_
    refine iushr X0.here hexec rfl (hb hbytes d6) rfl ?_
    refine i2b X0.here hexec rfl (hb hbytes d7) rfl ?_
    exact Steps.refl _)
  have e0 : lo8 (ushr (Int32.ofNat B.slots.size - Int32.ofNat B.slots.size) 31) = 0 := by rw [Int32.sub_self]; decide
  rw [e0] at c3
  exact ⟨s₁, some (.int 0), _, _, _, X0, rfl, rfl, rfl, (fun h => by cases h), ⟨rfl, hh0⟩, fun fs hl => c3.trans (X0.ireturnOut hexec hret rfl (Or.inr (Or.inr (Or.inl rfl))) (hb hbytes d8) hl)⟩
end CodL
/-- the String at a is Latin-1 over a new byte[] (the heap's one new cell): the low bytes of the len chars of A from o on; every cell but a is kept -/
def Got (a : Addr) (D : Cell) (fV fC : Field) (A : Cell) (o len : Nat) (r : Option Value) (s u : State) : Prop := r = none ∧ ∃ D' V : Cell, Blank "java/lang/String" a D' u ∧ Same D D' [fV.slot, fC.slot] ∧ D'.slots[fV.slot]? = some (.ref s.heap.size) ∧ D'.slots[fC.slot]? = some (.int 0) ∧ Arr .byte s.heap.size V u ∧ V.vm = .none ∧ u.vm.findClass "[B" = some V.cls ∧ V.slots.size = len ∧ (∀ j, j < len → V.slots[j]? = some (.int (lo8 (cv A (o + j))))) ∧ (∀ (y : Addr) (c : Cell), y ≠ a → s.heap[y]? = some c → u.heap[y]? = some c) ∧ u.heap.size = s.heap.size + 1
theorem Got.mv {a : Addr} {D A : Cell} {fV fC : Field} {o len : Nat} : ∀ r (U U' V V' : State), U'.heap = U.heap → V.vm.Alike V'.vm → V'.heap = V.heap → Got a D fV fC A o len r U V → Got a D fV fC A o len r U' V' :=
  fun r U U' V V' h1 hal h2 ⟨e0, D', X, a1, a2, a3, a4, a5, a6, a7, a8, a9, a10, a11⟩ => ⟨e0, D', X, a1.mv hal h2, a2, by rw [h1]; exact a3, a4, by rw [h1]; exact a5.mv hal h2, a6, by rw [hal.findClass]; exact a7, a8, a9, by rw [h1, h2]; exact a10, by rw [h1, h2]; exact a11⟩
namespace New4
def yN : MethodName := ⟨"java/lang/String", "<init>", "([CIILjava/lang/Void;)V"⟩
abbrev yB : ByteArray := jdk_42_method_149_code
theorem d0 : decode yB 0 = .ok (.aload_n 0, 1) := by decide +kernel
theorem d1 : decode yB 1 = .ok (.invokespecial 1, 3) := by decide +kernel
theorem d4 : decode yB 4 = .ok (.iload_n 3, 1) := by decide +kernel
theorem d5 : decode yB 5 = .ok (.ifCond (.ne) 22, 3) := by decide +kernel
theorem d27 : decode yB 27 = .ok (.getstatic 38, 3) := by decide +kernel
theorem d30 : decode yB 30 = .ok (.ifCond (.eq) 28, 3) := by decide +kernel
theorem d33 : decode yB 33 = .ok (.aload_n 1, 1) := by decide +kernel
theorem d34 : decode yB 34 = .ok (.iload_n 2, 1) := by decide +kernel
theorem d35 : decode yB 35 = .ok (.iload_n 3, 1) := by decide +kernel
theorem d36 : decode yB 36 = .ok (.invokestatic 177, 3) := by decide +kernel
theorem d39 : decode yB 39 = .ok (.astore 5, 2) := by decide +kernel
theorem d41 : decode yB 41 = .ok (.aload_n 0, 1) := by decide +kernel
theorem d42 : decode yB 42 = .ok (.aload 5, 2) := by decide +kernel
theorem d44 : decode yB 44 = .ok (.iload_n 3, 1) := by decide +kernel
theorem d45 : decode yB 45 = .ok (.invokestatic 47, 3) := by decide +kernel
theorem d48 : decode yB 48 = .ok (.putfield 15, 3) := by decide +kernel
theorem d51 : decode yB 51 = .ok (.aload_n 0, 1) := by decide +kernel
theorem d52 : decode yB 52 = .ok (.aload 5, 2) := by decide +kernel
theorem d54 : decode yB 54 = .ok (.putfield 9, 3) := by decide +kernel
theorem d57 : decode yB 57 = .ok (.return_, 1) := by decide +kernel
def site : List Cond := [.fieldLink "java/lang/String" 38 "java/lang/String" "COMPACT_STRINGS" "Z", Cmp3.tab, CodL.tab, .laysFinal "java/lang/String" "java/lang/String" "value" "[B", .fieldLink "java/lang/String" 9 "java/lang/String" "value" "[B", .laysFinal "java/lang/String" "java/lang/String" "coder" "B", .fieldLink "java/lang/String" 15 "java/lang/String" "coder" "B"] ++ objW "java/lang/String" 1 ++ staticW "java/lang/String" 177 Cmp3.yN ++ staticW "java/lang/String" 47 CodL.yN
def tab : Cond := tabOf yN yB 6 none site
def P (a : Addr) (D : Cell) (fV fC : Field) (b : Addr) (A : Cell) (z : Int32) (o len : Nat) (args : Array Value) (s : State) : Prop := args = #[.ref a, .ref b, .int (Int32.ofNat o), .int (Int32.ofNat len), .null] ∧ Blank "java/lang/String" a D s ∧ Found "java/lang/String" "value" "[B" fV s ∧ Found "java/lang/String" "coder" "B" fC s ∧ Ch b A s ∧ StaticIs s "java/lang/String" "COMPACT_STRINGS" "Z" (.int z) ∧ ¬ z = 0 ∧ 0 < len ∧ o + len ≤ A.slots.size ∧ len ≤ 536870912 ∧ ∀ i, i < len → ¬ 255 < cv A (o + i)
def E (a : Addr) (D : Cell) (fV fC : Field) (A : Cell) (o len : Nat) (r : Option Value) (s u : State) : Prop := Got a D fV fC A o len r s u
/-- len > 0, no char of the range above 255: a Latin-1 String of their low bytes -/
theorem law (l : Launch) (a : Addr) (D : Cell) (fV fC : Field) (b : Addr) (A : Cell) (z : Int32) (o len : Nat) : Law l yN 5 4 2 35 yB 6 none site (P a D fV fC b A z o len) (E a D fV fC A o len) [⟨a, fC.slot⟩, ⟨a, fV.slot⟩] 1 len := by
  refine Law.of_walk (plainFor_of_name (by decide +kernel)) (by decide +kernel) (by decide +kernel) (by decide) (fun _ _ h => by rw [h.1]; rfl) (fun _ U U' hal hh h => ⟨h.1, h.2.1.mv hal hh, h.2.2.1.al hal, h.2.2.2.1.al hal, h.2.2.2.2.1.mv hal hh, h.2.2.2.2.2.1.there hal hh, h.2.2.2.2.2.2⟩) (fun r U U' V V' h1 hal h2 h => Got.mv r U U' V V' h1 hal h2 h) ?_
  intro p e s m args below meth c s₁ X0 hexec hbytes hml hret hlk hnm hown hh0 W hP
  obtain ⟨rfl, hB, f1, f2, hA, s1, hz, l0, l1, l2, hp⟩ := hP
  have a31 := hA.1.2.2.2
  have c1 : Steps p.tables e below (s₁.setTop (entryFrame m #[.ref a, .ref b, .int (Int32.ofNat o), .int (Int32.ofNat len), .null] 6)) (s₁.setTop (mkF m 0 #[.val (.ref a), .val (.ref b), .val (.int (Int32.ofNat o)), .val (.int (Int32.ofNat len)), .val .null, .unset] [])) := entry rfl
  have c2 : Steps p.tables e below (s₁.setTop (entryFrame m #[.ref a, .ref b, .int (Int32.ofNat o), .int (Int32.ofNat len), .null] 6)) (s₁.setTop (mkF m 1 #[.val (.ref a), .val (.ref b), .val (.int (Int32.ofNat o)), .val (.int (Int32.ofNat len)), .val .null, .unset] [.ref a])) := c1.trans (by
    refine XS.aloadN X0.here hexec rfl (hb hbytes d0) rfl rfl ?_
    exact Steps.refl _)
  obtain ⟨T3, X3, q3, st3⟩ := X0.oinit hexec hown (wks W (objW "java/lang/String" 1)) (g := (mkF m 1 #[.val (.ref a), .val (.ref b), .val (.int (Int32.ofNat o)), .val (.int (Int32.ofNat len)), .val .null, .unset] [.ref a])) rfl (by rw [hml]; rfl) (rest := []) rfl (hb hbytes d1) (W := 0) (by show 2 * 0 + 0 ≤ _; decide) (Nat.le_of_ble_eq_true rfl) (Nat.le_of_ble_eq_true rfl)
  have hh3 := q3.trans hh0
  have c4 : Steps p.tables e below (s₁.setTop (entryFrame m #[.ref a, .ref b, .int (Int32.ofNat o), .int (Int32.ofNat len), .null] 6)) (T3.setTop (mkF m 27 #[.val (.ref a), .val (.ref b), .val (.int (Int32.ofNat o)), .val (.int (Int32.ofNat len)), .val .null, .unset] [])) := (c2.trans (st3 _ (Steps.refl _))).trans (by
    refine XS.iloadN X3.here hexec rfl (hb hbytes d4) rfl ?_
    refine XS.ifYes X3.here hexec rfl (pc0 := 5) rfl (hb hbytes d5) rfl (i0_ne_t (nz32 (by omega) l0)) (by decide) rfl ?_
    exact Steps.refl _)
  obtain ⟨T5, X5, q5, st5⟩ := X3.sget hexec hown (wk W (.fieldLink "java/lang/String" 38 "java/lang/String" "COMPACT_STRINGS" "Z")) s1 (fun _ _ h => by rw [hh3]; exact h) (g := (mkF m 27 #[.val (.ref a), .val (.ref b), .val (.int (Int32.ofNat o)), .val (.int (Int32.ofNat len)), .val .null, .unset] [])) rfl (hb hbytes d27)
  have hh5 := q5.trans hh3
  have c6 : Steps p.tables e below (s₁.setTop (entryFrame m #[.ref a, .ref b, .int (Int32.ofNat o), .int (Int32.ofNat len), .null] 6)) (T5.setTop (mkF m 30 #[.val (.ref a), .val (.ref b), .val (.int (Int32.ofNat o)), .val (.int (Int32.ofNat len)), .val .null, .unset] [.int z])) := c4.trans (st5 _ (Steps.refl _))
  have c7 : Steps p.tables e below (s₁.setTop (entryFrame m #[.ref a, .ref b, .int (Int32.ofNat o), .int (Int32.ofNat len), .null] 6)) (T5.setTop (mkF m 36 #[.val (.ref a), .val (.ref b), .val (.int (Int32.ofNat o)), .val (.int (Int32.ofNat len)), .val .null, .unset] [.int (Int32.ofNat len), .int (Int32.ofNat o), .ref b])) := c6.trans (by
    refine XS.ifNo X5.here hexec rfl (hb hbytes d30) rfl (i0_eq_f hz) ?_
    refine XS.aloadN X5.here hexec rfl (hb hbytes d33) rfl rfl ?_
    refine XS.iloadN X5.here hexec rfl (hb hbytes d34) rfl ?_
    refine XS.iloadN X5.here hexec rfl (hb hbytes d35) rfl ?_
    exact Steps.refl _)
  obtain ⟨v8, T8, X8, E8, g8⟩ := X5.callS hexec (Cmp3.law l b A o len) hown (wks W (staticW "java/lang/String" 177 Cmp3.yN)) (wk W Cmp3.tab) (W := 0) (Nat.le_of_ble_eq_true rfl) (Nat.le_of_ble_eq_true rfl) (Nat.le_refl _) (by show 0 + len ≤ len; omega) (g := (mkF m 36 #[.val (.ref a), .val (.ref b), .val (.int (Int32.ofNat o)), .val (.int (Int32.ofNat len)), .val .null, .unset] [.int (Int32.ofNat len), .int (Int32.ofNat o), .ref b])) rfl (by rw [hml]; rfl) c7 (argsL := [.ref b, .int (Int32.ofNat o), .int (Int32.ofNat len)]) (rest := []) rfl rfl (by show 2 * 0 + 0 ≤ _; decide) (hb hbytes d36) (⟨rfl, hA.mv X5.warmed.alike hh5, l1, l2, hp⟩)
  obtain ⟨e8, z8⟩ := E8
  obtain ⟨rfl, N, n1, n2, n3, n4, n5, n6⟩ := NewArr.mv _ T5 s _ _ hh5.symm (Vm.Alike.refl _) rfl e8
  rw [hh5] at z8
  have hB1 := hB.keep X8.warmed.alike (n6 _ _ hB.1)
  have hne : s.heap.size ≠ a := (Nat.ne_of_lt (Array.getElem?_eq_some_iff.mp hB.1).1).symm
  have c9 : Steps p.tables e below (s₁.setTop (entryFrame m #[.ref a, .ref b, .int (Int32.ofNat o), .int (Int32.ofNat len), .null] 6)) (T8.setTop (mkF m 39 #[.val (.ref a), .val (.ref b), .val (.int (Int32.ofNat o)), .val (.int (Int32.ofNat len)), .val .null, .unset] [.ref s.heap.size])) := g8
  have c10 : Steps p.tables e below (s₁.setTop (entryFrame m #[.ref a, .ref b, .int (Int32.ofNat o), .int (Int32.ofNat len), .null] 6)) (T8.setTop (mkF m 45 #[.val (.ref a), .val (.ref b), .val (.int (Int32.ofNat o)), .val (.int (Int32.ofNat len)), .val .null, .val (.ref s.heap.size)] [.int (Int32.ofNat N.slots.size), .ref s.heap.size, .ref a])) := by
    have hc : Steps p.tables e below (s₁.setTop (entryFrame m #[.ref a, .ref b, .int (Int32.ofNat o), .int (Int32.ofNat len), .null] 6)) (T8.setTop (mkF m 45 #[.val (.ref a), .val (.ref b), .val (.int (Int32.ofNat o)), .val (.int (Int32.ofNat len)), .val .null, .val (.ref s.heap.size)] [.int (Int32.ofNat len), .ref s.heap.size, .ref a])) := c9.trans (by
      refine XS.astore X8.here hexec rfl (hb hbytes d39) rfl rfl rfl ?_
      refine XS.aloadN X8.here hexec rfl (hb hbytes d41) rfl rfl ?_
      refine XS.aload X8.here hexec rfl (hb hbytes d42) rfl rfl ?_
      refine XS.iloadN X8.here hexec rfl (hb hbytes d44) rfl ?_
      exact Steps.refl _)
    rw [n4]; exact hc
  obtain ⟨v11, T11, X11, E11, g11⟩ := X8.callS hexec (CodL.law l s.heap.size N) hown (wks W (staticW "java/lang/String" 47 CodL.yN)) (wk W CodL.tab) (W := 1) (Nat.le_of_ble_eq_true rfl) (Nat.le_of_ble_eq_true rfl) (Nat.le_refl _) (by show 0 + len + 0 ≤ len; omega) (g := (mkF m 45 #[.val (.ref a), .val (.ref b), .val (.int (Int32.ofNat o)), .val (.int (Int32.ofNat len)), .val .null, .val (.ref s.heap.size)] [.int (Int32.ofNat N.slots.size), .ref s.heap.size, .ref a])) rfl (by rw [hml]; rfl) c10 (argsL := [.ref s.heap.size, .int (Int32.ofNat N.slots.size)]) (rest := [.ref a]) rfl rfl (by show 2 * 0 + (1 + 0) ≤ _; decide) (hb hbytes d45) (⟨rfl, n1⟩)
  obtain ⟨rfl, q11⟩ := E11
  have hB11 := hB1.mv (X8.warmed.alike.symm.trans X11.warmed.alike) q11
  have c12 : Steps p.tables e below (s₁.setTop (entryFrame m #[.ref a, .ref b, .int (Int32.ofNat o), .int (Int32.ofNat len), .null] 6)) (T11.setTop (mkF m 48 #[.val (.ref a), .val (.ref b), .val (.int (Int32.ofNat o)), .val (.int (Int32.ofNat len)), .val .null, .val (.ref s.heap.size)] [.int 0, .ref a])) := g11
  obtain ⟨T13, X13, p13, bl13, sl13, st13⟩ := X11.finit hexec hown (wk W (.fieldLink "java/lang/String" 15 "java/lang/String" "coder" "B")) (Or.inr ⟨_, (wk W (.laysFinal "java/lang/String" "java/lang/String" "coder" "B"))⟩) (Or.inl ⟨rfl, hnm⟩) f2 (Or.inl rfl) hB11 (t := .byte) (by decide +kernel) rfl (g := (mkF m 48 #[.val (.ref a), .val (.ref b), .val (.int (Int32.ofNat o)), .val (.int (Int32.ofNat len)), .val .null, .val (.ref s.heap.size)] [.int 0, .ref a])) rfl (rest := []) rfl (hb hbytes d48)
  have c14 : Steps p.tables e below (s₁.setTop (entryFrame m #[.ref a, .ref b, .int (Int32.ofNat o), .int (Int32.ofNat len), .null] 6)) (T13.setTop (mkF m 54 #[.val (.ref a), .val (.ref b), .val (.int (Int32.ofNat o)), .val (.int (Int32.ofNat len)), .val .null, .val (.ref s.heap.size)] [.ref s.heap.size, .ref a])) := (c12.trans (st13 _ (Steps.refl _))).trans (by
    refine XS.aloadN X13.here hexec rfl (hb hbytes d51) rfl rfl ?_
    refine XS.aload X13.here hexec rfl (hb hbytes d52) rfl rfl ?_
    exact Steps.refl _)
  obtain ⟨T15, X15, p15, bl15, sl15, st15⟩ := X13.finit hexec hown (wk W (.fieldLink "java/lang/String" 9 "java/lang/String" "value" "[B")) (Or.inr ⟨_, (wk W (.laysFinal "java/lang/String" "java/lang/String" "value" "[B"))⟩) (Or.inl ⟨rfl, hnm⟩) f1 (Or.inl rfl) bl13 (t := (.array .byte)) (by decide +kernel) rfl (g := (mkF m 54 #[.val (.ref a), .val (.ref b), .val (.int (Int32.ofNat o)), .val (.int (Int32.ofNat len)), .val .null, .val (.ref s.heap.size)] [.ref s.heap.size, .ref a])) rfl (rest := []) rfl (hb hbytes d54)
  have c16 : Steps p.tables e below (s₁.setTop (entryFrame m #[.ref a, .ref b, .int (Int32.ofNat o), .int (Int32.ofNat len), .null] 6)) (T15.setTop (mkF m 57 #[.val (.ref a), .val (.ref b), .val (.int (Int32.ofNat o)), .val (.int (Int32.ofNat len)), .val .null, .val (.ref s.heap.size)] [])) := c14.trans (st15 _ (Steps.refl _))
  have ap := apart (Or.inr ⟨_, (wk W (.laysFinal "java/lang/String" "java/lang/String" "value" "[B"))⟩) (Or.inr ⟨_, (wk W (.laysFinal "java/lang/String" "java/lang/String" "coder" "B"))⟩) f1 f2 (t₁ := .array .byte) (t₂ := .byte) (by decide +kernel) (by decide +kernel) (by decide)
  have al := X8.warmed.alike.symm.trans X15.warmed.alike
  have n7 : T11.heap[s.heap.size]? = some N := by rw [q11]; exact n1.1
  exact ⟨T15, none, _, _, _, X15, by simp, rfl, by omega, (fun _ => rfl), ⟨rfl, _, N, bl15, ((Same.refl D _).set _ (by simp)).set _ (by simp), sl15, (Cell.slots_setSlot_ne _ ap).trans sl13, n1.keep al (p15.other hne (p13.other hne n7)), n2, by rw [al.findClass]; exact n3, n4, n5, fun y c h1 h2 => p15.other h1 (p13.other h1 (by rw [q11]; exact n6 y c h2)), by rw [p15.2.2, p13.2.2, q11]; exact z8⟩, fun fs hl => c16.trans (X15.returnOut hexec hret (hb hbytes d57) hl)⟩
end New4
namespace New1
def yN : MethodName := ⟨"java/lang/String", "<init>", "([C)V"⟩
abbrev yB : ByteArray := jdk_42_method_3_code
theorem d0 : decode yB 0 = .ok (.aload_n 0, 1) := by decide +kernel
theorem d1 : decode yB 1 = .ok (.aload_n 1, 1) := by decide +kernel
theorem d2 : decode yB 2 = .ok (.iconst 0, 1) := by decide +kernel
theorem d3 : decode yB 3 = .ok (.aload_n 1, 1) := by decide +kernel
theorem d4 : decode yB 4 = .ok (.arraylength, 1) := by decide +kernel
theorem d5 : decode yB 5 = .ok (.aconst_null, 1) := by decide +kernel
theorem d6 : decode yB 6 = .ok (.invokespecial 27, 3) := by decide +kernel
theorem d9 : decode yB 9 = .ok (.return_, 1) := by decide +kernel
def site : List Cond := [New4.tab] ++ initW "java/lang/String" 27 New4.yN
def tab : Cond := tabOf yN yB 2 none site
def P (a : Addr) (D : Cell) (fV fC : Field) (b : Addr) (A : Cell) (z : Int32) (args : Array Value) (s : State) : Prop := args = #[.ref a, .ref b] ∧ Blank "java/lang/String" a D s ∧ Found "java/lang/String" "value" "[B" fV s ∧ Found "java/lang/String" "coder" "B" fC s ∧ Ch b A s ∧ StaticIs s "java/lang/String" "COMPACT_STRINGS" "Z" (.int z) ∧ ¬ z = 0 ∧ 0 < A.slots.size ∧ A.slots.size ≤ 536870912 ∧ ∀ i, i < A.slots.size → ¬ 255 < cv A i
def E (a : Addr) (D : Cell) (fV fC : Field) (A : Cell) (r : Option Value) (s u : State) : Prop := Got a D fV fC A 0 A.slots.size r s u
/-- new String(chars), not empty, no char above 255: a Latin-1 String of their low bytes -/
theorem law (l : Launch) (a : Addr) (D : Cell) (fV fC : Field) (b : Addr) (A : Cell) (z : Int32) : Law l yN 2 1 3 52 yB 2 none site (P a D fV fC b A z) (E a D fV fC A) [⟨a, fC.slot⟩, ⟨a, fV.slot⟩] 1 A.slots.size := by
  refine Law.of_walk (plainFor_of_name (by decide +kernel)) (by decide +kernel) (by decide +kernel) (by decide) (fun _ _ h => by rw [h.1]; rfl) (fun _ U U' hal hh h => ⟨h.1, h.2.1.mv hal hh, h.2.2.1.al hal, h.2.2.2.1.al hal, h.2.2.2.2.1.mv hal hh, h.2.2.2.2.2.1.there hal hh, h.2.2.2.2.2.2⟩) (fun r U U' V V' h1 hal h2 h => Got.mv r U U' V V' h1 hal h2 h) ?_
  intro p e s m args below meth c s₁ X0 hexec hbytes hml hret hlk hnm hown hh0 W hP
  obtain ⟨rfl, hB, f1, f2, hA, s1, hz, l0, l2, hp⟩ := hP
  have c1 : Steps p.tables e below (s₁.setTop (entryFrame m #[.ref a, .ref b] 2)) (s₁.setTop (mkF m 0 #[.val (.ref a), .val (.ref b)] [])) := entry rfl
  have c2 : Steps p.tables e below (s₁.setTop (entryFrame m #[.ref a, .ref b] 2)) (s₁.setTop (mkF m 6 #[.val (.ref a), .val (.ref b)] [.null, .int (Int32.ofNat A.slots.size), .int 0, .ref b, .ref a])) := c1.trans (by
    refine XS.aloadN X0.here hexec rfl (hb hbytes d0) rfl rfl ?_
    refine XS.aloadN X0.here hexec rfl (hb hbytes d1) rfl rfl ?_
    refine iconstV X0.here hexec rfl 0 (hb hbytes d2) (by decide) ?_
    refine XS.aloadN X0.here hexec rfl (hb hbytes d3) rfl rfl ?_
    refine X0.alen hexec (hA.1.mv X0.warmed.alike hh0) rfl rfl (hb hbytes d4) ?_
    refine XS.aconstNull X0.here hexec rfl (hb hbytes d5) ?_
    exact Steps.refl _)
  obtain ⟨v3, T3, X3, E3, g3⟩ := X0.callN hexec (New4.law l a D fV fC b A z 0 A.slots.size) rfl hown (wks W (initW "java/lang/String" 27 New4.yN)) (W New4.tab (by simp only [site, List.mem_cons, List.mem_append, true_or, or_true])) (W := 0) (Nat.le_of_ble_eq_true rfl) (Nat.le_of_ble_eq_true rfl) (Nat.le_refl _) (by show 0 + A.slots.size ≤ A.slots.size; omega) (g := (mkF m 6 #[.val (.ref a), .val (.ref b)] [.null, .int (Int32.ofNat A.slots.size), .int (Int32.ofNat 0), .ref b, .ref a])) rfl (by rw [hml]; rfl) c2 (argsL := [.ref b, .int (Int32.ofNat 0), .int (Int32.ofNat A.slots.size), .null]) (rest := []) rfl rfl (by show 2 * 0 + 0 ≤ _; decide) (hb hbytes d6) (⟨rfl, hB.mv X0.warmed.alike hh0, f1.al X0.warmed.alike, f2.al X0.warmed.alike, hA.mv X0.warmed.alike hh0, s1.there X0.warmed.alike hh0, hz, l0, by omega, l2, fun i hi => by rw [Nat.zero_add]; exact hp i hi⟩)
  have e0 := Got.mv _ s₁ s _ _ hh0.symm (Vm.Alike.refl _) rfl E3
  obtain rfl := e0.1
  have c4 : Steps p.tables e below (s₁.setTop (entryFrame m #[.ref a, .ref b] 2)) (T3.setTop (mkF m 9 #[.val (.ref a), .val (.ref b)] [])) := g3
  exact ⟨T3, none, _, _, _, X3, by simp, rfl, by omega, (fun _ => rfl), e0, fun fs hl => c4.trans (X3.returnOut hexec hret (hb hbytes d9) hl)⟩
theorem pays {l : Launch} {R : Room} {p : Program} {e : Env} {below : List Frame} {s : State} {sargs : Array Value} {len W : Nat} (a : Addr) (D : Cell) (fV fC : Field) (b : Addr) (A : Cell) (z : Int32) (htab : tab.before sargs s = true) (hfr : 4 ≤ R.frames) (hlo : W + 65 ≤ R.locals) :
    Back l R p e below s sargs yN len W (fun A₁ a₁ => A₁.cells + 1 ≤ R.cells ∧ A₁.slots + A.slots.size ≤ R.slots ∧ P a D fV fC b A z a₁ A₁.U) (fun A₁ _ v₁ B₁ => E a D fV fC A v₁ A₁.U B₁.U ∧ B₁.locs = A₁.locs ++ [⟨a, fC.slot⟩, ⟨a, fV.slot⟩] ∧ B₁.cells = A₁.cells + 1 ∧ B₁.slots = A₁.slots + A.slots.size) :=
  (law l a D fV fC b A z).pays htab hfr (by omega)
end New1
/-- the byte, read back as charAt reads it, is the char -/
theorem lo8_mask {x : Int32} (h0 : ¬ x < 0) (h1 : ¬ 255 < x) : lo8 x &&& 255 = x := by
  have t : ∀ k : Fin 256, lo8 (Int32.ofNat k.val) &&& 255 = Int32.ofNat k.val := by decide +kernel
  rw [Int32.lt_iff_toInt_lt] at h0 h1
  have e0 : (0 : Int32).toInt = 0 := rfl
  have e1 : (255 : Int32).toInt = 255 := rfl
  obtain ⟨k, hk⟩ : ∃ k : Nat, x.toInt = k := ⟨x.toInt.toNat, by omega⟩
  have hx : x = Int32.ofNat k := Int32.toInt_inj.mp (by rw [hk, Int32.toInt_ofNat_small (by omega)])
  rw [hx]
  exact t ⟨k, by omega⟩
end StrChars
namespace StrChars.Road
open Jvm Sem ClassFile Op Lib Jvm.Stand Jvm.Free Jvm.Free.XT
open Jvm.Lib.Cold (StaticIs)
abbrev ST : String := "java/lang/String"
/-- every table word that New1's law asks, flat -/
abbrev words : List Jvm.Cond := [.code New1.yN New1.yB 2 none, .initialized ST, .methodLink ST 27 New4.yN, .instanceMethod New4.yN,
  .code New4.yN New4.yB 6 none, .fieldLink ST 38 ST "COMPACT_STRINGS" "Z", .laysFinal ST ST "value" "[B", .fieldLink ST 9 ST "value" "[B", .laysFinal ST ST "coder" "B", .fieldLink ST 15 ST "coder" "B",
  .methodLink ST 1 Lib.objectInit, .instanceMethod Lib.objectInit, .code Lib.objectInit ⟨#[0xb1]⟩ 1 none, .methodLink ST 177 Cmp3.yN, .static Cmp3.yN, .methodLink ST 47 CodL.yN, .static CodL.yN,
  .code Cmp3.yN Cmp3.yB 6 (some (.array .byte)), .initialized U16, .arrayClass .byte, .methodLink U16 115 Cmp5.yN, .static Cmp5.yN, .code Cmp5.yN Cmp5.yB 7 (some .int), .code CodL.yN CodL.yB 2 (some .byte)]
theorem tab_of {a : Array Value} {s : State} (h : ∀ w ∈ words, w.before a s = true) : New1.tab.before a s = true := by
  have h5 : Cmp5.tab.before a s = true := unparts (wk h (.code Cmp5.yN Cmp5.yB 7 (some .int))) (wks h (.initialized Cmp5.yN.cls :: Cmp5.site))
  have hc : CodL.tab.before a s = true := unparts (wk h (.code CodL.yN CodL.yB 2 (some .byte))) (wks h (.initialized CodL.yN.cls :: CodL.site))
  have q5 : ∀ w ∈ Cmp5.tab :: words, w.before a s = true := fun w hw => (List.mem_cons.mp hw).elim (fun e => e ▸ h5) (h w)
  have h3 : Cmp3.tab.before a s = true := unparts (wk q5 (.code Cmp3.yN Cmp3.yB 6 (some (.array .byte)))) (wks q5 (.initialized Cmp3.yN.cls :: Cmp3.site))
  have q3 : ∀ w ∈ Cmp3.tab :: CodL.tab :: words, w.before a s = true := fun w hw => (List.mem_cons.mp hw).elim (fun e => e ▸ h3) fun hw => (List.mem_cons.mp hw).elim (fun e => e ▸ hc) (h w)
  have h4 : New4.tab.before a s = true := unparts (wk q3 (.code New4.yN New4.yB 6 none)) (wks q3 (.initialized New4.yN.cls :: New4.site))
  have q4 : ∀ w ∈ New4.tab :: words, w.before a s = true := fun w hw => (List.mem_cons.mp hw).elim (fun e => e ▸ h4) (h w)
  exact unparts (wk q4 (.code New1.yN New1.yB 2 none)) (wks q4 (.initialized New1.yN.cls :: New1.site))
/-- the words ride from the start Z to the walk's own state -/
theorem moved {Z s : State} {a0 args : Array Value} (hZ : Z.Warmed39 s.vm) (hw : ∀ d ∈ words, d.before a0 Z = true) : ∀ d ∈ words, d.before args s = true := fun d hd => by
  have q := hw d hd
  have t : ∀ d ∈ words, d = .arrayClass .byte ∨ (d.onTables && d.keepsFace) = true := by decide +kernel
  rcases t d hd with rfl | t
  · exact RoadKit.mvA hZ q
  · exact RoadKit.mv hZ q t
/-- WHAT COMES BACK, over the tables of the start Z: h the heap at the call, h' behind it -/
def Q (Z : State) (x : Addr) (A : Cell) (h : Heap) (v : Option Value) (h' : Heap) (L : List Loc) : Prop := v = none ∧ (∀ y ∈ L, y.base = x) ∧ RoadKit.Keep h h' [x] ∧ h'.size = h.size + 1 ∧ RoadKit.Exa Z h' x ST ∧ RoadKit.Fld Z h' x ST "value" "[B" (.ref h.size) ∧ RoadKit.Fld Z h' x ST "coder" "B" (.int 0) ∧
  (∃ V : Cell, RoadKit.Arr Z h' h.size V .byte ∧ V.vm = .none ∧ Z.vm.findClass "[B" = some V.cls ∧ V.slots.size = A.slots.size ∧ ∀ j, j < A.slots.size → V.slots[j]? = some (.int (lo8 (cv A j)))) ∧
  ∀ (O n d : String) (w : Value), RoadKit.Fld Z h x O n d w → RoadKit.slotOf Z O n d ≠ RoadKit.slotOf Z ST "value" "[B" → RoadKit.slotOf Z O n d ≠ RoadKit.slotOf Z ST "coder" "B" → RoadKit.Fld Z h' x O n d w
/-- **new String(chars) AT A CALL, IN THE ROAD'S FORM**: for specialBack behind newO: x the fresh String, b the char[] with the cell A -/
theorem back {p : Program} {l : Launch} {e : Env} {R : Room} {s : State} {args : Array Value} {below : List Frame} {len W : Nat} {Z : State} {a0 : Array Value} {h : Heap} (hZ : Z.Warmed39 s.vm) (hw : ∀ d ∈ words, d.before a0 Z = true) {kI : Nat} (wi : (Jvm.Cond.instantiable ST kI).before a0 Z = true)
    {x b : Addr} {A : Cell} {z : Int32} {v0 c0 : Value} (E : RoadKit.Exa Z h x ST) (V : RoadKit.Fld Z h x ST "value" "[B" v0) (C : RoadKit.Fld Z h x ST "coder" "B" c0) (K : RoadKit.Arr Z h b A .char) (hty : Typed .char A) (S : RoadKit.Sta Z h ST "COMPACT_STRINGS" "Z" (.int z)) (hz : ¬ z = 0)
    (l0 : 0 < A.slots.size) (l2 : A.slots.size ≤ 536870912) (hp : ∀ i, i < A.slots.size → ¬ 255 < cv A i) (hfr : 4 ≤ R.frames) (hlo : W + 65 ≤ R.locals) :
    Back l R p e below s args New1.yN len W (fun P a => a = #[.ref x, .ref b] ∧ P.U.heap = h ∧ P.cells + 1 ≤ R.cells ∧ P.slots + A.slots.size ≤ R.slots)
      (fun P _ v B => ∃ L, Q Z x A h v B.U.heap L ∧ B.locs = P.locs ++ L ∧ B.cells = P.cells + 1 ∧ B.slots = P.slots + A.slots.size) := by
  intro m meth c P g ig mk a X hg hsize hdg hW hn hp'
  obtain ⟨rfl, rfl, r1, r2⟩ := hp'
  have al : Z.vm.Alike P.U.vm := hZ.alike.trans X.warmed.alike
  obtain ⟨D, cfV, kV, iV, fV, hD, gV, stV, knV, obV, asV, slV⟩ := id V
  obtain ⟨D', cfC, kC, iC, fC, hD', gC, stC, -, -, asC, slC⟩ := id C
  cases hD.symm.trans hD'
  obtain ⟨D2, kD, e1, e2, e3, e4, e5⟩ := id E
  cases hD.symm.trans e1
  obtain ⟨c2, k2, i1, i2, i3, -⟩ := Cond.instantiable_spec wi
  cases e2.symm.trans i1
  cases e3.symm.trans i2
  obtain ⟨kU, u1, u2⟩ := al.2.2 _ _ e3
  have hB : Blank ST x D P.U := ⟨hD, ⟨knV, fun q hq => by rw [hq] at obV; cases obV⟩, by rw [al.findClass]; exact e2, kU, u1, by rw [u2]; exact i3, by rw [u2]; exact e5 i3⟩
  have F1 : Found ST "value" "[B" fV P.U := ⟨SBG.found_only al ⟨cfV, kV, iV, gV⟩, stV⟩
  have F2 : Found ST "coder" "B" fC P.U := ⟨SBG.found_only al ⟨cfC, kC, iC, gC⟩, stC⟩
  have hA : Ch b A P.U := ⟨⟨K.1, State.isArrayOf_alike al K.2.1, K.2.2, by omega⟩, hty⟩
  have hS : StaticIs P.U ST "COMPACT_STRINGS" "Z" (.int z) := by
    obtain ⟨cfS, iS, kS, fS, st, cS, t1, t2, t3, t4, t5, t6, t7⟩ := S
    exact StaticIs.there (s := { Z with heap := P.U.heap }) ⟨cfS, iS, kS, fS, st, cS, t1, t2, t3, t4, t5, (fun q => by rw [q] at t6; cases t6), t7⟩ al rfl
  obtain ⟨v, B, X', ⟨⟨hv, E', V', q1, q2, q3, q4, q5, q6, q7, q8, q9, q10, q11⟩, hl, hc, hs⟩, st⟩ := New1.pays x D fV fC b A z (tab_of (moved hZ hw)) hfr hlo m meth c P g ig mk _ X hg hsize hdg hW hn ⟨r1, r2, rfl, hB, F1, F2, hA, hS, hz, l0, l2, hp⟩
  have al' : Z.vm.Alike B.U.vm := hZ.alike.trans X'.warmed.alike
  have hsz : E'.slots.size = D.slots.size := by
    obtain ⟨-, -, -, kB, w1, w2, w3⟩ := q1
    obtain ⟨kB', y1, y2⟩ := al'.2.2 _ _ e3
    rw [q2.2.1] at w1
    cases w1.symm.trans y1
    rw [w3, e5 i3, y2]
  refine ⟨v, B, X', ⟨_, ⟨hv, ?_, ⟨by omega, fun y cy hy hn' => q10 y cy (by simpa using hn') hy, fun y cy hy => ?_⟩, q11, ⟨E', _, q1.1, by rw [q2.2.1]; exact e2, by rw [q2.2.1]; exact e3, by rw [q2.1]; exact obV, fun _ => by rw [hsz]; exact e5 i3⟩,
    ⟨E', cfV, kV, iV, fV, q1.1, gV, stV, by rw [q2.1]; exact knV, by rw [q2.1]; exact obV, by rw [q2.2.1]; exact asV, q3⟩, ⟨E', cfC, kC, iC, fC, q1.1, gC, stC, by rw [q2.1]; exact knV, by rw [q2.1]; exact obV, by rw [q2.2.1]; exact asC, q4⟩,
    ⟨V', ⟨q5.1, State.isArrayOf_alike al'.symm q5.2.1, q5.2.2.1⟩, q6, by rw [← al'.findClass]; exact q7, q8, fun j hj => by have := q9 j hj; rwa [Nat.zero_add] at this⟩, fun O n d w F n1 n2 => ?_⟩, hl, hc, hs⟩, st⟩
  · intro y hy
    simp only [List.mem_cons, List.not_mem_nil, or_false] at hy
    rcases hy with rfl | rfl <;> rfl
  · by_cases q : y = x
    · subst q
      cases hD.symm.trans hy
      exact ⟨E', q1.1, q2.2.1, q2.1, hsz⟩
    · exact ⟨cy, q10 y cy q hy, rfl, rfl, rfl⟩
  · obtain ⟨D3, cf, k, i, f, g1, g2, g3, g4, g5, g6, g7⟩ := F
    cases hD.symm.trans g1
    simp only [RoadKit.slotOf, g2, gV, gC, Option.map_some, Option.getD_some] at n1 n2
    exact ⟨E', cf, k, i, f, q1.1, g2, g3, by rw [q2.1]; exact g4, by rw [q2.1]; exact g5, by rw [q2.2.1]; exact g6, by rw [q2.2.2 f.slot (by simp [n1, n2])]; exact g7⟩
end StrChars.Road
namespace StrChars.Road
open Jvm Sem ClassFile Op Lib Jvm.Stand Jvm.Free Jvm.Free.XT
/-- WHAT COMES BACK, the byte[] as a list of values -/
def QA (Z : State) (x : Addr) (zn : Int32) (cs : List Int32) (h : Heap) (v : Option Value) (h' : Heap) (L : List Loc) : Prop := v = none ∧ (∀ y ∈ L, y.base = x) ∧ RoadKit.Keep h h' [x] ∧ h'.size = h.size + 1 ∧ RoadKit.Exa Z h' x ST ∧ RoadKit.Fld Z h' x ST "value" "[B" (.ref h.size) ∧ RoadKit.Fld Z h' x ST "coder" "B" (.int 0) ∧
  (∃ kb, Z.vm.findClass "[B" = some kb ∧ RoadKit.Arv Z h' h.size kb .byte zn (cs.map fun c => .int (lo8 c)) (.int 0)) ∧
  ∀ (O n d : String) (w : Value), RoadKit.Fld Z h x O n d w → RoadKit.slotOf Z O n d ≠ RoadKit.slotOf Z ST "value" "[B" → RoadKit.slotOf Z O n d ≠ RoadKit.slotOf Z ST "coder" "B" → RoadKit.Fld Z h' x O n d w
/-- **new String(chars) AT A CALL, THE ARRAYS AS LISTS**: the char[] at b holds cs, not empty, no char above 255 -/
theorem backArv {p : Program} {l : Launch} {e : Env} {R : Room} {s : State} {args : Array Value} {below : List Frame} {len W : Nat} {Z : State} {a0 : Array Value} {h : Heap} (hZ : Z.Warmed39 s.vm) (hw : ∀ d ∈ words, d.before a0 Z = true) {kI : Nat} (wi : (Jvm.Cond.instantiable ST kI).before a0 Z = true)
    {x b : Addr} {k : ClassId} {zn z : Int32} {cs : List Int32} {dv v0 c0 : Value} (E : RoadKit.Exa Z h x ST) (V : RoadKit.Fld Z h x ST "value" "[B" v0) (C : RoadKit.Fld Z h x ST "coder" "B" c0) (K : RoadKit.Arv Z h b k .char zn (cs.map Value.int) dv) (S : RoadKit.Sta Z h ST "COMPACT_STRINGS" "Z" (.int z)) (hz : ¬ z = 0)
    (hlen : zn.toNatClampNeg = cs.length) (h0 : 0 < cs.length) (hbig : cs.length ≤ 536870912) (hall : ∀ c ∈ cs, ¬ 255 < c) (hfr : 4 ≤ R.frames) (hlo : W + 65 ≤ R.locals) :
    Back l R p e below s args New1.yN len W (fun P a => a = #[.ref x, .ref b] ∧ P.U.heap = h ∧ P.cells + 1 ≤ R.cells ∧ P.slots + cs.length ≤ R.slots)
      (fun P _ v B => ∃ L, QA Z x zn cs h v B.U.heap L ∧ B.locs = P.locs ++ L ∧ B.cells = P.cells + 1 ∧ B.slots = P.slots + cs.length) := by
  obtain ⟨A, K1, K2, K3, K4, K5, K6⟩ := K
  have e : A.slots.size = cs.length := K3.trans hlen
  have hat : ∀ (i : Nat) (hi : i < cs.length), A.slots[i]? = some (.int cs[i]) := fun i hi => by rw [K5 i (by omega)]; simp [List.getD_eq_getElem?_getD, hi]
  have hcv : ∀ (i : Nat) (hi : i < cs.length), cv A i = cs[i] := fun i hi => by unfold cv; rw [hat i hi]
  have hty : Typed .char A := fun i v hv => by
    have hi : i < A.slots.size := (Array.getElem?_eq_some_iff.mp hv).1
    have q := K5 i hi
    rw [hv] at q
    rw [Option.some.inj q]
    exact K6 i hi
  refine Back.mono (back hZ hw wi E V C K1 hty S hz (by omega) (by omega) (fun i hi => by rw [hcv i (by omega)]; exact hall _ (List.getElem_mem _)) hfr hlo) (fun P a hp => ⟨hp.1, hp.2.1, hp.2.2.1, by rw [e]; exact hp.2.2.2⟩) (fun P a v B hp hq => ?_)
  obtain ⟨L, ⟨q1, q2, q3, q4, q5, q6, q7, ⟨V', v1, v2, v3, v4, v5⟩, q9⟩, hl, hc, hs⟩ := hq
  refine ⟨L, ⟨q1, q2, q3, q4, q5, q6, q7, ⟨V'.cls, v3, V', v1, rfl, by rw [v4, e, hlen], K4, fun i hi => ?_, fun i hi => ?_⟩, q9⟩, hl, hc, by rw [hs, e]⟩
  · have hi' : i < cs.length := by omega
    rw [v5 i (by omega), hcv i hi']; simp [List.getD_eq_getElem?_getD, hi']
  · have hi' : i < cs.length := by omega
    simp only [List.getD_eq_getElem?_getD, List.getElem?_map, List.getElem?_eq_getElem hi', Option.map_some, Option.getD_some]
    exact fits_lo8 _
end StrChars.Road
namespace StrChars.Road
open Jvm Sem ClassFile Op Lib Jvm.Stand Jvm.Free Jvm.Free.XT
/-- WHAT COMES BACK, in the writer's own shape -/
def QV (Z : State) (x : Addr) (N : Int32) (bs : List Int32) (h : Heap) (n0 : Nat) (v : Option Value) (h' : Heap) (L : List Loc) : Prop := v = none ∧ RoadKit.Fr n0 L ∧ RoadKit.Keep h h' [x] ∧ RoadKit.Exa Z h' x ST ∧ RoadKit.Fld Z h' x ST "coder" "B" (.int 0) ∧
  ∃ (t : Addr) (kb : ClassId), n0 ≤ t ∧ h.size ≤ t ∧ ¬ t = x ∧ RoadKit.Fld Z h' x ST "value" "[B" (.ref t) ∧ RoadKit.Arv Z h' t kb .byte N (bs.map Value.int) (.int 0)
/-- **new String(chars) AT A CALL, FOR THE WRITER**: a char[] of n known ints, each 0 to 255 -/
theorem backV {p : Program} {l : Launch} {e : Env} {R : Room} {s : State} {args : Array Value} {below : List Frame} {len W : Nat} {Z : State} {a0 : Array Value} {h : Heap} (hZ : Z.Warmed39 s.vm) (hw : ∀ d ∈ words, d.before a0 Z = true) {kI : Nat} (wi : (Jvm.Cond.instantiable ST kI).before a0 Z = true)
    {x b : Addr} {kC : ClassId} {cs bs : List Int32} {d v0 c0 : Value} {z N : Int32} {n n0 : Nat} (hx0 : n0 ≤ x) (hh0 : n0 ≤ h.size) (E : RoadKit.Exa Z h x ST) (V : RoadKit.Fld Z h x ST "value" "[B" v0) (C : RoadKit.Fld Z h x ST "coder" "B" c0) (K : RoadKit.Arv Z h b kC .char N (cs.map Value.int) d) (S : RoadKit.Sta Z h ST "COMPACT_STRINGS" "Z" (.int z)) (hz : ¬ z = 0)
    (hn : cs.length = n) (hN : N = Int32.ofNat n) (l0 : 0 < n) (l2 : n ≤ 4000) (hp : ∀ c ∈ cs, ¬ c < 0 ∧ ¬ (255 : Int32) < c) (hb : bs = cs.map (fun c => c.toInt8.toInt32)) (hfr : 4 ≤ R.frames) (hlo : W + 65 ≤ R.locals) :
    Back l R p e below s args (⟨"java/lang/String", "<init>", "([C)V"⟩ : MethodName) len W (fun P a => a = #[.ref x, .ref b] ∧ P.U.heap = h ∧ P.cells + 1 ≤ R.cells ∧ P.slots + n ≤ R.slots)
      (fun P _ v B => ∃ L, QV Z x N bs h n0 v B.U.heap L ∧ B.locs = P.locs ++ L ∧ B.cells = P.cells + 1 ∧ B.slots = P.slots + n) := by
  subst hn hN hb
  refine Back.mono (backArv hZ hw wi E V C K S hz (n32 (by omega)) l0 (by omega) (fun c hc => (hp c hc).2) hfr hlo) (fun P a hp => hp) (fun P a v B hp hq => ?_)
  obtain ⟨L, ⟨q1, q2, q3, q4, q5, q6, q7, ⟨kb, v1, v2⟩, q9⟩, hl, hc, hs⟩ := hq
  exact ⟨L, ⟨q1, fun y hy => by rw [q2 y hy]; exact hx0, q3, q5, q7, h.size, kb, hh0, Nat.le_refl _, Nat.ne_of_gt E.lt, q6, by rw [List.map_map]; exact v2⟩, hl, hc, hs⟩
end StrChars.Road
namespace StrChars
open Jvm Sem ClassFile Op Lib Jvm.Stand Jvm.Free.XT Jvm.Free.ALB Jvm.Free.JM Jvm.Free
open Jvm.Lib.Cold (StaticIs)
def hi8 (x : Int32) : Int32 := lo8 (x >>> ((8 : Int32) &&& 31))
/-- what StringUTF16.getChar makes of two bytes -/
def pairCh (u v : Int32) : Int32 := (((u &&& 255) <<< ((0 : Int32) &&& 31)) ||| ((v &&& 255) <<< ((8 : Int32) &&& 31))).toUInt32.toUInt16.toUInt32.toInt32
theorem shr0 (c : Int32) : c >>> ((0 : Int32) &&& 31) = c := by
  have e : ((0 : Int32) &&& 31) = 0 := by decide
  rw [e]
  apply Int32.toBitVec_inj.mp
  rw [Int32.toBitVec_shiftRight]
  have e1 : ((0 : Int32).toBitVec.smod 32) = 0#32 := by decide
  rw [e1, BitVec.sshiftRight_eq']
  exact BitVec.sshiftRight_zero
theorem lo8_and (x : Int32) : (lo8 x &&& 255).toBitVec.toNat = x.toBitVec.toNat % 256 := by
  have h : (lo8 x).toBitVec = (x.toBitVec.signExtend 8).signExtend 32 := by rw [lo8, Int8.toBitVec_toInt32, Int32.toBitVec_toInt8]
  rw [Int32.toBitVec_and, BitVec.toNat_and, h]
  have e : ((x.toBitVec.signExtend 8).signExtend 32).toNat % 256 = x.toBitVec.toNat % 256 := by
    rw [BitVec.toNat_signExtend]
    have hlt := x.toBitVec.isLt
    simp only [BitVec.toNat_setWidth, BitVec.toNat_signExtend]
    split <;> split <;> omega
  rw [← e]
  exact Nat.and_two_pow_sub_one_eq_mod _ 8
theorem pair_says {c : Int32} (h0 : ¬ c < 0) (h1 : ¬ 65535 < c) : pairCh (lo8 c) (hi8 c) = c := by
  rw [Int32.lt_iff_toInt_lt] at h0 h1
  have e0 : (0 : Int32).toInt = 0 := rfl
  have e1 : (65535 : Int32).toInt = 65535 := rfl
  have hc : c.toInt = c.toBitVec.toNat := by
    have := c.toBitVec.isLt
    have e : c.toInt = c.toBitVec.toInt := rfl
    rw [e] at h0 h1
    rw [e]
    rw [BitVec.toInt_eq_toNat_cond] at h0 h1 ⊢
    split at h0 <;> split <;> omega
  have hn : c.toBitVec.toNat < 65536 := by omega
  have a1 := lo8_and c
  have a2 : (hi8 c &&& 255).toBitVec.toNat = c.toBitVec.toNat / 256 := by
    rw [hi8, lo8_and]
    have e : ((8 : Int32) &&& 31) = 8 := by decide
    rw [e, Int32.toBitVec_shiftRight]
    have e2 : ((8 : Int32).toBitVec.smod 32) = 8#32 := by decide
    rw [e2, BitVec.sshiftRight_eq', BitVec.toNat_sshiftRight_of_msb_false (by rw [BitVec.msb_eq_false_iff_two_mul_lt]; omega)]
    show c.toBitVec.toNat >>> 8 % 256 = _
    rw [Nat.shiftRight_eq_div_pow]
    omega
  unfold pairCh
  apply Int32.toBitVec_inj.mp
  apply BitVec.eq_of_toNat_eq
  have f0 : ((0 : Int32) &&& 31) = 0 := by decide
  have f8 : ((8 : Int32) &&& 31) = 8 := by decide
  rw [f0, f8]
  have g : (((lo8 c &&& 255) <<< (0 : Int32)) ||| ((hi8 c &&& 255) <<< (8 : Int32))).toBitVec.toNat = c.toBitVec.toNat := by
    rw [Int32.toBitVec_or, Int32.toBitVec_shiftLeft, Int32.toBitVec_shiftLeft]
    have s0 : ((0 : Int32).toBitVec.smod 32) = 0#32 := by decide
    have s8 : ((8 : Int32).toBitVec.smod 32) = 8#32 := by decide
    rw [s0, s8, BitVec.toNat_or]
    simp only [BitVec.shiftLeft_eq', BitVec.toNat_shiftLeft, a1, a2]
    show (c.toBitVec.toNat % 256) <<< 0 % 2 ^ 32 ||| (c.toBitVec.toNat / 256) <<< 8 % 2 ^ 32 = _
    rw [Nat.shiftLeft_zero, Nat.mod_eq_of_lt (show c.toBitVec.toNat % 256 < 2 ^ 32 by omega), Nat.mod_eq_of_lt (show (c.toBitVec.toNat / 256) <<< 8 < 2 ^ 32 by rw [Nat.shiftLeft_eq]; omega), Nat.or_comm, ← Nat.shiftLeft_add_eq_or_of_lt (by omega), Nat.shiftLeft_eq]
    omega
  show BitVec.toNat (((((lo8 c &&& 255) <<< (0 : Int32)) ||| ((hi8 c &&& 255) <<< (8 : Int32))).toBitVec.setWidth 16).setWidth 32) = _
  rw [BitVec.toNat_setWidth, BitVec.toNat_setWidth, g]
  omega
end StrChars
namespace StrChars
open Jvm Sem ClassFile Op Lib Jvm.Stand Jvm.Free.XT Jvm.Free.ALB Jvm.Free.JM Jvm.Free
open Jvm.Lib.Cold (StaticIs)
theorem shr1 {n : Nat} (h : 2 * n < 2 ^ 31) : Int32.ofNat (2 * n) >>> ((1 : Int32) &&& 31) = Int32.ofNat n := by
  have e : ((1 : Int32) &&& 31) = 1 := by decide
  rw [e]
  apply Int32.toBitVec_inj.mp
  rw [Int32.toBitVec_shiftRight]
  have e1 : ((1 : Int32).toBitVec.smod 32) = 1#32 := by decide
  have hm : (BitVec.ofNat 32 (2 * n)).toNat = 2 * n := by rw [BitVec.toNat_ofNat, Nat.mod_eq_of_lt (by omega)]
  rw [e1, BitVec.sshiftRight_eq']
  apply BitVec.eq_of_toNat_eq
  show ((BitVec.ofNat 32 (2 * n)).sshiftRight 1).toNat = (BitVec.ofNat 32 n).toNat
  rw [BitVec.toNat_sshiftRight_of_msb_false (by rw [BitVec.msb_eq_false_iff_two_mul_lt, hm]; omega), hm, BitVec.toNat_ofNat, Nat.shiftRight_eq_div_pow]
  omega
/-- charAt's cast of a byte read back -/
def chr8 (u : Int32) : Int32 := (u &&& 255).toUInt32.toUInt16.toUInt32.toInt32
theorem chr8_lo8 {c : Int32} (h0 : ¬ c < 0) (h1 : ¬ 255 < c) : chr8 (lo8 c) = c := by
  have t : ∀ k : Fin 256, (Int32.ofNat k.val).toUInt32.toUInt16.toUInt32.toInt32 = Int32.ofNat k.val := by decide +kernel
  unfold chr8
  rw [lo8_mask h0 h1]
  rw [Int32.lt_iff_toInt_lt] at h0 h1
  have e0 : (0 : Int32).toInt = 0 := rfl
  have e1 : (255 : Int32).toInt = 255 := rfl
  obtain ⟨k, hk⟩ : ∃ k : Nat, c.toInt = k := ⟨c.toInt.toNat, by omega⟩
  have hx : c = Int32.ofNat k := Int32.toInt_inj.mp (by rw [hk, Int32.toInt_ofNat_small (by omega)])
  rw [hx]
  exact t ⟨k, by omega⟩
theorem narrow_ch {c : Int32} (h0 : ¬ c < 0) (h1 : ¬ 65535 < c) : narrow .char (.int c) = .int c := by
  have q : narrow .char (.int (pairCh (lo8 c) (hi8 c))) = .int (pairCh (lo8 c) (hi8 c)) := narrow_c _
  rwa [pair_says h0 h1] at q
/-- the array's cell V codes the n chars f 0 .. f (n - 1) by the coder cd, as the JDK does: coder 1 just where some char is above 255 -/
def Cod (cd : Int32) (n : Nat) (f : Nat → Int32) (V : Cell) : Prop := (cd = 0 ∧ V.slots.size = n ∧ ∀ j, j < n → V.slots[j]? = some (.int (lo8 (f j))) ∧ ¬ 255 < f j) ∨ (cd = 1 ∧ V.slots.size = 2 * n ∧ (∀ j, j < n → V.slots[2 * j]? = some (.int (lo8 (f j))) ∧ V.slots[2 * j + 1]? = some (.int (hi8 (f j)))) ∧ ∃ j, j < n ∧ 255 < f j)
theorem Cod.cd {cd : Int32} {n : Nat} {f : Nat → Int32} {V : Cell} (h : Cod cd n f V) : cd = 0 ∨ cd = 1 := h.imp (fun q => q.1) fun q => q.1
theorem Cod.len {cd : Int32} {n : Nat} {f : Nat → Int32} {V : Cell} (h : Cod cd n f V) (hs : V.slots.size < 2 ^ 31) : Int32.ofNat V.slots.size >>> (cd &&& 31) = Int32.ofNat n := by
  rcases h with ⟨rfl, h, -⟩ | ⟨rfl, h, -⟩
  · rw [shr0, h]
  · rw [h, shr1 (by omega)]
/-- **x is a String of the n chars f 0 .. f (n - 1)**, Latin-1 or UTF-16; its array at t has the cell V -/
def Txt (x t : Addr) (V : Cell) (cd : Int32) (n : Nat) (f : Nat → Int32) (U : State) : Prop := Exact "java/lang/String" x U ∧ Has x "java/lang/String" "value" "[B" (.ref t) U ∧ Has x "java/lang/String" "coder" "B" (.int cd) U ∧ XT.Arr .byte t V U ∧ Cod cd n f V ∧ ∀ j, j < n → ¬ f j < 0 ∧ ¬ 65535 < f j
theorem Txt.mv {x t : Addr} {V : Cell} {cd : Int32} {n : Nat} {f : Nat → Int32} {U U' : State} (h : Txt x t V cd n f U) (hal : U.vm.Alike U'.vm) (hh : U'.heap = U.heap) : Txt x t V cd n f U' := ⟨h.1.mv hal hh, h.2.1.mv hal hh, h.2.2.1.mv hal hh, h.2.2.2.1.mv hal hh, h.2.2.2.2⟩
namespace Cdr
def yN : MethodName := ⟨"java/lang/String", "coder", "()B"⟩
abbrev yB : ByteArray := jdk_42_method_152_code
theorem d0 : decode yB 0 = .ok (.getstatic 38, 3) := by decide +kernel
theorem d3 : decode yB 3 = .ok (.ifCond (.eq) 10, 3) := by decide +kernel
theorem d6 : decode yB 6 = .ok (.aload_n 0, 1) := by decide +kernel
theorem d7 : decode yB 7 = .ok (.getfield 15, 3) := by decide +kernel
theorem d10 : decode yB 10 = .ok (.goto 4, 3) := by decide +kernel
theorem d14 : decode yB 14 = .ok (.ireturn, 1) := by decide +kernel
def site : List Cond := [.fieldLink "java/lang/String" 38 "java/lang/String" "COMPACT_STRINGS" "Z", .fieldLink "java/lang/String" 15 "java/lang/String" "coder" "B"]
def tab : Cond := tabOf yN yB 1 (some .byte) site
def P (x : Addr) (cd z : Int32) (args : Array Value) (s : State) : Prop := args = #[.ref x] ∧ Has x "java/lang/String" "coder" "B" (.int cd) s ∧ (cd = 0 ∨ cd = 1) ∧ StaticIs s "java/lang/String" "COMPACT_STRINGS" "Z" (.int z) ∧ ¬ z = 0
def E (cd : Int32) (r : Option Value) (s u : State) : Prop := XT.PureE (some (.int cd)) r s u
theorem law (l : Launch) (x : Addr) (cd z : Int32) : Law l yN 1 0 0 0 yB 1 (some .byte) site (P x cd z) (E cd) [] 0 0 := by
  refine Law.of_walk (plainFor_of_name (by decide +kernel)) (by decide +kernel) (by decide +kernel) (by decide) (fun _ _ h => by rw [h.1]; rfl) (fun _ U U' hal hh h => ⟨h.1, h.2.1.mv hal hh, h.2.2.1, h.2.2.2.1.there hal hh, h.2.2.2.2⟩) (fun r U U' V V' h1 hal h2 h => XT.PureE.mv r U U' V V' h1 hal h2 h) ?_
  intro p e s m args below meth c s₁ X0 hexec hbytes hml hret hlk hnm hown hh0 W hP
  obtain ⟨rfl, hx, hc, s1, hz⟩ := hP
  have c1 : Steps p.tables e below (s₁.setTop (entryFrame m #[.ref x] 1)) (s₁.setTop (mkF m 0 #[.val (.ref x)] [])) := entry rfl
  obtain ⟨T2, X2, q2, st2⟩ := X0.sget hexec hown (wk W (.fieldLink "java/lang/String" 38 "java/lang/String" "COMPACT_STRINGS" "Z")) s1 (fun _ _ h => by rw [hh0]; exact h) (g := (mkF m 0 #[.val (.ref x)] [])) rfl (hb hbytes d0)
  have hh2 := q2.trans hh0
  have c3 : Steps p.tables e below (s₁.setTop (entryFrame m #[.ref x] 1)) (T2.setTop (mkF m 7 #[.val (.ref x)] [.ref x])) := (c1.trans (st2 _ (Steps.refl _))).trans (by
    refine XS.ifNo X2.here hexec rfl (hb hbytes d3) rfl (i0_eq_f hz) ?_
    refine XS.aloadN X2.here hexec rfl (hb hbytes d6) rfl rfl ?_
    exact Steps.refl _)
  obtain ⟨T4, X4, q4, st4⟩ := X2.hget hexec hown (wk W (.fieldLink "java/lang/String" 15 "java/lang/String" "coder" "B")) (hx.mv X2.warmed.alike hh2) (g := (mkF m 7 #[.val (.ref x)] [.ref x])) rfl (rest := []) rfl (hb hbytes d7)
  have c5 : Steps p.tables e below (s₁.setTop (entryFrame m #[.ref x] 1)) (T4.setTop (mkF m 14 #[.val (.ref x)] [.int cd])) := (c3.trans (st4 _ (Steps.refl _))).trans (by
    refine XS.goto X4.here hexec rfl (pc0 := 10) rfl (hb hbytes d10) (by decide) rfl ?_
    exact Steps.refl _)
  exact ⟨T4, some (.int cd), _, _, _, X4, rfl, rfl, rfl, (fun h => by cases h), ⟨rfl, q4.trans hh2⟩, fun fs hl => c5.trans (X4.ireturnOut hexec hret (by rcases hc with rfl | rfl <;> rfl) (Or.inr (Or.inr (Or.inl rfl))) (hb hbytes d14) hl)⟩
end Cdr
namespace Len
def yN : MethodName := ⟨"java/lang/String", "length", "()I"⟩
abbrev yB : ByteArray := jdk_42_method_54_code
theorem d0 : decode yB 0 = .ok (.aload_n 0, 1) := by decide +kernel
theorem d1 : decode yB 1 = .ok (.getfield 9, 3) := by decide +kernel
theorem d4 : decode yB 4 = .ok (.arraylength, 1) := by decide +kernel
theorem d5 : decode yB 5 = .ok (.aload_n 0, 1) := by decide +kernel
theorem d6 : decode yB 6 = .ok (.invokevirtual 335, 3) := by decide +kernel
theorem d9 : decode yB 9 = .ok (.ishr, 1) := by decide +kernel
theorem d10 : decode yB 10 = .ok (.ireturn, 1) := by decide +kernel
def site : List Cond := [.fieldLink "java/lang/String" 9 "java/lang/String" "value" "[B", Cdr.tab] ++ virtW "java/lang/String" 335 "java/lang/String" Cdr.yN Cdr.yN
def tab : Cond := tabOf yN yB 1 (some .int) site
def P (x t : Addr) (V : Cell) (cd : Int32) (n : Nat) (f : Nat → Int32) (z : Int32) (args : Array Value) (s : State) : Prop := args = #[.ref x] ∧ Txt x t V cd n f s ∧ StaticIs s "java/lang/String" "COMPACT_STRINGS" "Z" (.int z) ∧ ¬ z = 0
def E (n : Nat) (r : Option Value) (s u : State) : Prop := XT.PureE (some (.int (Int32.ofNat n))) r s u
/-- length() of a String of n chars, in either coding -/
theorem law (l : Launch) (x t : Addr) (V : Cell) (cd : Int32) (n : Nat) (f : Nat → Int32) (z : Int32) : Law l yN 1 0 1 13 yB 1 (some .int) site (P x t V cd n f z) (E n) [] 0 0 := by
  refine Law.of_walk (plainFor_of_name (by decide +kernel)) (by decide +kernel) (by decide +kernel) (by decide) (fun _ _ h => by rw [h.1]; rfl) (fun _ U U' hal hh h => ⟨h.1, h.2.1.mv hal hh, h.2.2.1.there hal hh, h.2.2.2⟩) (fun r U U' V V' h1 hal h2 h => XT.PureE.mv r U U' V V' h1 hal h2 h) ?_
  intro p e s m args below meth c s₁ X0 hexec hbytes hml hret hlk hnm hown hh0 W hP
  obtain ⟨rfl, hx, s1, hz⟩ := hP
  have v31 := hx.2.2.2.1.2.2.2
  have c1 : Steps p.tables e below (s₁.setTop (entryFrame m #[.ref x] 1)) (s₁.setTop (mkF m 1 #[.val (.ref x)] [.ref x])) := Steps.trans (entry rfl) (by
    show Steps p.tables e below (s₁.setTop (mkF m 0 #[.val (.ref x)] [])) _
    refine XS.aloadN X0.here hexec rfl (hb hbytes d0) rfl rfl ?_
    exact Steps.refl _)
  obtain ⟨T2, X2, q2, st2⟩ := X0.hget hexec hown (wk W (.fieldLink "java/lang/String" 9 "java/lang/String" "value" "[B")) (hx.mv X0.warmed.alike hh0).2.1 (g := (mkF m 1 #[.val (.ref x)] [.ref x])) rfl (rest := []) rfl (hb hbytes d1)
  have hh2 := q2.trans hh0
  have hx2 := hx.mv X2.warmed.alike hh2
  have c3 : Steps p.tables e below (s₁.setTop (entryFrame m #[.ref x] 1)) (T2.setTop (mkF m 6 #[.val (.ref x)] [.ref x, .int (Int32.ofNat V.slots.size)])) := (c1.trans (st2 _ (Steps.refl _))).trans (by
    refine X2.alen hexec hx2.2.2.2.1 rfl rfl (hb hbytes d4) ?_
    refine XS.aloadN X2.here hexec rfl (hb hbytes d5) rfl rfl ?_
    exact Steps.refl _)
  obtain ⟨v4, T4, X4, E4, g4⟩ := X2.callV hexec (Cdr.law l x cd z) hown (wks W (virtW "java/lang/String" 335 "java/lang/String" Cdr.yN Cdr.yN)) rfl (by decide) (wk W Cdr.tab) (W := 1) (Nat.le_of_ble_eq_true rfl) (Nat.le_of_ble_eq_true rfl) (Nat.le_refl _) (Nat.le_refl _) (hx2.1.fc X2.warmed.alike) hx2.1.is (g := (mkF m 6 #[.val (.ref x)] [.ref x, .int (Int32.ofNat V.slots.size)])) rfl (by rw [hml]; rfl) c3 (argsL := []) (rest := [.int (Int32.ofNat V.slots.size)]) rfl rfl (by show 2 * 0 + (1 + 0) ≤ _; decide) (hb hbytes d6) (⟨rfl, hx2.2.2.1, hx.2.2.2.2.1.cd, s1.there X2.warmed.alike hh2, hz⟩)
  obtain ⟨rfl, q4⟩ := E4
  have c5 : Steps p.tables e below (s₁.setTop (entryFrame m #[.ref x] 1)) (T4.setTop (mkF m 10 #[.val (.ref x)] [.int (Int32.ofNat V.slots.size >>> (cd &&& 31))])) := Steps.trans g4 (by
    refine ishr X4.here hexec rfl (hb hbytes d9) rfl ?_
    exact Steps.refl _)
  rw [hx.2.2.2.2.1.len v31] at c5
  exact ⟨T4, some (.int (Int32.ofNat n)), _, _, _, X4, rfl, rfl, rfl, (fun h => by cases h), ⟨rfl, q4.trans hh2⟩, fun fs hl => c5.trans (X4.ireturnOut hexec hret rfl (Or.inl rfl) (hb hbytes d10) hl)⟩
theorem pays {l : Launch} {R : Room} {p : Program} {e : Env} {below : List Frame} {s : State} {sargs : Array Value} {len W : Nat} (x t : Addr) (V : Cell) (cd : Int32) (n : Nat) (f : Nat → Int32) (z : Int32) (htab : tab.before sargs s = true) (hfr : 2 ≤ R.frames) (hlo : W + 25 ≤ R.locals) :
    Back l R p e below s sargs yN len W (fun A₁ a₁ => A₁.cells + 0 ≤ R.cells ∧ A₁.slots + 0 ≤ R.slots ∧ P x t V cd n f z a₁ A₁.U) (fun A₁ _ v₁ B₁ => E n v₁ A₁.U B₁.U ∧ B₁.locs = A₁.locs ++ [] ∧ B₁.cells = A₁.cells + 0 ∧ B₁.slots = A₁.slots + 0) :=
  (law l x t V cd n f z).pays htab hfr (by omega)
end Len
namespace IsL
def yN : MethodName := ⟨"java/lang/String", "isLatin1", "()Z"⟩
abbrev yB : ByteArray := jdk_42_method_154_code
theorem d0 : decode yB 0 = .ok (.getstatic 38, 3) := by decide +kernel
theorem d3 : decode yB 3 = .ok (.ifCond (.eq) 14, 3) := by decide +kernel
theorem d6 : decode yB 6 = .ok (.aload_n 0, 1) := by decide +kernel
theorem d7 : decode yB 7 = .ok (.getfield 15, 3) := by decide +kernel
theorem d10 : decode yB 10 = .ok (.ifCond (.ne) 7, 3) := by decide +kernel
theorem d13 : decode yB 13 = .ok (.iconst 1, 1) := by decide +kernel
theorem d14 : decode yB 14 = .ok (.goto 4, 3) := by decide +kernel
theorem d17 : decode yB 17 = .ok (.iconst 0, 1) := by decide +kernel
theorem d18 : decode yB 18 = .ok (.ireturn, 1) := by decide +kernel
def site : List Cond := [.fieldLink "java/lang/String" 38 "java/lang/String" "COMPACT_STRINGS" "Z", .fieldLink "java/lang/String" 15 "java/lang/String" "coder" "B"]
def tab : Cond := tabOf yN yB 1 (some .boolean) site
def P (x : Addr) (cd z : Int32) (args : Array Value) (s : State) : Prop := args = #[.ref x] ∧ Has x "java/lang/String" "coder" "B" (.int cd) s ∧ (cd = 0 ∨ cd = 1) ∧ StaticIs s "java/lang/String" "COMPACT_STRINGS" "Z" (.int z) ∧ ¬ z = 0
def E (cd : Int32) (r : Option Value) (s u : State) : Prop := XT.PureE (some (.int (1 - cd))) r s u
theorem law (l : Launch) (x : Addr) (cd z : Int32) : Law l yN 1 0 0 0 yB 1 (some .boolean) site (P x cd z) (E cd) [] 0 0 := by
  refine Law.of_walk (plainFor_of_name (by decide +kernel)) (by decide +kernel) (by decide +kernel) (by decide) (fun _ _ h => by rw [h.1]; rfl) (fun _ U U' hal hh h => ⟨h.1, h.2.1.mv hal hh, h.2.2.1, h.2.2.2.1.there hal hh, h.2.2.2.2⟩) (fun r U U' V V' h1 hal h2 h => XT.PureE.mv r U U' V V' h1 hal h2 h) ?_
  intro p e s m args below meth c s₁ X0 hexec hbytes hml hret hlk hnm hown hh0 W hP
  obtain ⟨rfl, hx, hc, s1, hz⟩ := hP
  have c1 : Steps p.tables e below (s₁.setTop (entryFrame m #[.ref x] 1)) (s₁.setTop (mkF m 0 #[.val (.ref x)] [])) := entry rfl
  obtain ⟨T2, X2, q2, st2⟩ := X0.sget hexec hown (wk W (.fieldLink "java/lang/String" 38 "java/lang/String" "COMPACT_STRINGS" "Z")) s1 (fun _ _ h => by rw [hh0]; exact h) (g := (mkF m 0 #[.val (.ref x)] [])) rfl (hb hbytes d0)
  have hh2 := q2.trans hh0
  have c3 : Steps p.tables e below (s₁.setTop (entryFrame m #[.ref x] 1)) (T2.setTop (mkF m 7 #[.val (.ref x)] [.ref x])) := (c1.trans (st2 _ (Steps.refl _))).trans (by
    refine XS.ifNo X2.here hexec rfl (hb hbytes d3) rfl (i0_eq_f hz) ?_
    refine XS.aloadN X2.here hexec rfl (hb hbytes d6) rfl rfl ?_
    exact Steps.refl _)
  obtain ⟨T4, X4, q4, st4⟩ := X2.hget hexec hown (wk W (.fieldLink "java/lang/String" 15 "java/lang/String" "coder" "B")) (hx.mv X2.warmed.alike hh2) (g := (mkF m 7 #[.val (.ref x)] [.ref x])) rfl (rest := []) rfl (hb hbytes d7)
  have c5 : Steps p.tables e below (s₁.setTop (entryFrame m #[.ref x] 1)) (T4.setTop (mkF m 10 #[.val (.ref x)] [.int cd])) := c3.trans (st4 _ (Steps.refl _))
  have c6 : Steps p.tables e below (s₁.setTop (entryFrame m #[.ref x] 1)) (T4.setTop (mkF m 18 #[.val (.ref x)] [.int (1 - cd)])) := by
    rcases hc with rfl | rfl
    · exact c5.trans (by
        refine XS.ifNo X4.here hexec rfl (hb hbytes d10) rfl (i0_ne_f rfl) ?_
        refine iconstV X4.here hexec rfl 1 (hb hbytes d13) (by decide) ?_
        refine XS.goto X4.here hexec rfl (pc0 := 14) rfl (hb hbytes d14) (by decide) rfl ?_
        exact Steps.refl _)
    · exact c5.trans (by
        refine XS.ifYes X4.here hexec rfl (pc0 := 10) rfl (hb hbytes d10) rfl (i0_ne_t (by decide)) (by decide) rfl ?_
        refine iconstV X4.here hexec rfl 0 (hb hbytes d17) (by decide) ?_
        exact Steps.refl _)
  exact ⟨T4, some (.int (1 - cd)), _, _, _, X4, rfl, rfl, rfl, (fun h => by cases h), ⟨rfl, q4.trans hh2⟩, fun fs hl => c6.trans (X4.ireturnOut hexec hret (by rcases hc with rfl | rfl <;> rfl) (Or.inr (Or.inl rfl)) (hb hbytes d18) hl)⟩
end IsL
namespace LChA
def yN : MethodName := ⟨"java/lang/StringLatin1", "charAt", "([BI)C"⟩
abbrev yB : ByteArray := jdk_43_method_2_code
theorem d0 : decode yB 0 = .ok (.iload_n 1, 1) := by decide +kernel
theorem d1 : decode yB 1 = .ok (.aload_n 0, 1) := by decide +kernel
theorem d2 : decode yB 2 = .ok (.arraylength, 1) := by decide +kernel
theorem d3 : decode yB 3 = .ok (.invokestatic 9, 3) := by decide +kernel
theorem d6 : decode yB 6 = .ok (.aload_n 0, 1) := by decide +kernel
theorem d7 : decode yB 7 = .ok (.iload_n 1, 1) := by decide +kernel
theorem d8 : decode yB 8 = .ok (.baload, 1) := by decide +kernel
theorem d9 : decode yB 9 = .ok (.sipush 255, 3) := by decide +kernel
theorem d12 : decode yB 12 = .ok (.iand, 1) := by decide +kernel
theorem d13 : decode yB 13 = .ok (.i2c, 1) := by decide +kernel
theorem d14 : decode yB 14 = .ok (.ireturn, 1) := by decide +kernel
def site : List Cond := [JO.Str_checkIndex.tab] ++ staticW "java/lang/StringLatin1" 9 JO.Str_checkIndex.yN
def tab : Cond := tabOf yN yB 2 (some .char) site
def P (t : Addr) (V : Cell) (i : Nat) (u : Int32) (fm : Value) (args : Array Value) (s : State) : Prop := args = #[.ref t, .int (Int32.ofNat i)] ∧ XT.Arr .byte t V s ∧ V.slots[i]? = some (.int u) ∧ (StaticIs s "jdk/internal/util/Preconditions" "SIOOBE_FORMATTER" "Ljava/util/function/BiFunction;" fm ∧ fm.isRef = true)
def E (u : Int32) (r : Option Value) (s w : State) : Prop := XT.PureE (some (.int (chr8 u))) r s w
theorem law (l : Launch) (t : Addr) (V : Cell) (i : Nat) (u : Int32) (fm : Value) : Law l yN 2 2 2 27 yB 2 (some .char) site (P t V i u fm) (E u) [] 0 0 := by
  refine Law.of_walk (plainFor_of_name (by decide +kernel)) (by decide +kernel) (by decide +kernel) (by decide) (fun _ _ h => by rw [h.1]; rfl) (fun _ U U' hal hh h => ⟨h.1, h.2.1.mv hal hh, h.2.2.1, h.2.2.2.1.there hal hh, h.2.2.2.2⟩) (fun r U U' V V' h1 hal h2 h => XT.PureE.mv r U U' V V' h1 hal h2 h) ?_
  intro p e s m args below meth c s₁ X0 hexec hbytes hml hret hlk hnm hown hh0 W hP
  obtain ⟨rfl, hV, hu, s1, rf⟩ := hP
  have v31 := hV.2.2.2
  have hi : i < V.slots.size := (Array.getElem?_eq_some_iff.mp hu).1
  have c1 : Steps p.tables e below (s₁.setTop (entryFrame m #[.ref t, .int (Int32.ofNat i)] 2)) (s₁.setTop (mkF m 0 #[.val (.ref t), .val (.int (Int32.ofNat i))] [])) := entry rfl
  have c2 : Steps p.tables e below (s₁.setTop (entryFrame m #[.ref t, .int (Int32.ofNat i)] 2)) (s₁.setTop (mkF m 3 #[.val (.ref t), .val (.int (Int32.ofNat i))] [.int (Int32.ofNat V.slots.size), .int (Int32.ofNat i)])) := c1.trans (by
    refine XS.iloadN X0.here hexec rfl (hb hbytes d0) rfl ?_
    refine XS.aloadN X0.here hexec rfl (hb hbytes d1) rfl rfl ?_
    refine X0.alen hexec (hV.mv X0.warmed.alike hh0) rfl rfl (hb hbytes d2) ?_
    exact Steps.refl _)
  obtain ⟨v3, T3, X3, E3, g3⟩ := X0.callS hexec (JO.Str_checkIndex.law l (Int32.ofNat i) (Int32.ofNat V.slots.size) fm) hown (wks W (staticW "java/lang/StringLatin1" 9 JO.Str_checkIndex.yN)) (wk W JO.Str_checkIndex.tab) (W := 0) (Nat.le_of_ble_eq_true rfl) (Nat.le_of_ble_eq_true rfl) (Nat.le_refl _) (Nat.le_refl _) (g := (mkF m 3 #[.val (.ref t), .val (.int (Int32.ofNat i))] [.int (Int32.ofNat V.slots.size), .int (Int32.ofNat i)])) rfl (by rw [hml]; rfl) c2 (argsL := [.int (Int32.ofNat i), .int (Int32.ofNat V.slots.size)]) (rest := []) rfl rfl (by show 2 * 0 + 0 ≤ _; decide) (hb hbytes d3) (⟨rfl, rf, s1.there X0.warmed.alike hh0, Int32.ofNat_not_neg (by omega), lt32 v31 hi⟩)
  obtain ⟨rfl, q3⟩ := E3
  have hh3 := q3.trans hh0
  have c4 : Steps p.tables e below (s₁.setTop (entryFrame m #[.ref t, .int (Int32.ofNat i)] 2)) (T3.setTop (mkF m 14 #[.val (.ref t), .val (.int (Int32.ofNat i))] [.int (chr8 u)])) := Steps.trans g3 (by
    refine XS.aloadN X3.here hexec rfl (hb hbytes d6) rfl rfl ?_
    refine XS.iloadN X3.here hexec rfl (hb hbytes d7) rfl ?_
    refine X3.aget hexec (hV.mv X3.warmed.alike hh3) rfl hu rfl rfl (hb hbytes d8) ?_
    refine sipushV X3.here hexec rfl 255 (hb hbytes d9) (by decide) ?_
    refine XS.iand X3.here hexec rfl (hb hbytes d12) rfl ?_
    refine i2c X3.here hexec rfl (hb hbytes d13) rfl ?_
    exact Steps.refl _)
  exact ⟨T3, some (.int (chr8 u)), _, _, _, X3, rfl, rfl, rfl, (fun h => by cases h), ⟨rfl, hh3⟩, fun fs hl => c4.trans (X3.ireturnOut hexec hret (narrow_c _) (Or.inr (Or.inr (Or.inr (Or.inl rfl)))) (hb hbytes d14) hl)⟩
end LChA
end StrChars
namespace StrChars.Road
open Jvm Sem ClassFile Op Lib Jvm.Stand Jvm.Free Jvm.Free.XT
open Jvm.Lib.Cold (StaticIs)
theorem consq {a : Array Value} {s : State} {c : Jvm.Cond} {L : List Jvm.Cond} (h0 : c.before a s = true) (h : ∀ w ∈ L, w.before a s = true) : ∀ w ∈ c :: L, w.before a s = true := fun w hw => (List.mem_cons.mp hw).elim (fun e => e ▸ h0) (h w)
/-- the words of String.length(), either coding -/
abbrev wordsLen : List Jvm.Cond := [.code Len.yN Len.yB 1 (some .int), .initialized ST, .fieldLink ST 9 ST "value" "[B", .fieldLink ST 38 ST "COMPACT_STRINGS" "Z", .fieldLink ST 15 ST "coder" "B", .code Cdr.yN Cdr.yB 1 (some .byte), .methodLink ST 335 Cdr.yN, .declares Cdr.yN, .selects ST Cdr.yN Cdr.yN, .instanceMethod Cdr.yN]
theorem tabLen_of {a : Array Value} {s : State} (h : ∀ w ∈ wordsLen, w.before a s = true) : Len.tab.before a s = true := by
  have hc : Cdr.tab.before a s = true := unparts (wk h (.code Cdr.yN Cdr.yB 1 (some .byte))) (wks h (.initialized Cdr.yN.cls :: Cdr.site))
  have q := consq hc h
  exact unparts (wk q (.code Len.yN Len.yB 1 (some .int))) (wks q (.initialized Len.yN.cls :: Len.site))
theorem movedLen {Z s : State} {a0 args : Array Value} (hZ : Z.Warmed39 s.vm) (hw : ∀ d ∈ wordsLen, d.before a0 Z = true) : ∀ d ∈ wordsLen, d.before args s = true := fun d hd => by
  have q := hw d hd
  have t : ∀ d ∈ wordsLen, d = .arrayClass .byte ∨ (d.onTables && d.keepsFace) = true := by decide +kernel
  rcases t d hd with rfl | t
  · exact RoadKit.mvA hZ q
  · exact RoadKit.mv hZ q t
/-- the bytes of the chars cs, low before high -/
def wideBytes : List Int32 → List Value
  | [] => []
  | c :: cs => .int (lo8 c) :: .int (hi8 c) :: wideBytes cs
theorem wide_lo (d : Value) : ∀ (cs : List Int32) (j : Nat), j < cs.length → (wideBytes cs).getD (2 * j) d = .int (lo8 (cs.getD j 0))
  | [], j, h => absurd h (Nat.not_lt_zero j)
  | c :: cs, 0, _ => rfl
  | c :: cs, j + 1, h => by
    have q := wide_lo d cs j (by simpa using h)
    rw [show 2 * (j + 1) = 2 * j + 1 + 1 from by omega]
    simpa [wideBytes] using q
theorem wide_hi (d : Value) : ∀ (cs : List Int32) (j : Nat), j < cs.length → (wideBytes cs).getD (2 * j + 1) d = .int (hi8 (cs.getD j 0))
  | [], j, h => absurd h (Nat.not_lt_zero j)
  | c :: cs, 0, _ => rfl
  | c :: cs, j + 1, h => by
    have q := wide_hi d cs j (by simpa using h)
    rw [show 2 * (j + 1) + 1 = 2 * j + 1 + 1 + 1 from by omega]
    simpa [wideBytes] using q
theorem low_at (d : Value) (cs : List Int32) (j : Nat) (h : j < cs.length) : (cs.map fun c => Value.int (lo8 c)).getD j d = .int (lo8 (cs.getD j 0)) := by
  simp [List.getD_eq_getElem?_getD, h]
/-- an array of N2 bytes vs codes the chars cs by the coder cd -/
def CodA (cs : List Int32) (cd N2 : Int32) (vs : List Value) : Prop := (cd = 0 ∧ N2 = Int32.ofNat cs.length ∧ vs = (cs.map fun c => Value.int (lo8 c)) ∧ ∀ c ∈ cs, ¬ 255 < c) ∨ (cd = 1 ∧ N2 = Int32.ofNat (2 * cs.length) ∧ vs = wideBytes cs ∧ ∃ c ∈ cs, 255 < c)
theorem CodA.cod {cs : List Int32} {cd N2 : Int32} {vs : List Value} {V : Cell} (h : CodA cs cd N2 vs) (hn : 2 * cs.length < 2 ^ 31) (hs : V.slots.size = N2.toNatClampNeg) (hv : RoadKit.Has V vs (.int 0)) : Cod cd cs.length (fun j => cs.getD j 0) V := by
  rcases h with ⟨rfl, rfl, rfl, h⟩ | ⟨rfl, rfl, rfl, c, hc, hw⟩
  · rw [n32 (by omega)] at hs
    exact Or.inl ⟨rfl, hs, fun j hj => ⟨by rw [hv j (by omega), low_at _ _ _ hj], by
      have e : cs.getD j 0 = cs[j] := by simp [List.getD_eq_getElem?_getD, hj]
      show ¬ 255 < cs.getD j 0
      rw [e]; exact h _ (List.getElem_mem _)⟩⟩
  · rw [n32 (by omega)] at hs
    obtain ⟨j, hj, rfl⟩ := List.getElem_of_mem hc
    exact Or.inr ⟨rfl, hs, fun j hj => ⟨by rw [hv _ (by omega), wide_lo _ _ _ hj], by rw [hv _ (by omega), wide_hi _ _ _ hj]⟩, j, hj, by
      have e : cs.getD j 0 = cs[j] := by simp [List.getD_eq_getElem?_getD, hj]
      show 255 < cs.getD j 0
      rw [e]; exact hw⟩
/-- an object of exactly java/lang/String, its two fields found: as the laws ask it -/
theorem strObj {Z U : State} {a0 : Array Value} {kI : Nat} (wi : (Jvm.Cond.instantiable ST kI).before a0 Z = true) (al : Z.vm.Alike U.vm) {x : Addr} {v0 c0 : Value} (E : RoadKit.Exa Z U.heap x ST) (V : RoadKit.Fld Z U.heap x ST "value" "[B" v0) (C : RoadKit.Fld Z U.heap x ST "coder" "B" c0) :
    ∃ (D : Cell) (fV fC : Field), Blank ST x D U ∧ Found ST "value" "[B" fV U ∧ Found ST "coder" "B" fC U ∧ D.slots[fV.slot]? = some v0 ∧ D.slots[fC.slot]? = some c0 ∧ RoadKit.slotOf Z ST "value" "[B" = fV.slot ∧ RoadKit.slotOf Z ST "coder" "B" = fC.slot := by
  obtain ⟨D, cfV, kV, iV, fV, hD, gV, stV, knV, obV, asV, slV⟩ := V
  obtain ⟨D', cfC, kC, iC, fC, hD', gC, stC, -, -, asC, slC⟩ := C
  cases hD.symm.trans hD'
  obtain ⟨D2, kD, e1, e2, e3, e4, e5⟩ := E
  cases hD.symm.trans e1
  obtain ⟨c2, k2, i1, i2, i3, -⟩ := Cond.instantiable_spec wi
  cases e2.symm.trans i1
  cases e3.symm.trans i2
  obtain ⟨kU, u1, u2⟩ := al.2.2 _ _ e3
  exact ⟨D, fV, fC, ⟨hD, ⟨knV, fun q hq => by rw [hq] at obV; cases obV⟩, by rw [al.findClass]; exact e2, kU, u1, by rw [u2]; exact i3, by rw [u2]; exact e5 i3⟩, ⟨SBG.found_only al ⟨cfV, kV, iV, gV⟩, stV⟩, ⟨SBG.found_only al ⟨cfC, kC, iC, gC⟩, stC⟩, slV, slC, by simp [RoadKit.slotOf, gV], by simp [RoadKit.slotOf, gC]⟩
theorem sta_is {Z U : State} (al : Z.vm.Alike U.vm) {C n d : String} {v : Value} (S : RoadKit.Sta Z U.heap C n d v) : StaticIs U C n d v := by
  obtain ⟨cfS, iS, kS, fS, st, cS, t1, t2, t3, t4, t5, t6, t7⟩ := S
  exact StaticIs.there (s := { Z with heap := U.heap }) ⟨cfS, iS, kS, fS, st, cS, t1, t2, t3, t4, t5, (fun q => by rw [q] at t6; cases t6), t7⟩ al rfl
/-- **length() OF SUCH A STRING** -/
theorem lenW {p : Program} {l : Launch} {e : Env} {R : Room} {s : State} {args : Array Value} {below : List Frame} {len W : Nat} {Z : State} {a0 : Array Value} {h : Heap} (hZ : Z.Warmed39 s.vm) (hw : ∀ d ∈ wordsLen, d.before a0 Z = true) {kI : Nat} (wi : (Jvm.Cond.instantiable ST kI).before a0 Z = true)
    {x t : Addr} {kb : ClassId} {cs : List Int32} {cd N2 z : Int32} {vs : List Value} (E : RoadKit.Exa Z h x ST) (V : RoadKit.Fld Z h x ST "value" "[B" (.ref t)) (C : RoadKit.Fld Z h x ST "coder" "B" (.int cd)) (K : RoadKit.Arv Z h t kb .byte N2 vs (.int 0)) (hc : CodA cs cd N2 vs) (hb : ∀ c ∈ cs, ¬ c < 0 ∧ ¬ (65535 : Int32) < c)
    (S : RoadKit.Sta Z h ST "COMPACT_STRINGS" "Z" (.int z)) (hz : ¬ z = 0) (l2 : cs.length ≤ 4000) (hfr : 2 ≤ R.frames) (hlo : W + 25 ≤ R.locals) :
    Back l R p e below s args (⟨"java/lang/String", "length", "()I"⟩ : MethodName) len W (fun P a => a = #[.ref x] ∧ P.U.heap = h ∧ P.cells + 0 ≤ R.cells ∧ P.slots + 0 ≤ R.slots)
      (fun P _ v B => ∃ L, (v = some (.int (Int32.ofNat cs.length)) ∧ L = [] ∧ B.U.heap = h) ∧ B.locs = P.locs ++ L ∧ B.cells = P.cells + 0 ∧ B.slots = P.slots + 0) := by
  obtain ⟨A, K1, K2, K3, K4, K5, K6⟩ := K
  have hcod := hc.cod (by omega) K3 K5
  intro m meth c P g ig mk a X hg hsize hdg hW hn hp'
  obtain ⟨rfl, rfl, r1, r2⟩ := hp'
  have al : Z.vm.Alike P.U.vm := hZ.alike.trans X.warmed.alike
  obtain ⟨D, fV, fC, hB, F1, F2, g1, g2, -, -⟩ := strObj wi al E V C
  have hx : Txt x t A cd cs.length (fun j => cs.getD j 0) P.U := ⟨⟨_, hB.2.2.1, D, hB.1, rfl, by cases q : D.vm <;> first | rfl | exact absurd q (hB.2.1.2 _)⟩, Has.of hB F1 g1, Has.of hB F2 g2, ⟨K1.1, State.isArrayOf_alike al K1.2.1, K1.2.2, by rcases hcod with ⟨-, q, -⟩ | ⟨-, q, -⟩ <;> omega⟩, hcod, fun j hj => by
    have e : cs.getD j 0 = cs[j] := by simp [List.getD_eq_getElem?_getD, hj]
    show ¬ cs.getD j 0 < 0 ∧ ¬ 65535 < cs.getD j 0
    rw [e]; exact hb _ (List.getElem_mem _)⟩
  obtain ⟨v, B, X', ⟨⟨hv, hh⟩, hl, hk, hs⟩, st⟩ := Len.pays x t A cd cs.length (fun j => cs.getD j 0) z (tabLen_of (movedLen hZ hw)) hfr hlo m meth c P g ig mk _ X hg hsize hdg hW hn ⟨r1, r2, rfl, hx, sta_is al S, hz⟩
  exact ⟨v, B, X', ⟨[], ⟨hv, rfl, hh⟩, hl, hk, hs⟩, st⟩
end StrChars.Road
namespace StrChars
open Jvm Sem ClassFile Op Lib Jvm.Stand Jvm.Free.XT Jvm.Free.ALB Jvm.Free.JM Jvm.Free
open Jvm.Lib.Cold (StaticIs)
/-- what place i of a byte[]'s cell holds -/
def yv (A : Cell) (i : Nat) : Int32 := match A.slots[i]? with | some (.int x) => x | _ => 0
theorem yv_get {a : Addr} {A : Cell} {U : State} (h : XT.Arr .byte a A U) (ht : Typed .byte A) {i : Nat} (hi : i < A.slots.size) : A.slots[i]? = some (.int (yv A i)) := by
  have e := Array.getElem?_eq_getElem hi
  have f := ht i _ e
  unfold yv; rw [e]
  generalize A.slots[i] = v at f
  cases v <;> simp [fits] at f ⊢
/-- the two arrays are equal, place for place -/
def EqC (A B : Cell) : Prop := A.slots.size = B.slots.size ∧ ∀ i, i < A.slots.size → yv A i = yv B i
/-- a boolean that says whether p -/
def Says01 (q : Prop) (r : Option Value) (s u : State) : Prop := ∃ v : Int32, r = some (.int v) ∧ u.heap = s.heap ∧ ((v = 1 ∧ q) ∨ (v = 0 ∧ ¬ q))
theorem Says01.mv {q : Prop} : ∀ r (U U' V V' : State), U'.heap = U.heap → V.vm.Alike V'.vm → V'.heap = V.heap → Says01 q r U V → Says01 q r U' V' :=
  fun r U U' V V' h1 _ h2 ⟨v, a, b, c⟩ => ⟨v, a, by rw [h1, h2]; exact b, c⟩
namespace LEq
def yN : MethodName := ⟨"java/lang/StringLatin1", "equals", "([B[B)Z"⟩
abbrev yB : ByteArray := jdk_43_method_13_code
theorem d0 : decode yB 0 = .ok (.aload_n 0, 1) := by decide +kernel
theorem d1 : decode yB 1 = .ok (.arraylength, 1) := by decide +kernel
theorem d2 : decode yB 2 = .ok (.aload_n 1, 1) := by decide +kernel
theorem d3 : decode yB 3 = .ok (.arraylength, 1) := by decide +kernel
theorem d4 : decode yB 4 = .ok (.if_icmp (.ne) 30, 3) := by decide +kernel
theorem d7 : decode yB 7 = .ok (.iconst 0, 1) := by decide +kernel
theorem d8 : decode yB 8 = .ok (.istore_n 2, 1) := by decide +kernel
theorem d9 : decode yB 9 = .ok (.iload_n 2, 1) := by decide +kernel
theorem d10 : decode yB 10 = .ok (.aload_n 0, 1) := by decide +kernel
theorem d11 : decode yB 11 = .ok (.arraylength, 1) := by decide +kernel
theorem d12 : decode yB 12 = .ok (.if_icmp (.ge) 20, 3) := by decide +kernel
theorem d15 : decode yB 15 = .ok (.aload_n 0, 1) := by decide +kernel
theorem d16 : decode yB 16 = .ok (.iload_n 2, 1) := by decide +kernel
theorem d17 : decode yB 17 = .ok (.baload, 1) := by decide +kernel
theorem d18 : decode yB 18 = .ok (.aload_n 1, 1) := by decide +kernel
theorem d19 : decode yB 19 = .ok (.iload_n 2, 1) := by decide +kernel
theorem d20 : decode yB 20 = .ok (.baload, 1) := by decide +kernel
theorem d21 : decode yB 21 = .ok (.if_icmp (.eq) 5, 3) := by decide +kernel
theorem d24 : decode yB 24 = .ok (.iconst 0, 1) := by decide +kernel
theorem d25 : decode yB 25 = .ok (.ireturn, 1) := by decide +kernel
theorem d26 : decode yB 26 = .ok (.iinc 2 1, 3) := by decide +kernel
theorem d29 : decode yB 29 = .ok (.goto (-20), 3) := by decide +kernel
theorem d32 : decode yB 32 = .ok (.iconst 1, 1) := by decide +kernel
theorem d33 : decode yB 33 = .ok (.ireturn, 1) := by decide +kernel
theorem d34 : decode yB 34 = .ok (.iconst 0, 1) := by decide +kernel
theorem d35 : decode yB 35 = .ok (.ireturn, 1) := by decide +kernel
def site : List Cond := []
def tab : Cond := tabOf yN yB 3 (some .boolean) site
def P (a : Addr) (A : Cell) (b : Addr) (B : Cell) (args : Array Value) (s : State) : Prop := args = #[.ref a, .ref b] ∧ XT.Arr .byte a A s ∧ Typed .byte A ∧ XT.Arr .byte b B s ∧ Typed .byte B
/-- whether two byte[] are equal, place for place -/
theorem law (l : Launch) (a : Addr) (A : Cell) (b : Addr) (B : Cell) : Law l yN 2 2 0 0 yB 3 (some .boolean) site (P a A b B) (Says01 (EqC A B)) [] 0 0 := by
  refine Law.of_walk (plainFor_of_name (by decide +kernel)) (by decide +kernel) (by decide +kernel) (by decide) (fun _ _ h => by rw [h.1]; rfl) (fun _ U U' hal hh h => ⟨h.1, h.2.1.mv hal hh, h.2.2.1, h.2.2.2.1.mv hal hh, h.2.2.2.2⟩) (fun r U U' V V' h1 hal h2 h => Says01.mv r U U' V V' h1 hal h2 h) ?_
  intro p e s m args below meth c s₁ X0 hexec hbytes hml hret hlk hnm hown hh0 W hP
  obtain ⟨rfl, hA, tA, hB, tB⟩ := hP
  have a31 := hA.2.2.2
  have b31 := hB.2.2.2
  have hA0 := hA.mv X0.warmed.alike hh0
  have hB0 := hB.mv X0.warmed.alike hh0
  have c1 : Steps p.tables e below (s₁.setTop (entryFrame m #[.ref a, .ref b] 3)) (s₁.setTop (mkF m 0 #[.val (.ref a), .val (.ref b), .unset] [])) := entry rfl
  have c2 : Steps p.tables e below (s₁.setTop (entryFrame m #[.ref a, .ref b] 3)) (s₁.setTop (mkF m 4 #[.val (.ref a), .val (.ref b), .unset] [.int (Int32.ofNat B.slots.size), .int (Int32.ofNat A.slots.size)])) := c1.trans (by
    refine XS.aloadN X0.here hexec rfl (hb hbytes d0) rfl rfl ?_
    refine X0.alen hexec hA0 rfl rfl (hb hbytes d1) ?_
    refine XS.aloadN X0.here hexec rfl (hb hbytes d2) rfl rfl ?_
    refine X0.alen hexec hB0 rfl rfl (hb hbytes d3) ?_
    exact Steps.refl _)
  by_cases hs : A.slots.size = B.slots.size
  · have c3 : Steps p.tables e below (s₁.setTop (entryFrame m #[.ref a, .ref b] 3)) (s₁.setTop (mkF m 9 #[.val (.ref a), .val (.ref b), .val (.int 0)] [])) := c2.trans (by
      refine XS.icmpNo X0.here hexec rfl (hb hbytes d4) rfl (ii_ne_f (by rw [hs])) ?_
      refine iconstV X0.here hexec rfl 0 (hb hbytes d7) (by decide) ?_
      refine XS.istoreN X0.here hexec rfl (hb hbytes d8) rfl rfl ?_
      exact Steps.refl _)
    have loop : ∀ (r i : Nat), i + r = A.slots.size → (∀ j, j < i → yv A j = yv B j) → Steps p.tables e below (s₁.setTop (entryFrame m #[.ref a, .ref b] 3)) (s₁.setTop (mkF m 9 #[.val (.ref a), .val (.ref b), .val (.int (Int32.ofNat i))] [])) → ∃ (pc : Nat) (Ls : Array Slot) (v : Int32), (pc = 25 ∨ pc = 33) ∧ ((v = 1 ∧ EqC A B) ∨ (v = 0 ∧ ¬ EqC A B)) ∧ Steps p.tables e below (s₁.setTop (entryFrame m #[.ref a, .ref b] 3)) (s₁.setTop (mkF m pc Ls [.int v])) := by
      intro r
      induction r with
      | zero =>
        intro i hi he cl
        exact ⟨33, _, 1, Or.inr rfl, Or.inl ⟨rfl, hs, fun j hj => he j (by omega)⟩, cl.trans (by
          refine XS.iloadN X0.here hexec rfl (hb hbytes d9) rfl ?_
          refine XS.aloadN X0.here hexec rfl (hb hbytes d10) rfl rfl ?_
          refine X0.alen hexec hA0 rfl rfl (hb hbytes d11) ?_
          refine XS.icmpYes X0.here hexec rfl (pc0 := 12) rfl (hb hbytes d12) rfl (ii_ge_t (nlt32 (by omega) (by omega))) (by decide) rfl ?_
          refine iconstV X0.here hexec rfl 1 (hb hbytes d32) (by decide) ?_
          exact Steps.refl _)⟩
      | succ r ih =>
        intro i hi he cl
        have c4 : Steps p.tables e below (s₁.setTop (entryFrame m #[.ref a, .ref b] 3)) (s₁.setTop (mkF m 21 #[.val (.ref a), .val (.ref b), .val (.int (Int32.ofNat i))] [.int (yv B i), .int (yv A i)])) := cl.trans (by
          refine XS.iloadN X0.here hexec rfl (hb hbytes d9) rfl ?_
          refine XS.aloadN X0.here hexec rfl (hb hbytes d10) rfl rfl ?_
          refine X0.alen hexec hA0 rfl rfl (hb hbytes d11) ?_
          refine XS.icmpNo X0.here hexec rfl (hb hbytes d12) rfl (ii_ge_f (lt32 (by omega) (by omega))) ?_
          refine XS.aloadN X0.here hexec rfl (hb hbytes d15) rfl rfl ?_
          refine XS.iloadN X0.here hexec rfl (hb hbytes d16) rfl ?_
          refine X0.aget hexec hA0 rfl (yv_get hA tA (i := i) (by omega)) rfl rfl (hb hbytes d17) ?_
          refine XS.aloadN X0.here hexec rfl (hb hbytes d18) rfl rfl ?_
          refine XS.iloadN X0.here hexec rfl (hb hbytes d19) rfl ?_
          refine X0.aget hexec hB0 rfl (yv_get hB tB (i := i) (by omega)) rfl rfl (hb hbytes d20) ?_
          exact Steps.refl _)
        by_cases hv : yv A i = yv B i
        · have c5 : Steps p.tables e below (s₁.setTop (entryFrame m #[.ref a, .ref b] 3)) (s₁.setTop (mkF m 9 #[.val (.ref a), .val (.ref b), .val (.int (Int32.ofNat i + 1))] [])) := c4.trans (by
            refine XS.icmpYes X0.here hexec rfl (pc0 := 21) rfl (hb hbytes d21) rfl (ii_eq_t hv) (by decide) rfl ?_
            refine iincV X0.here hexec rfl 1 (hb hbytes d26) (by decide) rfl rfl ?_
            refine XS.goto X0.here hexec rfl (pc0 := 29) rfl (hb hbytes d29) (by decide) rfl ?_
            exact Steps.refl _)
          rw [succ32] at c5
          exact ih (i + 1) (by omega) (fun j hj => by
            by_cases e : j = i
            · rw [e]; exact hv
            · exact he j (by omega)) c5
        · exact ⟨25, _, 0, Or.inl rfl, Or.inr ⟨rfl, fun q => hv (q.2 i (by omega))⟩, c4.trans (by
            refine XS.icmpNo X0.here hexec rfl (hb hbytes d21) rfl (ii_eq_f hv) ?_
            refine iconstV X0.here hexec rfl 0 (hb hbytes d24) (by decide) ?_
            exact Steps.refl _)⟩
    obtain ⟨pc, Ls, v, hpc, hv, cz⟩ := loop A.slots.size 0 (by omega) (fun j hj => absurd hj (Nat.not_lt_zero j)) c3
    have nv : narrow .boolean (.int v) = .int v := by rcases hv with ⟨rfl, -⟩ | ⟨rfl, -⟩ <;> rfl
    rcases hpc with rfl | rfl
    · exact ⟨s₁, some (.int v), _, _, _, X0, rfl, rfl, rfl, (fun h => by cases h), ⟨v, rfl, hh0, hv⟩, fun fs hl => cz.trans (X0.ireturnOut hexec hret nv (Or.inr (Or.inl rfl)) (hb hbytes d25) hl)⟩
    · exact ⟨s₁, some (.int v), _, _, _, X0, rfl, rfl, rfl, (fun h => by cases h), ⟨v, rfl, hh0, hv⟩, fun fs hl => cz.trans (X0.ireturnOut hexec hret nv (Or.inr (Or.inl rfl)) (hb hbytes d33) hl)⟩
  · have c3 : Steps p.tables e below (s₁.setTop (entryFrame m #[.ref a, .ref b] 3)) (s₁.setTop (mkF m 35 #[.val (.ref a), .val (.ref b), .unset] [.int 0])) := c2.trans (by
      refine XS.icmpYes X0.here hexec rfl (pc0 := 4) rfl (hb hbytes d4) rfl (ii_ne_t (ne32 a31 b31 hs)) (by decide) rfl ?_
      refine iconstV X0.here hexec rfl 0 (hb hbytes d34) (by decide) ?_
      exact Steps.refl _)
    exact ⟨s₁, some (.int 0), _, _, _, X0, rfl, rfl, rfl, (fun h => by cases h), ⟨0, rfl, hh0, Or.inr ⟨rfl, fun q => hs q.1⟩⟩, fun fs hl => c3.trans (X0.ireturnOut hexec hret rfl (Or.inr (Or.inl rfl)) (hb hbytes d35) hl)⟩
end LEq
theorem Cod.ty {cd : Int32} {n : Nat} {f : Nat → Int32} {V : Cell} (h : Cod cd n f V) : Typed .byte V := fun i v hv => by
  have hi : i < V.slots.size := (Array.getElem?_eq_some_iff.mp hv).1
  rcases h with ⟨-, k1, k2⟩ | ⟨-, k1, k2, -⟩
  · rw [(k2 i (by omega)).1] at hv; cases hv; exact fits_lo8 _
  · rcases Nat.mod_two_eq_zero_or_one i with e | e
    · obtain ⟨j, rfl⟩ : ∃ j, i = 2 * j := ⟨i / 2, by omega⟩
      rw [(k2 j (by omega)).1] at hv; cases hv; exact fits_lo8 _
    · obtain ⟨j, rfl⟩ : ∃ j, i = 2 * j + 1 := ⟨i / 2, by omega⟩
      rw [(k2 j (by omega)).2] at hv; cases hv; exact fits_lo8 _
/-- the same text -/
def SameT (n : Nat) (f : Nat → Int32) (k : Nat) (g : Nat → Int32) : Prop := n = k ∧ ∀ j, j < n → f j = g j
theorem lo8_inj {x y : Int32} (h0 : ¬ x < 0) (h1 : ¬ 255 < x) (k0 : ¬ y < 0) (k1 : ¬ 255 < y) (h : lo8 x = lo8 y) : x = y := by
  rw [← lo8_mask h0 h1, ← lo8_mask k0 k1, h]
/-- arrays coded by one coder are equal just where the texts are -/
theorem Cod.eqv {cd : Int32} {n k : Nat} {f g : Nat → Int32} {V V' : Cell} (h : Cod cd n f V) (h' : Cod cd k g V') (hf : ∀ j, j < n → ¬ f j < 0 ∧ ¬ 65535 < f j) (hg : ∀ j, j < k → ¬ g j < 0 ∧ ¬ 65535 < g j) : EqC V V' ↔ SameT n f k g := by
  have yvv : ∀ {W : Cell} {i : Nat} {x : Int32}, W.slots[i]? = some (.int x) → yv W i = x := fun q => by unfold yv; rw [q]
  rcases h with ⟨rfl, k1, k2⟩ | ⟨rfl, k1, k2, -⟩
  · rcases h' with ⟨-, m1, m2⟩ | ⟨e, -⟩
    · constructor
      · rintro ⟨e1, e2⟩
        refine ⟨by omega, fun j hj => ?_⟩
        have q := e2 j (by omega)
        rw [yvv (k2 j hj).1, yvv (m2 j (by omega)).1] at q
        exact lo8_inj (hf j hj).1 (k2 j hj).2 (hg j (by omega)).1 (m2 j (by omega)).2 q
      · rintro ⟨rfl, e2⟩
        refine ⟨by omega, fun j hj => ?_⟩
        rw [yvv (k2 j (by omega)).1, yvv (m2 j (by omega)).1, e2 j (by omega)]
    · exact absurd e (by decide)
  · rcases h' with ⟨e, -⟩ | ⟨-, m1, m2, -⟩
    · exact absurd e (by decide)
    · constructor
      · rintro ⟨e1, e2⟩
        refine ⟨by omega, fun j hj => ?_⟩
        have q1 := e2 (2 * j) (by omega)
        have q2 := e2 (2 * j + 1) (by omega)
        rw [yvv (k2 j hj).1, yvv (m2 j (by omega)).1] at q1
        rw [yvv (k2 j hj).2, yvv (m2 j (by omega)).2] at q2
        rw [← pair_says (hf j hj).1 (hf j hj).2, ← pair_says (hg j (by omega)).1 (hg j (by omega)).2, q1, q2]
      · rintro ⟨rfl, e2⟩
        refine ⟨by omega, fun i hi => ?_⟩
        rcases Nat.mod_two_eq_zero_or_one i with e | e
        · obtain ⟨j, rfl⟩ : ∃ j, i = 2 * j := ⟨i / 2, by omega⟩
          rw [yvv (k2 j (by omega)).1, yvv (m2 j (by omega)).1, e2 j (by omega)]
        · obtain ⟨j, rfl⟩ : ∃ j, i = 2 * j + 1 := ⟨i / 2, by omega⟩
          rw [yvv (k2 j (by omega)).2, yvv (m2 j (by omega)).2, e2 j (by omega)]
/-- two codings differ: so do the texts -/
theorem Cod.dif {cd cd' : Int32} {n k : Nat} {f g : Nat → Int32} {V V' : Cell} (h : Cod cd n f V) (h' : Cod cd' k g V') (hne : ¬ cd = cd') : ¬ SameT n f k g := by
  rintro ⟨rfl, e⟩
  rcases h with ⟨rfl, -, k2⟩ | ⟨rfl, -, -, j, hj, hw⟩
  · rcases h' with ⟨rfl, -⟩ | ⟨-, -, -, j, hj, hw⟩
    · exact hne rfl
    · exact (k2 j hj).2 (by rw [e j hj]; exact hw)
  · rcases h' with ⟨-, -, m2⟩ | ⟨rfl, -⟩
    · exact (m2 j hj).2 (by rw [← e j hj]; exact hw)
    · exact hne rfl
/-- an object of exactly C is an instance of C -/
theorem cinst {p : Program} {l : Launch} {e : Env} {R : Room} {s : State} {m : MethodId} {args : Array Value} {below : List Frame} {meth : Method} {c : Code} {T : State} {locs : List Loc} {cells slots : Nat} (X : Stand p l e R s m args below meth c T locs cells slots) (hexec : p.tables.exec = Jvm.exec) {own C : String} {index : Nat} (hown : s.vm.findClass own = some m.cls) (hlink : (Cond.classLink own index C).before args s = true) {a : Addr} (hE : Exact C a T)
    {g : JFrame} (hg : g.method = m) {rest : List Value} (hstack : g.stack = .ref a :: rest) (hdg : decode c.code g.pc = .ok (.instanceof index, 3)) :
    ∃ T', Stand p l e R s m args below meth c T' locs cells slots ∧ T'.heap = T.heap ∧ ∀ target, Steps p.tables e below (T'.setTop { g with pc := g.pc + 3, stack := .int 1 :: rest }) target → Steps p.tables e below (T.setTop g) target := by
  obtain ⟨cB, h1, D, h2, h3, h4⟩ := hE
  have h1' : s.vm.findClass C = some cB := by rw [← X.warmed.alike.findClass]; exact h1
  obtain ⟨vm', X', st⟩ := X.instanceofYes hexec hown hlink h2 h4 h1' (by rw [h3]; exact Jvm.Free.SB.assignable_self _ _) hg hstack hdg
  exact ⟨_, X', rfl, st⟩
theorem cself {p : Program} {l : Launch} {e : Env} {R : Room} {s : State} {m : MethodId} {args : Array Value} {below : List Frame} {meth : Method} {c : Code} {T : State} {locs : List Loc} {cells slots : Nat} (X : Stand p l e R s m args below meth c T locs cells slots) (hexec : p.tables.exec = Jvm.exec) {own C : String} {index : Nat} (hown : s.vm.findClass own = some m.cls) (hlink : (Cond.classLink own index C).before args s = true) {a : Addr} (hE : Exact C a T)
    {g : JFrame} (hg : g.method = m) {rest : List Value} (hstack : g.stack = .ref a :: rest) (hdg : decode c.code g.pc = .ok (.checkcast index, 3)) :
    ∃ T', Stand p l e R s m args below meth c T' locs cells slots ∧ T'.heap = T.heap ∧ ∀ target, Steps p.tables e below (T'.setTop { g with pc := g.pc + 3, stack := .ref a :: rest }) target → Steps p.tables e below (T.setTop g) target := by
  obtain ⟨cB, h1, D, h2, h3, h4⟩ := hE
  have h1' : s.vm.findClass C = some cB := by rw [← X.warmed.alike.findClass]; exact h1
  obtain ⟨vm', X', st⟩ := X.checkcastYes hexec hown hlink h2 h4 h1' (by rw [h3]; exact Jvm.Free.SB.assignable_self _ _) hg hstack hdg
  exact ⟨_, X', rfl, fun t h => st t (by rw [← hstack] at h; exact h)⟩
namespace SEq
def yN : MethodName := ⟨"java/lang/String", "equals", "(Ljava/lang/Object;)Z"⟩
abbrev yB : ByteArray := jdk_42_method_66_code
theorem d0 : decode yB 0 = .ok (.aload_n 0, 1) := by decide +kernel
theorem d1 : decode yB 1 = .ok (.aload_n 1, 1) := by decide +kernel
theorem d2 : decode yB 2 = .ok (.if_acmp (.ne) 5, 3) := by decide +kernel
theorem d5 : decode yB 5 = .ok (.iconst 1, 1) := by decide +kernel
theorem d6 : decode yB 6 = .ok (.ireturn, 1) := by decide +kernel
theorem d7 : decode yB 7 = .ok (.aload_n 1, 1) := by decide +kernel
theorem d8 : decode yB 8 = .ok (.instanceof 10, 3) := by decide +kernel
theorem d11 : decode yB 11 = .ok (.ifCond (.eq) 43, 3) := by decide +kernel
theorem d14 : decode yB 14 = .ok (.aload_n 1, 1) := by decide +kernel
theorem d15 : decode yB 15 = .ok (.checkcast 10, 3) := by decide +kernel
theorem d18 : decode yB 18 = .ok (.astore_n 2, 1) := by decide +kernel
theorem d19 : decode yB 19 = .ok (.getstatic 38, 3) := by decide +kernel
theorem d22 : decode yB 22 = .ok (.ifCond (.eq) 14, 3) := by decide +kernel
theorem d25 : decode yB 25 = .ok (.aload_n 0, 1) := by decide +kernel
theorem d26 : decode yB 26 = .ok (.getfield 15, 3) := by decide +kernel
theorem d29 : decode yB 29 = .ok (.aload_n 2, 1) := by decide +kernel
theorem d30 : decode yB 30 = .ok (.getfield 15, 3) := by decide +kernel
theorem d33 : decode yB 33 = .ok (.if_icmp (.ne) 21, 3) := by decide +kernel
theorem d36 : decode yB 36 = .ok (.aload_n 0, 1) := by decide +kernel
theorem d37 : decode yB 37 = .ok (.getfield 9, 3) := by decide +kernel
theorem d40 : decode yB 40 = .ok (.aload_n 2, 1) := by decide +kernel
theorem d41 : decode yB 41 = .ok (.getfield 9, 3) := by decide +kernel
theorem d44 : decode yB 44 = .ok (.invokestatic 541, 3) := by decide +kernel
theorem d47 : decode yB 47 = .ok (.ifCond (.eq) 7, 3) := by decide +kernel
theorem d50 : decode yB 50 = .ok (.iconst 1, 1) := by decide +kernel
theorem d51 : decode yB 51 = .ok (.goto 4, 3) := by decide +kernel
theorem d54 : decode yB 54 = .ok (.iconst 0, 1) := by decide +kernel
theorem d55 : decode yB 55 = .ok (.ireturn, 1) := by decide +kernel
def site : List Cond := [.classLink "java/lang/String" 10 "java/lang/String", .fieldLink "java/lang/String" 38 "java/lang/String" "COMPACT_STRINGS" "Z", .fieldLink "java/lang/String" 15 "java/lang/String" "coder" "B", .fieldLink "java/lang/String" 9 "java/lang/String" "value" "[B", LEq.tab] ++ staticW "java/lang/String" 541 LEq.yN
def tab : Cond := tabOf yN yB 3 (some .boolean) site
def P (x t : Addr) (V : Cell) (cd : Int32) (n : Nat) (f : Nat → Int32) (y t' : Addr) (V' : Cell) (cd' : Int32) (k : Nat) (g : Nat → Int32) (z : Int32) (args : Array Value) (s : State) : Prop := args = #[.ref x, .ref y] ∧ Txt x t V cd n f s ∧ Txt y t' V' cd' k g s ∧ StaticIs s "java/lang/String" "COMPACT_STRINGS" "Z" (.int z) ∧ ¬ z = 0
/-- equals(Object) of two Strings: whether the texts are the same -/
theorem law (l : Launch) (x t : Addr) (V : Cell) (cd : Int32) (n : Nat) (f : Nat → Int32) (y t' : Addr) (V' : Cell) (cd' : Int32) (k : Nat) (g : Nat → Int32) (z : Int32) : Law l yN 2 1 1 14 yB 3 (some .boolean) site (P x t V cd n f y t' V' cd' k g z) (Says01 (SameT n f k g)) [] 0 0 := by
  refine Law.of_walk (plainFor_of_name (by decide +kernel)) (by decide +kernel) (by decide +kernel) (by decide) (fun _ _ h => by rw [h.1]; rfl) (fun _ U U' hal hh h => ⟨h.1, h.2.1.mv hal hh, h.2.2.1.mv hal hh, h.2.2.2.1.there hal hh, h.2.2.2.2⟩) (fun r U U' V V' h1 hal h2 h => Says01.mv r U U' V V' h1 hal h2 h) ?_
  intro p e s m args below meth c s₁ X0 hexec hbytes hml hret hlk hnm hown hh0 W hP
  obtain ⟨rfl, hx, hy, s1, hz⟩ := hP
  have c1 : Steps p.tables e below (s₁.setTop (entryFrame m #[.ref x, .ref y] 3)) (s₁.setTop (mkF m 2 #[.val (.ref x), .val (.ref y), .unset] [.ref y, .ref x])) := Steps.trans (entry rfl) (by
    show Steps p.tables e below (s₁.setTop (mkF m 0 #[.val (.ref x), .val (.ref y), .unset] [])) _
    refine XS.aloadN X0.here hexec rfl (hb hbytes d0) rfl rfl ?_
    refine XS.aloadN X0.here hexec rfl (hb hbytes d1) rfl rfl ?_
    exact Steps.refl _)
  by_cases hxy : x = y
  · have c2 : Steps p.tables e below (s₁.setTop (entryFrame m #[.ref x, .ref y] 3)) (s₁.setTop (mkF m 6 #[.val (.ref x), .val (.ref y), .unset] [.int 1])) := c1.trans (by
      refine acmpNo X0.here hexec rfl (hb hbytes d2) rfl rfl rfl (by simp [acmp, hxy]) ?_
      refine iconstV X0.here hexec rfl 1 (hb hbytes d5) (by decide) ?_
      exact Steps.refl _)
    subst hxy
    have ec : cd = cd' := by
      obtain ⟨D, fd, a1, a2, a3⟩ := hx.2.2.1
      obtain ⟨D', fd', b1, b2, b3⟩ := hy.2.2.1
      cases a1.symm.trans b1
      obtain ⟨q1, q2, q3, q4⟩ := a2.1
      obtain ⟨r1, r2, r3, r4⟩ := b2.1
      cases q4.symm.trans r4
      cases a3.symm.trans b3; rfl
    have et : t = t' := by
      obtain ⟨D, fd, a1, a2, a3⟩ := hx.2.1
      obtain ⟨D', fd', b1, b2, b3⟩ := hy.2.1
      cases a1.symm.trans b1
      obtain ⟨q1, q2, q3, q4⟩ := a2.1
      obtain ⟨r1, r2, r3, r4⟩ := b2.1
      cases q4.symm.trans r4
      cases a3.symm.trans b3; rfl
    subst ec et
    have ev : V = V' := by cases hx.2.2.2.1.1.symm.trans hy.2.2.2.1.1; rfl
    subst ev
    have hs : SameT n f k g := (Cod.eqv hx.2.2.2.2.1 hy.2.2.2.2.1 hx.2.2.2.2.2 hy.2.2.2.2.2).mp ⟨rfl, fun _ _ => rfl⟩
    exact ⟨s₁, some (.int 1), _, _, _, X0, rfl, rfl, rfl, (fun h => by cases h), ⟨1, rfl, hh0, Or.inl ⟨rfl, hs⟩⟩, fun fs hl => c2.trans (X0.ireturnOut hexec hret rfl (Or.inr (Or.inl rfl)) (hb hbytes d6) hl)⟩
  · have c2 : Steps p.tables e below (s₁.setTop (entryFrame m #[.ref x, .ref y] 3)) (s₁.setTop (mkF m 8 #[.val (.ref x), .val (.ref y), .unset] [.ref y])) := c1.trans (by
      refine acmpYes X0.here hexec rfl (pc0 := 2) rfl (hb hbytes d2) rfl rfl rfl (by simp [acmp, hxy]) (by decide) rfl ?_
      refine XS.aloadN X0.here hexec rfl (hb hbytes d7) rfl rfl ?_
      exact Steps.refl _)
    obtain ⟨T3, X3, q3, st3⟩ := cinst X0 hexec hown (wk W (.classLink "java/lang/String" 10 "java/lang/String")) (hy.mv X0.warmed.alike hh0).1 (g := (mkF m 8 #[.val (.ref x), .val (.ref y), .unset] [.ref y])) rfl (rest := []) rfl (hb hbytes d8)
    have hh3 := q3.trans hh0
    have c4 : Steps p.tables e below (s₁.setTop (entryFrame m #[.ref x, .ref y] 3)) (T3.setTop (mkF m 15 #[.val (.ref x), .val (.ref y), .unset] [.ref y])) := (c2.trans (st3 _ (Steps.refl _))).trans (by
      refine XS.ifNo X3.here hexec rfl (hb hbytes d11) rfl (i0_eq_f (by decide)) ?_
      refine XS.aloadN X3.here hexec rfl (hb hbytes d14) rfl rfl ?_
      exact Steps.refl _)
    obtain ⟨T5, X5, q5, st5⟩ := cself X3 hexec hown (wk W (.classLink "java/lang/String" 10 "java/lang/String")) (hy.mv X3.warmed.alike hh3).1 (g := (mkF m 15 #[.val (.ref x), .val (.ref y), .unset] [.ref y])) rfl (rest := []) rfl (hb hbytes d15)
    have hh5 := q5.trans hh3
    have c6 : Steps p.tables e below (s₁.setTop (entryFrame m #[.ref x, .ref y] 3)) (T5.setTop (mkF m 19 #[.val (.ref x), .val (.ref y), .val (.ref y)] [])) := (c4.trans (st5 _ (Steps.refl _))).trans (by
      refine XS.astoreN X5.here hexec rfl (hb hbytes d18) rfl rfl rfl ?_
      exact Steps.refl _)
    obtain ⟨T7, X7, q7, st7⟩ := X5.sget hexec hown (wk W (.fieldLink "java/lang/String" 38 "java/lang/String" "COMPACT_STRINGS" "Z")) s1 (fun _ _ h => by rw [hh5]; exact h) (g := (mkF m 19 #[.val (.ref x), .val (.ref y), .val (.ref y)] [])) rfl (hb hbytes d19)
    have hh7 := q7.trans hh5
    have c8 : Steps p.tables e below (s₁.setTop (entryFrame m #[.ref x, .ref y] 3)) (T7.setTop (mkF m 26 #[.val (.ref x), .val (.ref y), .val (.ref y)] [.ref x])) := (c6.trans (st7 _ (Steps.refl _))).trans (by
      refine XS.ifNo X7.here hexec rfl (hb hbytes d22) rfl (i0_eq_f hz) ?_
      refine XS.aloadN X7.here hexec rfl (hb hbytes d25) rfl rfl ?_
      exact Steps.refl _)
    obtain ⟨T9, X9, q9, st9⟩ := X7.hget hexec hown (wk W (.fieldLink "java/lang/String" 15 "java/lang/String" "coder" "B")) (hx.mv X7.warmed.alike hh7).2.2.1 (g := (mkF m 26 #[.val (.ref x), .val (.ref y), .val (.ref y)] [.ref x])) rfl (rest := []) rfl (hb hbytes d26)
    have hh9 := q9.trans hh7
    have c10 : Steps p.tables e below (s₁.setTop (entryFrame m #[.ref x, .ref y] 3)) (T9.setTop (mkF m 30 #[.val (.ref x), .val (.ref y), .val (.ref y)] [.ref y, .int cd])) := (c8.trans (st9 _ (Steps.refl _))).trans (by
      refine XS.aloadN X9.here hexec rfl (hb hbytes d29) rfl rfl ?_
      exact Steps.refl _)
    obtain ⟨T11, X11, q11, st11⟩ := X9.hget hexec hown (wk W (.fieldLink "java/lang/String" 15 "java/lang/String" "coder" "B")) (hy.mv X9.warmed.alike hh9).2.2.1 (g := (mkF m 30 #[.val (.ref x), .val (.ref y), .val (.ref y)] [.ref y, .int cd])) rfl (rest := [.int cd]) rfl (hb hbytes d30)
    have hh11 := q11.trans hh9
    have c12 : Steps p.tables e below (s₁.setTop (entryFrame m #[.ref x, .ref y] 3)) (T11.setTop (mkF m 33 #[.val (.ref x), .val (.ref y), .val (.ref y)] [.int cd', .int cd])) := c10.trans (st11 _ (Steps.refl _))
    by_cases hcd : cd = cd'
    · subst hcd
      have c13 : Steps p.tables e below (s₁.setTop (entryFrame m #[.ref x, .ref y] 3)) (T11.setTop (mkF m 37 #[.val (.ref x), .val (.ref y), .val (.ref y)] [.ref x])) := c12.trans (by
        refine XS.icmpNo X11.here hexec rfl (hb hbytes d33) rfl (ii_ne_f rfl) ?_
        refine XS.aloadN X11.here hexec rfl (hb hbytes d36) rfl rfl ?_
        exact Steps.refl _)
      obtain ⟨T14, X14, q14, st14⟩ := X11.hget hexec hown (wk W (.fieldLink "java/lang/String" 9 "java/lang/String" "value" "[B")) (hx.mv X11.warmed.alike hh11).2.1 (g := (mkF m 37 #[.val (.ref x), .val (.ref y), .val (.ref y)] [.ref x])) rfl (rest := []) rfl (hb hbytes d37)
      have hh14 := q14.trans hh11
      have c15 : Steps p.tables e below (s₁.setTop (entryFrame m #[.ref x, .ref y] 3)) (T14.setTop (mkF m 41 #[.val (.ref x), .val (.ref y), .val (.ref y)] [.ref y, .ref t])) := (c13.trans (st14 _ (Steps.refl _))).trans (by
        refine XS.aloadN X14.here hexec rfl (hb hbytes d40) rfl rfl ?_
        exact Steps.refl _)
      obtain ⟨T16, X16, q16, st16⟩ := X14.hget hexec hown (wk W (.fieldLink "java/lang/String" 9 "java/lang/String" "value" "[B")) (hy.mv X14.warmed.alike hh14).2.1 (g := (mkF m 41 #[.val (.ref x), .val (.ref y), .val (.ref y)] [.ref y, .ref t])) rfl (rest := [.ref t]) rfl (hb hbytes d41)
      have hh16 := q16.trans hh14
      have c17 : Steps p.tables e below (s₁.setTop (entryFrame m #[.ref x, .ref y] 3)) (T16.setTop (mkF m 44 #[.val (.ref x), .val (.ref y), .val (.ref y)] [.ref t', .ref t])) := c15.trans (st16 _ (Steps.refl _))
      obtain ⟨v18, T18, X18, E18, g18⟩ := X16.callS hexec (LEq.law l t V t' V') hown (wks W (staticW "java/lang/String" 541 LEq.yN)) (wk W LEq.tab) (W := 0) (Nat.le_of_ble_eq_true rfl) (Nat.le_of_ble_eq_true rfl) (Nat.le_refl _) (Nat.le_refl _) (g := (mkF m 44 #[.val (.ref x), .val (.ref y), .val (.ref y)] [.ref t', .ref t])) rfl (by rw [hml]; rfl) c17 (argsL := [.ref t, .ref t']) (rest := []) rfl rfl (by show 2 * 0 + 0 ≤ _; decide) (hb hbytes d44) (⟨rfl, hx.2.2.2.1.mv X16.warmed.alike hh16, hx.2.2.2.2.1.ty, hy.2.2.2.1.mv X16.warmed.alike hh16, hy.2.2.2.2.1.ty⟩)
      obtain ⟨v, rfl, q18, hv⟩ := E18
      have iff := Cod.eqv hx.2.2.2.2.1 hy.2.2.2.2.1 hx.2.2.2.2.2 hy.2.2.2.2.2
      rcases hv with ⟨rfl, he⟩ | ⟨rfl, he⟩
      · have c19 : Steps p.tables e below (s₁.setTop (entryFrame m #[.ref x, .ref y] 3)) (T18.setTop (mkF m 55 #[.val (.ref x), .val (.ref y), .val (.ref y)] [.int 1])) := Steps.trans g18 (by
          refine XS.ifNo X18.here hexec rfl (hb hbytes d47) rfl (i0_eq_f (by decide)) ?_
          refine iconstV X18.here hexec rfl 1 (hb hbytes d50) (by decide) ?_
          refine XS.goto X18.here hexec rfl (pc0 := 51) rfl (hb hbytes d51) (by decide) rfl ?_
          exact Steps.refl _)
        exact ⟨T18, some (.int 1), _, _, _, X18, rfl, rfl, rfl, (fun h => by cases h), ⟨1, rfl, q18.trans hh16, Or.inl ⟨rfl, iff.mp he⟩⟩, fun fs hl => c19.trans (X18.ireturnOut hexec hret rfl (Or.inr (Or.inl rfl)) (hb hbytes d55) hl)⟩
      · have c19 : Steps p.tables e below (s₁.setTop (entryFrame m #[.ref x, .ref y] 3)) (T18.setTop (mkF m 55 #[.val (.ref x), .val (.ref y), .val (.ref y)] [.int 0])) := Steps.trans g18 (by
          refine XS.ifYes X18.here hexec rfl (pc0 := 47) rfl (hb hbytes d47) rfl (i0_eq_t rfl) (by decide) rfl ?_
          refine iconstV X18.here hexec rfl 0 (hb hbytes d54) (by decide) ?_
          exact Steps.refl _)
        exact ⟨T18, some (.int 0), _, _, _, X18, rfl, rfl, rfl, (fun h => by cases h), ⟨0, rfl, q18.trans hh16, Or.inr ⟨rfl, fun q => he (iff.mpr q)⟩⟩, fun fs hl => c19.trans (X18.ireturnOut hexec hret rfl (Or.inr (Or.inl rfl)) (hb hbytes d55) hl)⟩
    · have c13 : Steps p.tables e below (s₁.setTop (entryFrame m #[.ref x, .ref y] 3)) (T11.setTop (mkF m 55 #[.val (.ref x), .val (.ref y), .val (.ref y)] [.int 0])) := c12.trans (by
        refine XS.icmpYes X11.here hexec rfl (pc0 := 33) rfl (hb hbytes d33) rfl (ii_ne_t hcd) (by decide) rfl ?_
        refine iconstV X11.here hexec rfl 0 (hb hbytes d54) (by decide) ?_
        exact Steps.refl _)
      exact ⟨T11, some (.int 0), _, _, _, X11, rfl, rfl, rfl, (fun h => by cases h), ⟨0, rfl, hh11, Or.inr ⟨rfl, Cod.dif hx.2.2.2.2.1 hy.2.2.2.2.1 hcd⟩⟩, fun fs hl => c13.trans (X11.ireturnOut hexec hret rfl (Or.inr (Or.inl rfl)) (hb hbytes d55) hl)⟩
theorem pays {l : Launch} {R : Room} {p : Program} {e : Env} {below : List Frame} {s : State} {sargs : Array Value} {len W : Nat} (x t : Addr) (V : Cell) (cd : Int32) (n : Nat) (f : Nat → Int32) (y t' : Addr) (V' : Cell) (cd' : Int32) (k : Nat) (g : Nat → Int32) (z : Int32) (htab : tab.before sargs s = true) (hfr : 2 ≤ R.frames) (hlo : W + 28 ≤ R.locals) :
    Back l R p e below s sargs yN len W (fun A₁ a₁ => A₁.cells + 0 ≤ R.cells ∧ A₁.slots + 0 ≤ R.slots ∧ P x t V cd n f y t' V' cd' k g z a₁ A₁.U) (fun A₁ _ v₁ B₁ => Says01 (SameT n f k g) v₁ A₁.U B₁.U ∧ B₁.locs = A₁.locs ++ [] ∧ B₁.cells = A₁.cells + 0 ∧ B₁.slots = A₁.slots + 0) :=
  (law l x t V cd n f y t' V' cd' k g z).pays htab hfr (by omega)
end SEq
end StrChars
namespace StrChars.Road
open Jvm Sem ClassFile Op Lib Jvm.Stand Jvm.Free Jvm.Free.XT
open Jvm.Lib.Cold (StaticIs)
/-- the words of String.equals(Object) -/
abbrev wordsEq : List Jvm.Cond := [.code SEq.yN SEq.yB 3 (some .boolean), .initialized ST, .classLink ST 10 ST, .fieldLink ST 38 ST "COMPACT_STRINGS" "Z", .fieldLink ST 15 ST "coder" "B", .fieldLink ST 9 ST "value" "[B", .methodLink ST 541 LEq.yN, .static LEq.yN, .code LEq.yN LEq.yB 3 (some .boolean), .initialized "java/lang/StringLatin1"]
theorem tabEq_of {a : Array Value} {s : State} (h : ∀ w ∈ wordsEq, w.before a s = true) : SEq.tab.before a s = true := by
  have hl : LEq.tab.before a s = true := unparts (wk h (.code LEq.yN LEq.yB 3 (some .boolean))) (wks h (.initialized LEq.yN.cls :: LEq.site))
  have q := consq hl h
  exact unparts (wk q (.code SEq.yN SEq.yB 3 (some .boolean))) (wks q (.initialized SEq.yN.cls :: SEq.site))
theorem movedEq {Z s : State} {a0 args : Array Value} (hZ : Z.Warmed39 s.vm) (hw : ∀ d ∈ wordsEq, d.before a0 Z = true) : ∀ d ∈ wordsEq, d.before args s = true := fun d hd => by
  have t : ∀ d ∈ wordsEq, (d.onTables && d.keepsFace) = true := by decide +kernel
  exact RoadKit.mv hZ (hw d hd) (t d hd)
/-- the road's facts of a String, as the laws ask it -/
theorem txt_of {Z U : State} {a0 : Array Value} {kI : Nat} (wi : (Jvm.Cond.instantiable ST kI).before a0 Z = true) (al : Z.vm.Alike U.vm) {x t : Addr} {kb : ClassId} {cs : List Int32} {cd N2 : Int32} {vs : List Value} (E : RoadKit.Exa Z U.heap x ST) (V : RoadKit.Fld Z U.heap x ST "value" "[B" (.ref t)) (C : RoadKit.Fld Z U.heap x ST "coder" "B" (.int cd)) (K : RoadKit.Arv Z U.heap t kb .byte N2 vs (.int 0)) (hc : CodA cs cd N2 vs) (hb : ∀ c ∈ cs, ¬ c < 0 ∧ ¬ (65535 : Int32) < c) (l2 : cs.length ≤ 4000) :
    ∃ A, Txt x t A cd cs.length (fun j => cs.getD j 0) U := by
  obtain ⟨A, K1, K2, K3, K4, K5, K6⟩ := K
  have hcod := hc.cod (by omega) K3 K5
  obtain ⟨D, fV, fC, hB, F1, F2, g1, g2, -, -⟩ := strObj wi al E V C
  exact ⟨A, ⟨_, hB.2.2.1, D, hB.1, rfl, by cases q : D.vm <;> first | rfl | exact absurd q (hB.2.1.2 _)⟩, Has.of hB F1 g1, Has.of hB F2 g2, ⟨K1.1, State.isArrayOf_alike al K1.2.1, K1.2.2, by rcases hcod with ⟨-, q, -⟩ | ⟨-, q, -⟩ <;> omega⟩, hcod, fun j hj => by
    have e : cs.getD j 0 = cs[j] := by simp [List.getD_eq_getElem?_getD, hj]
    show ¬ cs.getD j 0 < 0 ∧ ¬ 65535 < cs.getD j 0
    rw [e]; exact hb _ (List.getElem_mem _)⟩
theorem same_list (cs ds : List Int32) : SameT cs.length (fun j => cs.getD j 0) ds.length (fun j => ds.getD j 0) ↔ cs = ds := by
  constructor
  · rintro ⟨e, q⟩
    refine List.ext_getElem e fun j h1 h2 => ?_
    have := q j h1
    simpa [List.getD_eq_getElem?_getD, h1, h2] using this
  · rintro rfl
    exact ⟨rfl, fun _ _ => rfl⟩
/-- **equals(Object) OF TWO SUCH STRINGS**: 1 just where the chars are the same -/
theorem eqW {p : Program} {l : Launch} {e : Env} {R : Room} {s : State} {args : Array Value} {below : List Frame} {len W : Nat} {Z : State} {a0 : Array Value} {h : Heap} (hZ : Z.Warmed39 s.vm) (hw : ∀ d ∈ wordsEq, d.before a0 Z = true) {kI : Nat} (wi : (Jvm.Cond.instantiable ST kI).before a0 Z = true)
    {x t : Addr} {kb : ClassId} {cs : List Int32} {cd N2 : Int32} {vs : List Value} (E : RoadKit.Exa Z h x ST) (V : RoadKit.Fld Z h x ST "value" "[B" (.ref t)) (C : RoadKit.Fld Z h x ST "coder" "B" (.int cd)) (K : RoadKit.Arv Z h t kb .byte N2 vs (.int 0)) (hc : CodA cs cd N2 vs) (hb : ∀ c ∈ cs, ¬ c < 0 ∧ ¬ (65535 : Int32) < c) (l2 : cs.length ≤ 4000)
    {y t' : Addr} {kb' : ClassId} {ds : List Int32} {cd' N2' : Int32} {vs' : List Value} (E' : RoadKit.Exa Z h y ST) (V' : RoadKit.Fld Z h y ST "value" "[B" (.ref t')) (C' : RoadKit.Fld Z h y ST "coder" "B" (.int cd')) (K' : RoadKit.Arv Z h t' kb' .byte N2' vs' (.int 0)) (hc' : CodA ds cd' N2' vs') (hb' : ∀ c ∈ ds, ¬ c < 0 ∧ ¬ (65535 : Int32) < c) (l2' : ds.length ≤ 4000)
    {z : Int32} (S : RoadKit.Sta Z h ST "COMPACT_STRINGS" "Z" (.int z)) (hz : ¬ z = 0) (hfr : 2 ≤ R.frames) (hlo : W + 28 ≤ R.locals) :
    Back l R p e below s args (⟨"java/lang/String", "equals", "(Ljava/lang/Object;)Z"⟩ : MethodName) len W (fun P a => a = #[.ref x, .ref y] ∧ P.U.heap = h ∧ P.cells + 0 ≤ R.cells ∧ P.slots + 0 ≤ R.slots)
      (fun P _ v B => ∃ L, (((v = some (.int 1) ∧ cs = ds) ∨ (v = some (.int 0) ∧ ¬ cs = ds)) ∧ L = [] ∧ B.U.heap = h) ∧ B.locs = P.locs ++ L ∧ B.cells = P.cells + 0 ∧ B.slots = P.slots + 0) := by
  intro m meth c P g ig mk a X hg hsize hdg hW hn hp'
  obtain ⟨rfl, rfl, r1, r2⟩ := hp'
  have al : Z.vm.Alike P.U.vm := hZ.alike.trans X.warmed.alike
  obtain ⟨A, hx⟩ := txt_of wi al E V C K hc hb l2
  obtain ⟨A', hy⟩ := txt_of wi al E' V' C' K' hc' hb' l2'
  obtain ⟨v, B, X', ⟨⟨w, hv, hh, hq⟩, hl, hk, hs⟩, st⟩ := SEq.pays x t A cd cs.length (fun j => cs.getD j 0) y t' A' cd' ds.length (fun j => ds.getD j 0) z (tabEq_of (movedEq hZ hw)) hfr hlo m meth c P g ig mk _ X hg hsize hdg hW hn ⟨r1, r2, rfl, hx, hy, sta_is al S, hz⟩
  refine ⟨v, B, X', ⟨[], ⟨?_, rfl, hh⟩, hl, hk, hs⟩, st⟩
  rcases hq with ⟨rfl, q⟩ | ⟨rfl, q⟩
  · exact Or.inl ⟨hv, (same_list cs ds).mp q⟩
  · exact Or.inr ⟨hv, fun e => q ((same_list cs ds).mpr e)⟩
end StrChars.Road
namespace StrChars
open Jvm Sem ClassFile Op Lib Jvm.Stand Jvm.Free.XT Jvm.Free.ALB Jvm.Free.JM Jvm.Free
open Jvm.Lib.Cold (StaticIs)
namespace ChN
def yN : MethodName := ⟨"java/lang/String", "charAt", "(I)C"⟩
abbrev yB : ByteArray := jdk_42_method_56_code
theorem d0 : decode yB 0 = .ok (.aload_n 0, 1) := by decide +kernel
theorem d1 : decode yB 1 = .ok (.invokevirtual 492, 3) := by decide +kernel
theorem d4 : decode yB 4 = .ok (.ifCond (.eq) 12, 3) := by decide +kernel
theorem d7 : decode yB 7 = .ok (.aload_n 0, 1) := by decide +kernel
theorem d8 : decode yB 8 = .ok (.getfield 9, 3) := by decide +kernel
theorem d11 : decode yB 11 = .ok (.iload_n 1, 1) := by decide +kernel
theorem d12 : decode yB 12 = .ok (.invokestatic 495, 3) := by decide +kernel
theorem d15 : decode yB 15 = .ok (.ireturn, 1) := by decide +kernel
def site : List Cond := [.fieldLink "java/lang/String" 9 "java/lang/String" "value" "[B", IsL.tab, LChA.tab] ++ virtW "java/lang/String" 492 "java/lang/String" IsL.yN IsL.yN ++ staticW "java/lang/String" 495 LChA.yN
def tab : Cond := tabOf yN yB 2 (some .char) site
def P (x t : Addr) (V : Cell) (n : Nat) (f : Nat → Int32) (z : Int32) (fm : Value) (i : Nat) (args : Array Value) (s : State) : Prop := args = #[.ref x, .int (Int32.ofNat i)] ∧ Txt x t V 0 n f s ∧ i < n ∧ StaticIs s "java/lang/String" "COMPACT_STRINGS" "Z" (.int z) ∧ ¬ z = 0 ∧ StaticIs s "jdk/internal/util/Preconditions" "SIOOBE_FORMATTER" "Ljava/util/function/BiFunction;" fm ∧ fm.isRef = true
def E (f : Nat → Int32) (i : Nat) (r : Option Value) (s u : State) : Prop := XT.PureE (some (.int (f i))) r s u
/-- charAt(i) of a Latin-1 String of n chars, i < n: f i -/
theorem law (l : Launch) (x t : Addr) (V : Cell) (n : Nat) (f : Nat → Int32) (z : Int32) (fm : Value) (i : Nat) : Law l yN 2 1 3 40 yB 2 (some .char) site (P x t V n f z fm i) (E f i) [] 0 0 := by
  refine Law.of_walk (plainFor_of_name (by decide +kernel)) (by decide +kernel) (by decide +kernel) (by decide) (fun _ _ h => by rw [h.1]; rfl) (fun _ U U' hal hh h => ⟨h.1, h.2.1.mv hal hh, h.2.2.1, h.2.2.2.1.there hal hh, h.2.2.2.2.1, h.2.2.2.2.2.1.there hal hh, h.2.2.2.2.2.2⟩) (fun r U U' V V' h1 hal h2 h => XT.PureE.mv r U U' V V' h1 hal h2 h) ?_
  intro p e s m args below meth c s₁ X0 hexec hbytes hml hret hlk hnm hown hh0 W hP
  obtain ⟨rfl, hx, hi, s1, hz, s3, rf⟩ := hP
  have v31 := hx.2.2.2.1.2.2.2
  have hr := hx.2.2.2.2.2 i hi
  have hx0 := hx.mv X0.warmed.alike hh0
  have c1 : Steps p.tables e below (s₁.setTop (entryFrame m #[.ref x, .int (Int32.ofNat i)] 2)) (s₁.setTop (mkF m 1 #[.val (.ref x), .val (.int (Int32.ofNat i))] [.ref x])) := Steps.trans (entry rfl) (by
    show Steps p.tables e below (s₁.setTop (mkF m 0 #[.val (.ref x), .val (.int (Int32.ofNat i))] [])) _
    refine XS.aloadN X0.here hexec rfl (hb hbytes d0) rfl rfl ?_
    exact Steps.refl _)
  obtain ⟨v2, T2, X2, E2, g2⟩ := X0.callV hexec (IsL.law l x 0 z) hown (wks W (virtW "java/lang/String" 492 "java/lang/String" IsL.yN IsL.yN)) rfl (by decide) (wk W IsL.tab) (W := 0) (Nat.le_of_ble_eq_true rfl) (Nat.le_of_ble_eq_true rfl) (Nat.le_refl _) (Nat.le_refl _) (hx0.1.fc X0.warmed.alike) hx0.1.is (g := (mkF m 1 #[.val (.ref x), .val (.int (Int32.ofNat i))] [.ref x])) rfl (by rw [hml]; rfl) c1 (argsL := []) (rest := []) rfl rfl (by show 2 * 0 + 0 ≤ _; decide) (hb hbytes d1) (⟨rfl, hx0.2.2.1, hx.2.2.2.2.1.cd, s1.there X0.warmed.alike hh0, hz⟩)
  obtain ⟨rfl, q2⟩ := E2
  have hh2 := q2.trans hh0
  have hx2 := hx.mv X2.warmed.alike hh2
  obtain ⟨-, k1, k2⟩ | ⟨k0, -⟩ := hx.2.2.2.2.1
  · have c3 : Steps p.tables e below (s₁.setTop (entryFrame m #[.ref x, .int (Int32.ofNat i)] 2)) (T2.setTop (mkF m 8 #[.val (.ref x), .val (.int (Int32.ofNat i))] [.ref x])) := Steps.trans g2 (by
      refine XS.ifNo X2.here hexec rfl (hb hbytes d4) rfl (i0_eq_f (by decide)) ?_
      refine XS.aloadN X2.here hexec rfl (hb hbytes d7) rfl rfl ?_
      exact Steps.refl _)
    obtain ⟨T4, X4, q4, st4⟩ := X2.hget hexec hown (wk W (.fieldLink "java/lang/String" 9 "java/lang/String" "value" "[B")) hx2.2.1 (g := (mkF m 8 #[.val (.ref x), .val (.int (Int32.ofNat i))] [.ref x])) rfl (rest := []) rfl (hb hbytes d8)
    have hh4 := q4.trans hh2
    have c5 : Steps p.tables e below (s₁.setTop (entryFrame m #[.ref x, .int (Int32.ofNat i)] 2)) (T4.setTop (mkF m 12 #[.val (.ref x), .val (.int (Int32.ofNat i))] [.int (Int32.ofNat i), .ref t])) := (c3.trans (st4 _ (Steps.refl _))).trans (by
      refine XS.iloadN X4.here hexec rfl (hb hbytes d11) rfl ?_
      exact Steps.refl _)
    obtain ⟨v6, T6, X6, E6, g6⟩ := X4.callS hexec (LChA.law l t V i (lo8 (f i)) fm) hown (wks W (staticW "java/lang/String" 495 LChA.yN)) (wk W LChA.tab) (W := 0) (Nat.le_of_ble_eq_true rfl) (Nat.le_of_ble_eq_true rfl) (Nat.le_refl _) (Nat.le_refl _) (g := (mkF m 12 #[.val (.ref x), .val (.int (Int32.ofNat i))] [.int (Int32.ofNat i), .ref t])) rfl (by rw [hml]; rfl) c5 (argsL := [.ref t, .int (Int32.ofNat i)]) (rest := []) rfl rfl (by show 2 * 0 + 0 ≤ _; decide) (hb hbytes d12) (⟨rfl, hx.2.2.2.1.mv X4.warmed.alike hh4, (k2 i hi).1, s3.there X4.warmed.alike hh4, rf⟩)
    obtain ⟨rfl, q6⟩ := E6
    rw [chr8_lo8 hr.1 (k2 i hi).2] at g6
    exact ⟨T6, some (.int (f i)), _, _, _, X6, rfl, rfl, rfl, (fun h => by cases h), ⟨rfl, q6.trans hh4⟩, fun fs hl => Steps.trans g6 (X6.ireturnOut hexec hret (narrow_ch hr.1 hr.2) (Or.inr (Or.inr (Or.inr (Or.inl rfl)))) (hb hbytes d15) hl)⟩
  · exact absurd k0 (by decide)
theorem pays {l : Launch} {R : Room} {p : Program} {e : Env} {below : List Frame} {s : State} {sargs : Array Value} {len W : Nat} (x t : Addr) (V : Cell) (n : Nat) (f : Nat → Int32) (z : Int32) (fm : Value) (i : Nat) (htab : tab.before sargs s = true) (hfr : 4 ≤ R.frames) (hlo : W + 53 ≤ R.locals) :
    Back l R p e below s sargs yN len W (fun A₁ a₁ => A₁.cells + 0 ≤ R.cells ∧ A₁.slots + 0 ≤ R.slots ∧ P x t V n f z fm i a₁ A₁.U) (fun A₁ _ v₁ B₁ => E f i v₁ A₁.U B₁.U ∧ B₁.locs = A₁.locs ++ [] ∧ B₁.cells = A₁.cells + 0 ∧ B₁.slots = A₁.slots + 0) :=
  (law l x t V n f z fm i).pays htab hfr (by omega)
end ChN
end StrChars
namespace StrChars.Road
open Jvm Sem ClassFile Op Lib Jvm.Stand Jvm.Free Jvm.Free.XT
open Jvm.Lib.Cold (StaticIs)
/-- the words of String.charAt(int), the Latin-1 road alone -/
abbrev wordsChN : List Jvm.Cond := [.code ChN.yN ChN.yB 2 (some .char), .initialized ST, .fieldLink ST 9 ST "value" "[B", .fieldLink ST 38 ST "COMPACT_STRINGS" "Z", .fieldLink ST 15 ST "coder" "B", .code IsL.yN IsL.yB 1 (some .boolean), .methodLink ST 492 IsL.yN, .declares IsL.yN, .selects ST IsL.yN IsL.yN, .instanceMethod IsL.yN,
  .methodLink ST 495 LChA.yN, .static LChA.yN, .code LChA.yN LChA.yB 2 (some .char), .initialized "java/lang/StringLatin1", .methodLink "java/lang/StringLatin1" 9 JO.Str_checkIndex.yN, .static JO.Str_checkIndex.yN, .code JO.Str_checkIndex.yN JO.Str_checkIndex.yB 2 none,
  .fieldLink ST 1053 "jdk/internal/util/Preconditions" "SIOOBE_FORMATTER" "Ljava/util/function/BiFunction;", .methodLink ST 1059 JC.PreCheck.yN, .static JC.PreCheck.yN, .code JC.PreCheck.yN JC.PreCheck.yB 3 (some .int), .initialized "jdk/internal/util/Preconditions"]
theorem tabChN_of {a : Array Value} {s : State} (h : ∀ w ∈ wordsChN, w.before a s = true) : ChN.tab.before a s = true := by
  have hp : JC.PreCheck.tab.before a s = true := unparts (wk h (.code JC.PreCheck.yN JC.PreCheck.yB 3 (some .int))) (wks h (.initialized JC.PreCheck.yN.cls :: JC.PreCheck.site))
  have qk := consq hp h
  have hk : JO.Str_checkIndex.tab.before a s = true := unparts (wk qk (.code JO.Str_checkIndex.yN JO.Str_checkIndex.yB 2 none)) (wks qk (.initialized JO.Str_checkIndex.yN.cls :: JO.Str_checkIndex.site))
  have ql := consq hk h
  have hl : LChA.tab.before a s = true := unparts (wk ql (.code LChA.yN LChA.yB 2 (some .char))) (wks ql (.initialized LChA.yN.cls :: LChA.site))
  have hi : IsL.tab.before a s = true := unparts (wk h (.code IsL.yN IsL.yB 1 (some .boolean))) (wks h (.initialized IsL.yN.cls :: IsL.site))
  have q := consq hi (consq hl h)
  exact unparts (wk q (.code ChN.yN ChN.yB 2 (some .char))) (wks q (.initialized ChN.yN.cls :: ChN.site))
theorem movedChN {Z s : State} {a0 args : Array Value} (hZ : Z.Warmed39 s.vm) (hw : ∀ d ∈ wordsChN, d.before a0 Z = true) : ∀ d ∈ wordsChN, d.before args s = true := fun d hd => by
  have t : ∀ d ∈ wordsChN, (d.onTables && d.keepsFace) = true := by decide +kernel
  exact RoadKit.mv hZ (hw d hd) (t d hd)
/-- **charAt(i) OF A LATIN-1 STRING**, i < n: the char -/
theorem chN {p : Program} {l : Launch} {e : Env} {R : Room} {s : State} {args : Array Value} {below : List Frame} {len W : Nat} {Z : State} {a0 : Array Value} {h : Heap} (hZ : Z.Warmed39 s.vm) (hw : ∀ d ∈ wordsChN, d.before a0 Z = true) {kI : Nat} (wi : (Jvm.Cond.instantiable ST kI).before a0 Z = true)
    {x t : Addr} {kb : ClassId} {cs : List Int32} {N2 z : Int32} {vs : List Value} {fm : Value} {i : Nat} {j : Int32} (E : RoadKit.Exa Z h x ST) (V : RoadKit.Fld Z h x ST "value" "[B" (.ref t)) (C : RoadKit.Fld Z h x ST "coder" "B" (.int 0)) (K : RoadKit.Arv Z h t kb .byte N2 vs (.int 0)) (hc : CodA cs 0 N2 vs) (hb : ∀ c ∈ cs, ¬ c < 0 ∧ ¬ (65535 : Int32) < c)
    (S : RoadKit.Sta Z h ST "COMPACT_STRINGS" "Z" (.int z)) (hz : ¬ z = 0) (F : RoadKit.Sta Z h "jdk/internal/util/Preconditions" "SIOOBE_FORMATTER" "Ljava/util/function/BiFunction;" fm) (rf : fm.isRef = true) (l2 : cs.length ≤ 4000) (hi : i < cs.length) (hj : j = Int32.ofNat i) (hfr : 4 ≤ R.frames) (hlo : W + 53 ≤ R.locals) :
    Back l R p e below s args (⟨"java/lang/String", "charAt", "(I)C"⟩ : MethodName) len W (fun P a => a = #[.ref x, .int j] ∧ P.U.heap = h ∧ P.cells + 0 ≤ R.cells ∧ P.slots + 0 ≤ R.slots)
      (fun P _ v B => ∃ L, (v = some (.int (cs.getD i 0)) ∧ L = [] ∧ B.U.heap = h) ∧ B.locs = P.locs ++ L ∧ B.cells = P.cells + 0 ∧ B.slots = P.slots + 0) := by
  subst hj
  intro m meth c P g ig mk a X hg hsize hdg hW hn hp'
  obtain ⟨rfl, rfl, r1, r2⟩ := hp'
  have al : Z.vm.Alike P.U.vm := hZ.alike.trans X.warmed.alike
  obtain ⟨A, hx⟩ := txt_of wi al E V C K hc hb l2
  obtain ⟨v, B, X', ⟨⟨hv, hh⟩, hl, hk, hs⟩, st⟩ := ChN.pays x t A cs.length (fun j => cs.getD j 0) z fm i (tabChN_of (movedChN hZ hw)) hfr hlo m meth c P g ig mk _ X hg hsize hdg hW hn ⟨r1, r2, rfl, hx, hi, sta_is al S, hz, sta_is al F, rf⟩
  exact ⟨v, B, X', ⟨[], ⟨hv, rfl, hh⟩, hl, hk, hs⟩, st⟩
/-- what backV says of its String, as the contracts of this text ask it: cs's low bytes, coder 0 -/
theorem codOf {cs : List Int32} {n : Nat} (hn : cs.length = n) (hb : ∀ c ∈ cs, ¬ 255 < c) : CodA cs 0 (Int32.ofNat n) ((cs.map lo8).map Value.int) := Or.inl ⟨rfl, by rw [hn], by simp [List.map_map, Function.comp_def], hb⟩
end StrChars.Road
end Jvm.Pilot.@@N@@
namespace Jvm.Pilot.@@N@@
open Jvm Jvm.ClassFile Sem Op Lib Jvm.Free Jvm.Stand Jvm.LawKit Jvm.RoadKit Bundle Jvm.Pilot.@@N@@.Jvm.D
-- own prelude: a walk as a chain of goals Go (from here the method comes to its end, and Fin holds there)
def PT (W : Bool) (EL : List (String × Nat)) (Z : State) (a0 : Array Value) (own : String) (p : Program) (l : Launch) (e : Env) (R : Room) (s : State) (m : MethodId) (args : Array Value) (below : List Frame) (meth : Method) (c : Code) (T : State) (h : Heap) (cells slots : Nat) : Prop :=
  ∃ (vm0 : Vm) (k0 : Nat) (locs : List Loc), (W = false → vm0 = s.vm) ∧ Stand p l e R (s.setVm vm0) m args below meth c T locs cells slots ∧ T.heap = h ∧ p.tables.exec = Jvm.exec ∧ Z.Warmed39 vm0 ∧ vm0.findClass own = some m.cls ∧ s.Since vm0 k0 ∧ k0 ≤ h.size ∧ EW Z a0 EL ∧ CHr Z EL s.vm s.heap vm0 h ∧ Fr Z.heap.size locs ∧ Old Z Z.heap.size h
def Go (W : Bool) (EL : List (String × Nat)) (Z : State) (a0 : Array Value) (own : String) (p : Program) (l : Launch) (e : Env) (R : Room) (s : State) (m : MethodId) (args : Array Value) (below : List Frame) (meth : Method) (c : Code) (F : Outcome → State → Prop) (h : Heap) (cells slots : Nat) (g : JFrame) : Prop :=
  ∀ T, PT W EL Z a0 own p l e R s m args below meth c T h cells slots → ∃ t o, Steps p.tables e below (T.setTop g) t ∧ t.status = .running ∧ Ended t below o ∧ F o t
def Fend (W : Bool) (EL : List (String × Nat)) (Z : State) (s : State) (h0 : Heap) (ws : List Addr) (Q : Option Value → Heap → Prop) (dc ds : Nat) (o : Outcome) (t : State) : Prop :=
  ∃ v L, o = .returned v ∧ (Q v t.heap ∧ Fr Z.heap.size L ∧ Keep h0 t.heap ws) ∧ (W = true → CHr Z EL s.vm s.heap t.vm t.heap ∧ ReturnedEndW s o t L dc ds) ∧ (W = false → FrameEnd s o t L dc ds)
def Con (W : Bool) (EL : List (String × Nat)) (l : Launch) (Z : State) (y : MethodName) (bytes : ByteArray) (maxL : Nat) (ret : Option FieldType) (wl : List Jvm.Cond) (rm : Room) (as' : Array Value) (h : Heap) (ws : List Addr) (Q : Option Value → Heap → Prop) : Prop :=
  MetFree l y (head1 (Jvm.Cond.code y bytes maxL ret :: wl) rm) (fun a U => a = as' ∧ Z.Warmed39 U.vm ∧ U.heap = h ∧ (W = true → CHv Z EL U.vm h)) (fun _ _ _ _ _ => True) (fun _ U o U' => Fend W EL Z U h ws Q rm.cells rm.slots o U')
def rvl (Q : Value → Heap → Prop) (v : Option Value) (h : Heap) : Prop := ∃ x, v = some x ∧ Q x h
def rno (Q : Heap → Prop) (v : Option Value) (h : Heap) : Prop := v = none ∧ Q h
def Pay (l : Launch) (R : Room) (p : Program) (e : Env) (below : List Frame) (Z : State) (y : MethodName) (Wd : Nat) (as' : Array Value) (h : Heap) (dc ds : Nat) (ws : List Addr) (Q : Option Value → Heap → Prop) : Prop :=
  ∀ (s : State) (args : Array Value), Z.Warmed39 s.vm → Back l R p e below s args y 3 Wd (fun A a => a = as' ∧ A.U.heap = h ∧ A.cells + dc ≤ R.cells ∧ A.slots + ds ≤ R.slots) (fun A _ v B => ∃ L, (Q v B.U.heap ∧ Fr Z.heap.size L ∧ Keep h B.U.heap ws) ∧ B.locs = A.locs ++ L ∧ B.cells = A.cells + dc ∧ B.slots = A.slots + ds)
def PayW (EL : List (String × Nat)) (l : Launch) (R : Room) (p : Program) (e : Env) (below : List Frame) (Z : State) (y : MethodName) (Wd : Nat) (as' : Array Value) (h : Heap) (dc ds : Nat) (ws : List Addr) (Q : Option Value → Heap → Prop) : Prop :=
  ∀ (s : State) (vm0 : Vm) (args : Array Value), Z.Warmed39 vm0 → CHv Z EL vm0 h → BackS l R p e below (s.setVm vm0) args y 3 Wd (fun A a => a = as' ∧ A.U.heap = h ∧ A.cells + dc ≤ R.cells ∧ A.slots + ds ≤ R.slots) (fun A _ v B => ∃ L, (Q v B.U.heap ∧ Fr Z.heap.size L ∧ Keep h B.U.heap ws) ∧ B.locs = A.locs ++ L ∧ B.cells = A.cells + dc ∧ B.slots = A.slots + ds ∧ CHr Z EL vm0 h B.U.vm B.U.heap)
section Own
variable {W : Bool} {EL : List (String × Nat)} {Z : State} {a0 : Array Value} {own : String} {p : Program} {l : Launch} {e : Env} {R : Room} {s : State} {m : MethodId} {args : Array Value} {below : List Frame} {meth : Method} {c : Code} {F : Outcome → State → Prop} {h : Heap} {cells slots cells' slots' : Nat} {pc pc' : Nat} {ls ls' : Array Slot} {st : List Value}
theorem safe_nil {vm : Vm} {x : Addr} : Safe Z [] vm h x := fun ⟨_, hp, _⟩ => nomatch hp
theorem chv_nil {vm : Vm} : CHv Z [] vm h := fun _ hp => nomatch hp
theorem con_of {y : MethodName} {bytes : ByteArray} {maxL : Nat} {ret : Option FieldType} {wl : List Jvm.Cond} {rm : Room} {as' : Array Value} {ws : List Addr} {Q : Option Value → Heap → Prop} (hname : plainFor y = true) (hWE : W = false → EL = []) (hEL : EW Z a0 EL) (hO : Old Z Z.heap.size h) (hef : ∀ m, entryFrame m as' maxL = mkF m 0 ls [])
    (body : ∀ (p : Program) (e : Env) (s : State) (m : MethodId) (below : List Frame) (meth : Method) (c : Code), c.code = bytes → c.maxLocals = maxL → meth.sig.returnType = ret → meth.locks = false → meth.name = y.name → Go W EL Z a0 y.cls p l e rm s m as' below meth c (Fend W EL Z s h ws Q rm.cells rm.slots) h 0 0 (mkF m 0 ls [])) :
    Con W EL l Z y bytes maxL ret wl rm as' h ws Q := by
  refine MetFree.of_bodySF hname hisR ?_
  intro p e s m args below meth c s₁ Bd hml hP _
  obtain ⟨rfl, hZ, hh, hC⟩ := hP
  have X0 : Stand p l e rm s m args below meth c s₁ [] 0 0 := Stand.of_body Bd
  have e0 : s₁.heap = h := by rw [← hh, Bd.state]; rfl
  have hown : s.vm.findClass y.cls = some m.cls := findClass_of_methodNamed Bd.named
  have hnm := (name_of_methodNamed Bd.named Bd.method).1
  have hcv : CHv Z EL s.vm h := by
    cases W
    · rw [hWE rfl]; exact chv_nil
    · exact hC rfl
  have hcr : CHr Z EL s.vm s.heap s.vm h := by rw [hh]; exact CHr.refl hcv
  obtain ⟨t, o, h1, h2⟩ := body p e s m below meth c Bd.bytes hml Bd.returns Bd.notSynchronized hnm s₁ ⟨s.vm, h.size, [], fun _ => rfl, X0, e0, Bd.exec, hZ, hown, (State.WarmedH.refl s).since _, Nat.le_refl _, hEL, hcr, Fr.nil _, hO⟩
  exact ⟨t, o, castTop (hef m) h1, h2⟩
theorem pay_of {y : MethodName} {bytes : ByteArray} {maxL : Nat} {ret : Option FieldType} {rm : Room} {as' : Array Value} {ws : List Addr} {Q : Option Value → Heap → Prop} {Wd : Nat} (hM : Con false [] l Z y bytes maxL ret [] rm as' h ws Q) (wc : (Jvm.Cond.code y bytes maxL ret).before a0 Z = true) (wz : (Jvm.Cond.initialized y.cls).before a0 Z = true) (hf : rm.frames + 1 ≤ R.frames) (hl : Wd + (maxL + 11) + rm.locals ≤ R.locals) :
    Pay l R p e below Z y Wd as' h rm.cells rm.slots ws Q := by
  intro s args hZ
  refine backOf (Q := fun v h' L => Q v h' ∧ Fr Z.heap.size L ∧ Keep h h' ws) ?_ hZ wc wz hf hl
  intro p e h1 h2 h3 s m args below h4 h5 h6 h7
  obtain ⟨n, o, q1, q2, q3, v, L, rfl, hq, -, hF⟩ := hM p e h1 h2 h3 s m args below h4 h5 ⟨h6.1, h6.2.1, h6.2.2, fun q => nomatch q⟩ h7
  exact ⟨n, _, q1, q2, q3, v, L, rfl, hq, hF rfl⟩
theorem payW_of {y : MethodName} {bytes : ByteArray} {maxL : Nat} {ret : Option FieldType} {rm : Room} {as' : Array Value} {ws : List Addr} {Q : Option Value → Heap → Prop} {Wd : Nat} (hM : Con true EL l Z y bytes maxL ret [] rm as' h ws Q) (wc : (Jvm.Cond.code y bytes maxL ret).before a0 Z = true) (wz : (Jvm.Cond.initialized y.cls).before a0 Z = true) (hf : rm.frames + 1 ≤ R.frames) (hl : Wd + (maxL + 11) + rm.locals ≤ R.locals) (hEL : EW Z a0 EL) :
    PayW EL l R p e below Z y Wd as' h rm.cells rm.slots ws Q := by
  intro s vm0 args hZ H
  refine backOfSH (Q := fun v h' L => Q v h' ∧ Fr Z.heap.size L ∧ Keep h h' ws) ?_ hZ wc wz hf hl hEL H
  intro p e h1 h2 h3 s m args below h4 h5 h6 h7
  obtain ⟨n, o, q1, q2, q3, v, L, rfl, hq, hC, -⟩ := hM p e h1 h2 h3 s m args below h4 h5 ⟨h6.1, h6.2.1, h6.2.2.1, fun _ => h6.2.2.2⟩ h7
  exact ⟨n, _, q1, q2, q3, v, L, rfl, hq, (hC rfl).1, (hC rfl).2⟩
theorem go_old {g0 : JFrame} (k : Old Z Z.heap.size h → Go W EL Z a0 own p l e R s m args below meth c F h cells slots (g0)) : Go W EL Z a0 own p l e R s m args below meth c F h cells slots (g0) := by
  intro T P
  exact k P.choose_spec.choose_spec.choose_spec.2.2.2.2.2.2.2.2.2.2.2 T P
theorem go_pure {g g' : JFrame} (stp : ∀ T : State, At T m c below → p.tables.exec = Jvm.exec → ∀ target, Steps p.tables e below (T.setTop g') target → Steps p.tables e below (T.setTop g) target) (k : Go W EL Z a0 own p l e R s m args below meth c F h cells slots (g')) : Go W EL Z a0 own p l e R s m args below meth c F h cells slots (g) := by
  intro T P
  obtain ⟨t, o, h1, h2⟩ := k T P
  obtain ⟨vm0, k0, locs, -, X, -, hx, -⟩ := P
  exact ⟨t, o, stp T X.here hx _ h1, h2⟩
theorem go_iconst {i : Int} {v : Int32} (hd : decode c.code pc = .ok (.iconst i, 1)) (hp : pc + 1 = pc') (hv : Int32.ofInt i = v) (k : Go W EL Z a0 own p l e R s m args below meth c F h cells slots (mkF m pc' ls (.int v :: st))) : Go W EL Z a0 own p l e R s m args below meth c F h cells slots (mkF m pc ls st) := by
  subst hp hv
  exact go_pure (fun T ha hx target hr => XS.iconst ha hx rfl hd hr) k
theorem go_bipush {i : Int} {v : Int32} (hd : decode c.code pc = .ok (.bipush i, 2)) (hp : pc + 2 = pc') (hv : (Int8.ofInt i).toInt32 = v) (k : Go W EL Z a0 own p l e R s m args below meth c F h cells slots (mkF m pc' ls (.int v :: st))) : Go W EL Z a0 own p l e R s m args below meth c F h cells slots (mkF m pc ls st) := by
  subst hp hv
  exact go_pure (fun T ha hx target hr => XS.bipush ha hx rfl hd hr) k
theorem go_sipush {i : Int} {v : Int32} (hd : decode c.code pc = .ok (.sipush i, 3)) (hp : pc + 3 = pc') (hv : (Int16.ofInt i).toInt32 = v) (k : Go W EL Z a0 own p l e R s m args below meth c F h cells slots (mkF m pc' ls (.int v :: st))) : Go W EL Z a0 own p l e R s m args below meth c F h cells slots (mkF m pc ls st) := by
  subst hp hv
  exact go_pure (fun T ha hx target hr => XS.sipush ha hx rfl hd hr) k
theorem go_aconst_null  (hd : decode c.code pc = .ok (.aconst_null, 1)) (hp : pc + 1 = pc')  (k : Go W EL Z a0 own p l e R s m args below meth c F h cells slots (mkF m pc' ls (.null :: st))) : Go W EL Z a0 own p l e R s m args below meth c F h cells slots (mkF m pc ls (st)) := by
  subst hp
  exact go_pure (fun T ha hx target hr => XS.aconstNull ha hx rfl hd hr) k
theorem go_aload_n {i : Fin 4} {v : Value} (hd : decode c.code pc = .ok (.aload_n i, 1)) (hp : pc + 1 = pc') (hl : ls[i.val]? = some (.val v)) (hv : v.isRef = true) (k : Go W EL Z a0 own p l e R s m args below meth c F h cells slots (mkF m pc' ls (v :: st))) : Go W EL Z a0 own p l e R s m args below meth c F h cells slots (mkF m pc ls (st)) := by
  subst hp
  exact go_pure (fun T ha hx target hr => XS.aloadN ha hx rfl hd hl hv hr) k
theorem go_aload {i : Nat} {v : Value} (hd : decode c.code pc = .ok (.aload i, 2)) (hp : pc + 2 = pc') (hl : ls[i]? = some (.val v)) (hv : v.isRef = true) (k : Go W EL Z a0 own p l e R s m args below meth c F h cells slots (mkF m pc' ls (v :: st))) : Go W EL Z a0 own p l e R s m args below meth c F h cells slots (mkF m pc ls (st)) := by
  subst hp
  exact go_pure (fun T ha hx target hr => XS.aload ha hx rfl hd hl hv hr) k
theorem go_iload_n {i : Fin 4} {v : Int32} (hd : decode c.code pc = .ok (.iload_n i, 1)) (hp : pc + 1 = pc') (hl : ls[i.val]? = some (.val (.int v))) (k : Go W EL Z a0 own p l e R s m args below meth c F h cells slots (mkF m pc' ls (.int v :: st))) : Go W EL Z a0 own p l e R s m args below meth c F h cells slots (mkF m pc ls (st)) := by
  subst hp
  exact go_pure (fun T ha hx target hr => XS.iloadN ha hx rfl hd hl hr) k
theorem go_iload {i : Nat} {v : Int32} (hd : decode c.code pc = .ok (.iload i, 2)) (hp : pc + 2 = pc') (hl : ls[i]? = some (.val (.int v))) (k : Go W EL Z a0 own p l e R s m args below meth c F h cells slots (mkF m pc' ls (.int v :: st))) : Go W EL Z a0 own p l e R s m args below meth c F h cells slots (mkF m pc ls (st)) := by
  subst hp
  exact go_pure (fun T ha hx target hr => XS.iload ha hx rfl hd hl hr) k
theorem go_lload_n {i : Fin 4} {v : Int64} (hd : decode c.code pc = .ok (.lload_n i, 1)) (hp : pc + 1 = pc') (hl : ls[i.val]? = some (.val (.long v))) (k : Go W EL Z a0 own p l e R s m args below meth c F h cells slots (mkF m pc' ls (.long v :: st))) : Go W EL Z a0 own p l e R s m args below meth c F h cells slots (mkF m pc ls (st)) := by
  subst hp
  exact go_pure (fun T ha hx target hr => XT.lloadN ha hx rfl hd hl hr) k
theorem go_lload {i : Nat} {v : Int64} (hd : decode c.code pc = .ok (.lload i, 2)) (hp : pc + 2 = pc') (hl : ls[i]? = some (.val (.long v))) (k : Go W EL Z a0 own p l e R s m args below meth c F h cells slots (mkF m pc' ls (.long v :: st))) : Go W EL Z a0 own p l e R s m args below meth c F h cells slots (mkF m pc ls (st)) := by
  subst hp
  exact go_pure (fun T ha hx target hr => XT.lload ha hx rfl hd hl hr) k
theorem go_istore_n {i : Fin 4} {v : Int32} (hd : decode c.code pc = .ok (.istore_n i, 1)) (hp : pc + 1 = pc') (hl : storeLocals ls i.val (.int v) = some ls') (k : Go W EL Z a0 own p l e R s m args below meth c F h cells slots (mkF m pc' ls' (st))) : Go W EL Z a0 own p l e R s m args below meth c F h cells slots (mkF m pc ls (.int v :: st)) := by
  subst hp
  exact go_pure (fun T ha hx target hr => XS.istoreN ha hx rfl hd rfl hl hr) k
theorem go_istore {i : Nat} {v : Int32} (hd : decode c.code pc = .ok (.istore i, 2)) (hp : pc + 2 = pc') (hl : storeLocals ls i (.int v) = some ls') (k : Go W EL Z a0 own p l e R s m args below meth c F h cells slots (mkF m pc' ls' (st))) : Go W EL Z a0 own p l e R s m args below meth c F h cells slots (mkF m pc ls (.int v :: st)) := by
  subst hp
  exact go_pure (fun T ha hx target hr => XS.istore ha hx rfl hd rfl hl hr) k
theorem go_astore_n {i : Fin 4} {v : Value} (hd : decode c.code pc = .ok (.astore_n i, 1)) (hp : pc + 1 = pc') (hv : v.isRef = true) (hl : storeLocals ls i.val v = some ls') (k : Go W EL Z a0 own p l e R s m args below meth c F h cells slots (mkF m pc' ls' (st))) : Go W EL Z a0 own p l e R s m args below meth c F h cells slots (mkF m pc ls (v :: st)) := by
  subst hp
  exact go_pure (fun T ha hx target hr => XS.astoreN ha hx rfl hd rfl hv hl hr) k
theorem go_astore {i : Nat} {v : Value} (hd : decode c.code pc = .ok (.astore i, 2)) (hp : pc + 2 = pc') (hv : v.isRef = true) (hl : storeLocals ls i v = some ls') (k : Go W EL Z a0 own p l e R s m args below meth c F h cells slots (mkF m pc' ls' (st))) : Go W EL Z a0 own p l e R s m args below meth c F h cells slots (mkF m pc ls (v :: st)) := by
  subst hp
  exact go_pure (fun T ha hx target hr => XS.astore ha hx rfl hd rfl hv hl hr) k
theorem go_lstore_n {i : Fin 4} {v : Int64} (hd : decode c.code pc = .ok (.lstore_n i, 1)) (hp : pc + 1 = pc') (hl : storeLocals ls i.val (.long v) = some ls') (k : Go W EL Z a0 own p l e R s m args below meth c F h cells slots (mkF m pc' ls' (st))) : Go W EL Z a0 own p l e R s m args below meth c F h cells slots (mkF m pc ls (.long v :: st)) := by
  subst hp
  exact go_pure (fun T ha hx target hr => XT.lstoreN ha hx rfl hd rfl hl hr) k
theorem go_lstore {i : Nat} {v : Int64} (hd : decode c.code pc = .ok (.lstore i, 2)) (hp : pc + 2 = pc') (hl : storeLocals ls i (.long v) = some ls') (k : Go W EL Z a0 own p l e R s m args below meth c F h cells slots (mkF m pc' ls' (st))) : Go W EL Z a0 own p l e R s m args below meth c F h cells slots (mkF m pc ls (.long v :: st)) := by
  subst hp
  exact go_pure (fun T ha hx target hr => XT.lstore ha hx rfl hd rfl hl hr) k
theorem go_iadd {x y z : Int32} (hd : decode c.code pc = .ok (.iadd, 1)) (hp : pc + 1 = pc') (hz : x + y = z) (k : Go W EL Z a0 own p l e R s m args below meth c F h cells slots (mkF m pc' ls (.int z :: st))) : Go W EL Z a0 own p l e R s m args below meth c F h cells slots (mkF m pc ls (.int y :: .int x :: st)) := by
  subst hp hz
  exact go_pure (fun T ha hx target hr => XS.iadd ha hx rfl hd rfl hr) k
theorem go_isub {x y z : Int32} (hd : decode c.code pc = .ok (.isub, 1)) (hp : pc + 1 = pc') (hz : x - y = z) (k : Go W EL Z a0 own p l e R s m args below meth c F h cells slots (mkF m pc' ls (.int z :: st))) : Go W EL Z a0 own p l e R s m args below meth c F h cells slots (mkF m pc ls (.int y :: .int x :: st)) := by
  subst hp hz
  exact go_pure (fun T ha hx target hr => XS.isub ha hx rfl hd rfl hr) k
theorem go_imul {x y z : Int32} (hd : decode c.code pc = .ok (.imul, 1)) (hp : pc + 1 = pc') (hz : x * y = z) (k : Go W EL Z a0 own p l e R s m args below meth c F h cells slots (mkF m pc' ls (.int z :: st))) : Go W EL Z a0 own p l e R s m args below meth c F h cells slots (mkF m pc ls (.int y :: .int x :: st)) := by
  subst hp hz
  exact go_pure (fun T ha hx target hr => XS.imul ha hx rfl hd rfl hr) k
theorem go_iand {x y z : Int32} (hd : decode c.code pc = .ok (.iand, 1)) (hp : pc + 1 = pc') (hz : x &&& y = z) (k : Go W EL Z a0 own p l e R s m args below meth c F h cells slots (mkF m pc' ls (.int z :: st))) : Go W EL Z a0 own p l e R s m args below meth c F h cells slots (mkF m pc ls (.int y :: .int x :: st)) := by
  subst hp hz
  exact go_pure (fun T ha hx target hr => XS.iand ha hx rfl hd rfl hr) k
theorem go_ior {x y z : Int32} (hd : decode c.code pc = .ok (.ior, 1)) (hp : pc + 1 = pc') (hz : x ||| y = z) (k : Go W EL Z a0 own p l e R s m args below meth c F h cells slots (mkF m pc' ls (.int z :: st))) : Go W EL Z a0 own p l e R s m args below meth c F h cells slots (mkF m pc ls (.int y :: .int x :: st)) := by
  subst hp hz
  exact go_pure (fun T ha hx target hr => XT.ior ha hx rfl hd rfl hr) k
theorem go_ixor {x y z : Int32} (hd : decode c.code pc = .ok (.ixor, 1)) (hp : pc + 1 = pc') (hz : x ^^^ y = z) (k : Go W EL Z a0 own p l e R s m args below meth c F h cells slots (mkF m pc' ls (.int z :: st))) : Go W EL Z a0 own p l e R s m args below meth c F h cells slots (mkF m pc ls (.int y :: .int x :: st)) := by
  subst hp hz
  exact go_pure (fun T ha hx target hr => XT.ixor ha hx rfl hd rfl hr) k
theorem go_ishl {x y z : Int32} (hd : decode c.code pc = .ok (.ishl, 1)) (hp : pc + 1 = pc') (hz : x <<< (y &&& 31) = z) (k : Go W EL Z a0 own p l e R s m args below meth c F h cells slots (mkF m pc' ls (.int z :: st))) : Go W EL Z a0 own p l e R s m args below meth c F h cells slots (mkF m pc ls (.int y :: .int x :: st)) := by
  subst hp hz
  exact go_pure (fun T ha hx target hr => XT.ishl ha hx rfl hd rfl hr) k
theorem go_ishr {x y z : Int32} (hd : decode c.code pc = .ok (.ishr, 1)) (hp : pc + 1 = pc') (hz : x >>> (y &&& 31) = z) (k : Go W EL Z a0 own p l e R s m args below meth c F h cells slots (mkF m pc' ls (.int z :: st))) : Go W EL Z a0 own p l e R s m args below meth c F h cells slots (mkF m pc ls (.int y :: .int x :: st)) := by
  subst hp hz
  exact go_pure (fun T ha hx target hr => XT.ishr ha hx rfl hd rfl hr) k
theorem go_iushr {x y z : Int32} (hd : decode c.code pc = .ok (.iushr, 1)) (hp : pc + 1 = pc') (hz : XT.ushr x y = z) (k : Go W EL Z a0 own p l e R s m args below meth c F h cells slots (mkF m pc' ls (.int z :: st))) : Go W EL Z a0 own p l e R s m args below meth c F h cells slots (mkF m pc ls (.int y :: .int x :: st)) := by
  subst hp hz
  exact go_pure (fun T ha hx target hr => XT.iushr ha hx rfl hd rfl hr) k
theorem go_idiv {x y z : Int32} (hd : decode c.code pc = .ok (.idiv, 1)) (hp : pc + 1 = pc') (hy : y ≠ 0) (hz : x / y = z) (k : Go W EL Z a0 own p l e R s m args below meth c F h cells slots (mkF m pc' ls (.int z :: st))) : Go W EL Z a0 own p l e R s m args below meth c F h cells slots (mkF m pc ls (.int y :: .int x :: st)) := by
  subst hp hz
  exact go_pure (fun T ha hx target hr => XS.idiv ha hx rfl hd rfl hy hr) k
theorem go_irem {x y z : Int32} (hd : decode c.code pc = .ok (.irem, 1)) (hp : pc + 1 = pc') (hy : y ≠ 0) (hz : x % y = z) (k : Go W EL Z a0 own p l e R s m args below meth c F h cells slots (mkF m pc' ls (.int z :: st))) : Go W EL Z a0 own p l e R s m args below meth c F h cells slots (mkF m pc ls (.int y :: .int x :: st)) := by
  subst hp hz
  intro T P
  obtain ⟨t, o, h1, h2⟩ := k T P
  obtain ⟨vm0, k0, locs, -, X, -, hx, -⟩ := P
  exact ⟨t, o, iremM X hx rfl hd rfl hy h1, h2⟩
theorem go_ineg {x : Int32} {z : Int32} (hd : decode c.code pc = .ok (.ineg, 1)) (hp : pc + 1 = pc') (hz : -x = z) (k : Go W EL Z a0 own p l e R s m args below meth c F h cells slots (mkF m pc' ls (.int z :: st))) : Go W EL Z a0 own p l e R s m args below meth c F h cells slots (mkF m pc ls (.int x :: st)) := by
  subst hp hz
  exact go_pure (fun T ha hx target hr => XS.ineg ha hx rfl hd rfl hr) k
theorem go_i2c {x : Int32} {z : Int32} (hd : decode c.code pc = .ok (.i2c, 1)) (hp : pc + 1 = pc') (hz : x.toUInt32.toUInt16.toUInt32.toInt32 = z) (k : Go W EL Z a0 own p l e R s m args below meth c F h cells slots (mkF m pc' ls (.int z :: st))) : Go W EL Z a0 own p l e R s m args below meth c F h cells slots (mkF m pc ls (.int x :: st)) := by
  subst hp hz
  exact go_pure (fun T ha hx target hr => XT.i2c ha hx rfl hd rfl hr) k
theorem go_i2b {x : Int32} {z : Int32} (hd : decode c.code pc = .ok (.i2b, 1)) (hp : pc + 1 = pc') (hz : x.toInt8.toInt32 = z) (k : Go W EL Z a0 own p l e R s m args below meth c F h cells slots (mkF m pc' ls (.int z :: st))) : Go W EL Z a0 own p l e R s m args below meth c F h cells slots (mkF m pc ls (.int x :: st)) := by
  subst hp hz
  exact go_pure (fun T ha hx target hr => XT.i2b ha hx rfl hd rfl hr) k
theorem go_i2l {x : Int32} {z : Int64} (hd : decode c.code pc = .ok (.i2l, 1)) (hp : pc + 1 = pc') (hz : x.toInt64 = z) (k : Go W EL Z a0 own p l e R s m args below meth c F h cells slots (mkF m pc' ls (.long z :: st))) : Go W EL Z a0 own p l e R s m args below meth c F h cells slots (mkF m pc ls (.int x :: st)) := by
  subst hp hz
  exact go_pure (fun T ha hx target hr => XT.i2l ha hx rfl hd rfl hr) k
theorem go_l2i {x : Int64} {z : Int32} (hd : decode c.code pc = .ok (.l2i, 1)) (hp : pc + 1 = pc') (hz : x.toInt32 = z) (k : Go W EL Z a0 own p l e R s m args below meth c F h cells slots (mkF m pc' ls (.int z :: st))) : Go W EL Z a0 own p l e R s m args below meth c F h cells slots (mkF m pc ls (.long x :: st)) := by
  subst hp hz
  exact go_pure (fun T ha hx target hr => XT.l2i ha hx rfl hd rfl hr) k
theorem go_lneg {x : Int64} {z : Int64} (hd : decode c.code pc = .ok (.lneg, 1)) (hp : pc + 1 = pc') (hz : -x = z) (k : Go W EL Z a0 own p l e R s m args below meth c F h cells slots (mkF m pc' ls (.long z :: st))) : Go W EL Z a0 own p l e R s m args below meth c F h cells slots (mkF m pc ls (.long x :: st)) := by
  subst hp hz
  exact go_pure (fun T ha hx target hr => XT.lneg ha hx rfl hd rfl hr) k
theorem go_land {x y z : Int64} (hd : decode c.code pc = .ok (.land, 1)) (hp : pc + 1 = pc') (hz : x &&& y = z) (k : Go W EL Z a0 own p l e R s m args below meth c F h cells slots (mkF m pc' ls (.long z :: st))) : Go W EL Z a0 own p l e R s m args below meth c F h cells slots (mkF m pc ls (.long y :: .long x :: st)) := by
  subst hp hz
  exact go_pure (fun T ha hx target hr => XT.land ha hx rfl hd rfl hr) k
theorem go_ladd {x y z : Int64} (hd : decode c.code pc = .ok (.ladd, 1)) (hp : pc + 1 = pc') (hz : x + y = z) (k : Go W EL Z a0 own p l e R s m args below meth c F h cells slots (mkF m pc' ls (.long z :: st))) : Go W EL Z a0 own p l e R s m args below meth c F h cells slots (mkF m pc ls (.long y :: .long x :: st)) := by
  subst hp hz
  exact go_pure (fun T ha hx target hr => XT.ladd ha hx rfl hd rfl hr) k
theorem go_lsub {x y z : Int64} (hd : decode c.code pc = .ok (.lsub, 1)) (hp : pc + 1 = pc') (hz : x - y = z) (k : Go W EL Z a0 own p l e R s m args below meth c F h cells slots (mkF m pc' ls (.long z :: st))) : Go W EL Z a0 own p l e R s m args below meth c F h cells slots (mkF m pc ls (.long y :: .long x :: st)) := by
  subst hp hz
  exact go_pure (fun T ha hx target hr => XT.lsub ha hx rfl hd rfl hr) k
theorem go_ldiv {x y z : Int64} (hd : decode c.code pc = .ok (.ldiv, 1)) (hp : pc + 1 = pc') (hy : y ≠ 0) (hz : x / y = z) (k : Go W EL Z a0 own p l e R s m args below meth c F h cells slots (mkF m pc' ls (.long z :: st))) : Go W EL Z a0 own p l e R s m args below meth c F h cells slots (mkF m pc ls (.long y :: .long x :: st)) := by
  subst hp hz
  exact go_pure (fun T ha hx target hr => XT.ldiv ha hx rfl hd rfl hy hr) k
theorem go_lrem {x y z : Int64} (hd : decode c.code pc = .ok (.lrem, 1)) (hp : pc + 1 = pc') (hy : y ≠ 0) (hz : x - (x / y) * y = z) (k : Go W EL Z a0 own p l e R s m args below meth c F h cells slots (mkF m pc' ls (.long z :: st))) : Go W EL Z a0 own p l e R s m args below meth c F h cells slots (mkF m pc ls (.long y :: .long x :: st)) := by
  subst hp hz
  exact go_pure (fun T ha hx target hr => XT.lrem ha hx rfl hd rfl hy hr) k
theorem go_lcmp {x y : Int64} (hd : decode c.code pc = .ok (.lcmp, 1)) (hp : pc + 1 = pc') (k : Go W EL Z a0 own p l e R s m args below meth c F h cells slots (mkF m pc' ls (.int (XT.cmpL x y) :: st))) : Go W EL Z a0 own p l e R s m args below meth c F h cells slots (mkF m pc ls (.long y :: .long x :: st)) := by
  subst hp
  exact go_pure (fun T ha hx target hr => XT.lcmp ha hx rfl hd rfl hr) k
theorem go_lushr {x z : Int64} {y : Int32} (hd : decode c.code pc = .ok (.lushr, 1)) (hp : pc + 1 = pc') (hz : XT.ushrL x y = z) (k : Go W EL Z a0 own p l e R s m args below meth c F h cells slots (mkF m pc' ls (.long z :: st))) : Go W EL Z a0 own p l e R s m args below meth c F h cells slots (mkF m pc ls (.int y :: .long x :: st)) := by
  subst hp hz
  exact go_pure (fun T ha hx target hr => XT.lushr ha hx rfl hd rfl hr) k
theorem go_lconst {i : Fin 2} {v : Int64} (hd : decode c.code pc = .ok (.lconst i, 1)) (hp : pc + 1 = pc') (hv : Int64.ofNat i = v) (k : Go W EL Z a0 own p l e R s m args below meth c F h cells slots (mkF m pc' ls (.long v :: st))) : Go W EL Z a0 own p l e R s m args below meth c F h cells slots (mkF m pc ls st) := by
  subst hp hv
  exact go_pure (fun T ha hx target hr => XT.lconst ha hx rfl hd hr) k
theorem go_dup {v : Value} (hd : decode c.code pc = .ok (.dup, 1)) (hp : pc + 1 = pc') (hc : v.category = 1) (k : Go W EL Z a0 own p l e R s m args below meth c F h cells slots (mkF m pc' ls (v :: v :: st))) : Go W EL Z a0 own p l e R s m args below meth c F h cells slots (mkF m pc ls (v :: st)) := by
  subst hp
  exact go_pure (fun T ha hx target hr => XS.dup ha hx rfl hd rfl hc hr) k
theorem go_dup_x1 {v w : Value} (hd : decode c.code pc = .ok (.dup_x1, 1)) (hp : pc + 1 = pc') (hc : v.category = 1) (hc' : w.category = 1) (k : Go W EL Z a0 own p l e R s m args below meth c F h cells slots (mkF m pc' ls (v :: w :: v :: st))) : Go W EL Z a0 own p l e R s m args below meth c F h cells slots (mkF m pc ls (v :: w :: st)) := by
  subst hp
  exact go_pure (fun T ha hx target hr => XT.dupX1 ha hx rfl hd rfl hc hc' hr) k
theorem go_pop {v : Value} (hd : decode c.code pc = .ok (.pop, 1)) (hp : pc + 1 = pc') (hc : v.category = 1) (k : Go W EL Z a0 own p l e R s m args below meth c F h cells slots (mkF m pc' ls (st))) : Go W EL Z a0 own p l e R s m args below meth c F h cells slots (mkF m pc ls (v :: st)) := by
  subst hp
  exact go_pure (fun T ha hx target hr => XT.pop ha hx rfl hd rfl hc hr) k
theorem go_iinc {i : Nat} {q : Int} {x : Int32} (hd : decode c.code pc = .ok (.iinc i q, 3)) (hp : pc + 3 = pc') (hl : ls[i]? = some (.val (.int x))) {y : Int32} (hy : x + Int32.ofInt q = y) (hl' : storeLocals ls i (.int y) = some ls') (k : Go W EL Z a0 own p l e R s m args below meth c F h cells slots (mkF m pc' ls' st)) : Go W EL Z a0 own p l e R s m args below meth c F h cells slots (mkF m pc ls st) := by
  subst hp hy
  exact go_pure (fun T ha hx target hr => XS.iinc ha hx rfl hd hl hl' hr) k
theorem go_goto {o : Int} (hd : decode c.code pc = .ok (.goto o, 3)) (ho : 0 ≤ (pc : Int) + o) (hp : ((pc : Int) + o).toNat = pc') (k : Go W EL Z a0 own p l e R s m args below meth c F h cells slots (mkF m pc' ls st)) : Go W EL Z a0 own p l e R s m args below meth c F h cells slots (mkF m pc ls st) :=
  go_pure (fun T ha hx target hr => XS.goto ha hx rfl rfl hd ho hp hr) k
theorem go_ifT {o : Int} {cd : ClassFile.Cond} {x : Int32} (hd : decode c.code pc = .ok (.ifCond cd o, 3)) (ho : 0 ≤ (pc : Int) + o) (hp : ((pc : Int) + o).toNat = pc') (hc : ifCond.holds cd x = true) (k : Go W EL Z a0 own p l e R s m args below meth c F h cells slots (mkF m pc' ls st)) : Go W EL Z a0 own p l e R s m args below meth c F h cells slots (mkF m pc ls (.int x :: st)) :=
  go_pure (fun T ha hx target hr => XS.ifYes ha hx rfl rfl hd rfl hc ho hp hr) k
theorem go_ifF {o : Int} {cd : ClassFile.Cond} {x : Int32} (hd : decode c.code pc = .ok (.ifCond cd o, 3)) (hp : pc + 3 = pc') (hc : ifCond.holds cd x = false) (k : Go W EL Z a0 own p l e R s m args below meth c F h cells slots (mkF m pc' ls st)) : Go W EL Z a0 own p l e R s m args below meth c F h cells slots (mkF m pc ls (.int x :: st)) := by
  subst hp
  exact go_pure (fun T ha hx target hr => XS.ifNo ha hx rfl hd rfl hc hr) k
theorem go_icT {o : Int} {cd : ClassFile.Cond} {x y : Int32} (hd : decode c.code pc = .ok (.if_icmp cd o, 3)) (ho : 0 ≤ (pc : Int) + o) (hp : ((pc : Int) + o).toNat = pc') (hc : if_icmp.holds cd x y = true) (k : Go W EL Z a0 own p l e R s m args below meth c F h cells slots (mkF m pc' ls st)) : Go W EL Z a0 own p l e R s m args below meth c F h cells slots (mkF m pc ls (.int y :: .int x :: st)) :=
  go_pure (fun T ha hx target hr => XS.icmpYes ha hx rfl rfl hd rfl hc ho hp hr) k
theorem go_icF {o : Int} {cd : ClassFile.Cond} {x y : Int32} (hd : decode c.code pc = .ok (.if_icmp cd o, 3)) (hp : pc + 3 = pc') (hc : if_icmp.holds cd x y = false) (k : Go W EL Z a0 own p l e R s m args below meth c F h cells slots (mkF m pc' ls st)) : Go W EL Z a0 own p l e R s m args below meth c F h cells slots (mkF m pc ls (.int y :: .int x :: st)) := by
  subst hp
  exact go_pure (fun T ha hx target hr => XS.icmpNo ha hx rfl hd rfl hc hr) k
theorem go_acT {o : Int} {cd : ClassFile.ACond} {x y : Value} (hd : decode c.code pc = .ok (.if_acmp cd o, 3)) (ho : 0 ≤ (pc : Int) + o) (hp : ((pc : Int) + o).toNat = pc') (hx1 : x.isRef = true) (hy1 : y.isRef = true) (hc : XT.acmp cd x y = true) (k : Go W EL Z a0 own p l e R s m args below meth c F h cells slots (mkF m pc' ls st)) : Go W EL Z a0 own p l e R s m args below meth c F h cells slots (mkF m pc ls (y :: x :: st)) :=
  go_pure (fun T ha hx target hr => XT.acmpYes ha hx rfl rfl hd rfl hx1 hy1 hc ho hp hr) k
theorem go_acF {o : Int} {cd : ClassFile.ACond} {x y : Value} (hd : decode c.code pc = .ok (.if_acmp cd o, 3)) (hp : pc + 3 = pc') (hx1 : x.isRef = true) (hy1 : y.isRef = true) (hc : XT.acmp cd x y = false) (k : Go W EL Z a0 own p l e R s m args below meth c F h cells slots (mkF m pc' ls st)) : Go W EL Z a0 own p l e R s m args below meth c F h cells slots (mkF m pc ls (y :: x :: st)) := by
  subst hp
  exact go_pure (fun T ha hx target hr => XT.acmpNo ha hx rfl hd rfl hx1 hy1 hc hr) k
theorem go_nullT {o : Int} (hd : decode c.code pc = .ok (.ifnull o, 3)) (ho : 0 ≤ (pc : Int) + o) (hp : ((pc : Int) + o).toNat = pc') (k : Go W EL Z a0 own p l e R s m args below meth c F h cells slots (mkF m pc' ls st)) : Go W EL Z a0 own p l e R s m args below meth c F h cells slots (mkF m pc ls (.null :: st)) :=
  go_pure (fun T ha hx target hr => XS.ifnullYes ha hx rfl rfl hd rfl ho hp hr) k
theorem go_nullF {o : Int} {b : Addr} (hd : decode c.code pc = .ok (.ifnull o, 3)) (hp : pc + 3 = pc') (k : Go W EL Z a0 own p l e R s m args below meth c F h cells slots (mkF m pc' ls st)) : Go W EL Z a0 own p l e R s m args below meth c F h cells slots (mkF m pc ls (.ref b :: st)) := by
  subst hp
  exact go_pure (fun T ha hx target hr => XS.ifnullNo ha hx rfl hd rfl hr) k
theorem go_nnT {o : Int} {b : Addr} (hd : decode c.code pc = .ok (.ifnonnull o, 3)) (ho : 0 ≤ (pc : Int) + o) (hp : ((pc : Int) + o).toNat = pc') (k : Go W EL Z a0 own p l e R s m args below meth c F h cells slots (mkF m pc' ls st)) : Go W EL Z a0 own p l e R s m args below meth c F h cells slots (mkF m pc ls (.ref b :: st)) :=
  go_pure (fun T ha hx target hr => XT.ifnonnullYes ha hx rfl rfl hd rfl ho hp hr) k
theorem go_nnF {o : Int} (hd : decode c.code pc = .ok (.ifnonnull o, 3)) (hp : pc + 3 = pc') (k : Go W EL Z a0 own p l e R s m args below meth c F h cells slots (mkF m pc' ls st)) : Go W EL Z a0 own p l e R s m args below meth c F h cells slots (mkF m pc ls (.null :: st)) := by
  subst hp
  exact go_pure (fun T ha hx target hr => XT.ifnonnullNo ha hx rfl hd rfl hr) k
theorem go_getF {a : Addr} {v : Value} {R0 O n d : String} {index : Nat} (w : (Jvm.Cond.fieldLink own index R0 n d).before a0 Z = true) (via : Via Z R0 O n d) (F0 : Fld Z h a O n d v) (hd : decode c.code pc = .ok (.getfield index, 3)) (hp : pc + 3 = pc') (k : Go W EL Z a0 own p l e R s m args below meth c F h cells slots (mkF m pc' ls (v :: st))) : Go W EL Z a0 own p l e R s m args below meth c F h cells slots (mkF m pc ls (.ref a :: st)) := by
  subst hp
  intro T P
  obtain ⟨vm0, k0, locs, hWf, X, eT, hx, hZ, hown, hS, hk, hEL, hC, hN, hO⟩ := P
  obtain ⟨T', X', e', st'⟩ := getF X hx hZ hown (host := "") (Or.inl w) via eT F0 (g := mkF m pc ls (.ref a :: st)) rfl rfl hd
  obtain ⟨t, o, h1, h2⟩ := k T' ⟨vm0, k0, locs, hWf, X', e', hx, hZ, hown, hS, hk, hEL, hC, hN, hO⟩
  exact ⟨t, o, st' _ h1, h2⟩
theorem go_getS {v : Value} {O n d : String} {index : Nat} (w : (Jvm.Cond.fieldLink own index O n d).before a0 Z = true) (F0 : Sta Z h O n d v) (hd : decode c.code pc = .ok (.getstatic index, 3)) (hp : pc + 3 = pc') (k : Go W EL Z a0 own p l e R s m args below meth c F h cells slots (mkF m pc' ls (v :: st))) : Go W EL Z a0 own p l e R s m args below meth c F h cells slots (mkF m pc ls st) := by
  subst hp
  intro T P
  obtain ⟨vm0, k0, locs, hWf, X, eT, hx, hZ, hown, hS, hk, hEL, hC, hN, hO⟩ := P
  obtain ⟨T', X', e', st'⟩ := getS X hx hZ hown (host := "") w Via.refl eT F0 (g := mkF m pc ls st) rfl hd
  obtain ⟨t, o, h1, h2⟩ := k T' ⟨vm0, k0, locs, hWf, X', e', hx, hZ, hown, hS, hk, hEL, hC, hN, hO⟩
  exact ⟨t, o, st' _ h1, h2⟩
theorem safe_of {vm : Vm} {a : Addr} {C : String} (hal : Z.vm.Alike vm) (E : Exa Z h a C) (hs : (C ≠ "java/lang/String" ∧ C ≠ "[B") ∨ EL = []) : Safe Z EL vm h a := by
  rcases hs with hs | rfl
  · exact Safe.exa hal E hs.1 hs.2
  · exact safe_nil
theorem go_putF {a : Addr} {v v' old : Value} {R0 O n d C : String} {index kk : Nat} {ty : FieldType} (w : (Jvm.Cond.fieldLink own index R0 n d).before a0 Z = true) (via : Via Z R0 O n d) (F0 : Fld Z h a O n d old) (E : Exa Z h a C) (L : (Jvm.Cond.lays C O n d).before a0 Z = true ∨ ((Jvm.Cond.laysFinal C O n d).before a0 Z = true ∧ own = O ∧ meth.name = "<init>")) (wi : (Jvm.Cond.instantiable C kk).before a0 Z = true)
    (hty : parseFieldDescriptor d = some ty) (hn : narrow ty v = v') (hf : fits ty v' = true) (ha : Z.heap.size ≤ a) (hs : (C ≠ "java/lang/String" ∧ C ≠ "[B") ∨ EL = []) (hd : decode c.code pc = .ok (.putfield index, 3)) (hp : pc + 3 = pc')
    (k : ∀ h', Wr h h' a (Jvm.RoadKit.slotOf Z O n d) v' → Go W EL Z a0 own p l e R s m args below meth c F h' cells slots (mkF m pc' ls st)) : Go W EL Z a0 own p l e R s m args below meth c F h cells slots (mkF m pc ls (v :: .ref a :: st)) := by
  subst hp
  intro T P
  obtain ⟨vm0, k0, locs, hWf, X, eT, hx, hZ, hown, hS, hk, hEL, hC, hN, hO⟩ := P
  obtain ⟨T', h', X', e', W', st'⟩ := putFN X hx hZ hown w via eT F0 E L wi hty hn hf (g := mkF m pc ls (v :: .ref a :: st)) rfl rfl hd
  have S0 : Safe Z EL vm0 h a := safe_of hZ.alike E hs
  obtain ⟨t, o, h1, h2⟩ := k h' W' T' ⟨vm0, k0, _, hWf, X', e', hx, hZ, hown, hS, by rw [W'.size]; exact hk, hEL, hC.trans (CHr.wr W' S0 hC.1), Fr.snoc X' hN ha, hO.wr W' ha⟩
  exact ⟨t, o, st' _ h1, h2⟩
theorem go_newO {C : String} {index n : Nat} (w : (Jvm.Cond.classLink own index C).before a0 Z = true) (wi : (Jvm.Cond.instantiable C n).before a0 Z = true) (wz : (Jvm.Cond.initialized C).before a0 Z = true) (hd : decode c.code pc = .ok (.new index, 3)) (hp : pc + 3 = pc') (hcl : cells + 1 = cells') (hsl : slots + n = slots') (hc : cells' ≤ R.cells) (hl : slots' ≤ R.slots)
    (k : ∀ (h' : Heap) (a : Addr), h.size = a → Ext h h' → Exa Z h' a C → (∀ {O nm d : String} {ty : FieldType}, Laid Z a0 C O nm d → parseFieldDescriptor d = some ty → Fld Z h' a O nm d (defaultValue ty)) → Unt h' a → Go W EL Z a0 own p l e R s m args below meth c F h' cells' slots' (mkF m pc' ls (.ref a :: st))) : Go W EL Z a0 own p l e R s m args below meth c F h cells slots (mkF m pc ls st) := by
  subst hp hcl hsl
  intro T P
  obtain ⟨vm0, k0, locs, hWf, X, eT, hx, hZ, hown, hS, hk, hEL, hC, hN, hO⟩ := P
  obtain ⟨T', h', X', e', E', A', D', U', st'⟩ := newO X hx hZ hown w wi wz eT (g := mkF m pc ls st) rfl hd hc hl
  obtain ⟨t, o, h1, h2⟩ := k h' h.size rfl E' A' D' U' T' ⟨vm0, k0, _, hWf, X', e', hx, hZ, hown, hS, Nat.le_trans hk E'.1, hEL, hC.trans (CHr.ext E' hC.1), hN, hO.ext E'⟩
  exact ⟨t, o, st' _ h1, h2⟩
theorem go_newP {aty : ArrayType} {n : Int32} {cap : Nat} {vs : List Value} {ty : FieldType} {dv : Value} (w : (Jvm.Cond.arrayClass ty).before a0 Z = true) (hty : newarray.typeOf aty = ty) (hdv : defaultValue ty = dv) (hd : decode c.code pc = .ok (.newarray aty, 2)) (hp : pc + 2 = pc') (hn : ¬ n < 0) (hcap : n.toNatClampNeg = cap) (hb : cap * 8 ≤ 536870912) (hvs : List.replicate cap dv = vs) (hcl : cells + 1 = cells') (hsl : slots + cap = slots') (hc : cells' ≤ R.cells) (hl : slots' ≤ R.slots)
    (k : ∀ (h' : Heap) (a : Addr) (kA : ClassId), h.size = a → Ext h h' → Arv Z h' a kA ty n vs dv → Go W EL Z a0 own p l e R s m args below meth c F h' cells' slots' (mkF m pc' ls (.ref a :: st))) : Go W EL Z a0 own p l e R s m args below meth c F h cells slots (mkF m pc ls (.int n :: st)) := by
  subst hp hcl hsl hty hdv hvs
  intro T P
  obtain ⟨vm0, k0, locs, hWf, X, eT, hx, hZ, hown, hS, hk, hEL, hC, hN, hO⟩ := P
  obtain ⟨T', h', kA, X', e', E', A', st'⟩ := newP X hx hZ w eT (g := mkF m pc ls (.int n :: st)) rfl hd rfl hn (cap := cap) (Nat.le_of_eq hcap) hb hc hl
  have V : Arv Z h' h.size kA (newarray.typeOf aty) n (List.replicate cap (defaultValue (newarray.typeOf aty))) (defaultValue (newarray.typeOf aty)) := by
    have q := (Arv.new A' hn).pad (pad_rep [] (defaultValue (newarray.typeOf aty)) cap)
    simpa using q
  obtain ⟨t, o, h1, h2⟩ := k h' h.size kA rfl E' V T' ⟨vm0, k0, _, hWf, X', e', hx, hZ, hown, hS, Nat.le_trans hk E'.1, hEL, hC.trans (CHr.ext E' hC.1), hN, hO.ext E'⟩
  exact ⟨t, o, st' _ h1, h2⟩
theorem go_stC {a : Addr} {kA : ClassId} {z j x x' : Int32} {vs vs' : List Value} {dv : Value} {i : Nat} (A : Arv Z h a kA .char z vs dv) (ha : Z.heap.size ≤ a) (hj0 : ¬ j < 0) (hjz : j < z) (hji : j.toNatClampNeg = i) (hi : i < vs.length) (hx' : x.toUInt32.toUInt16.toUInt32.toInt32 = x') (hvs : vs.set i (.int x') = vs') (hd : decode c.code pc = .ok (.castore, 1)) (hp : pc + 1 = pc')
    (k : ∀ h', Wr h h' a i (.int x') → Arv Z h' a kA .char z vs' dv → Go W EL Z a0 own p l e R s m args below meth c F h' cells slots (mkF m pc' ls st)) : Go W EL Z a0 own p l e R s m args below meth c F h cells slots (mkF m pc ls (.int x :: .int j :: .ref a :: st)) := by
  subst hp hx' hvs hji
  intro T P
  obtain ⟨vm0, k0, locs, hWf, X, eT, hx, hZ, hown, hS, hk, hEL, hC, hN, hO⟩ := P
  obtain ⟨cl, Ar, q1, S1, N1, H1, G1⟩ := A
  obtain ⟨T', h', X', e', W', st'⟩ := stC X hx hZ eT Ar (j := j) (inb_of S1 ⟨hj0, hjz⟩) (g := mkF m pc ls (.int x :: .int j :: .ref a :: st)) rfl rfl hd
  have S0 : Safe Z EL vm0 h a := Safe.arr hZ.alike Ar (by decide)
  obtain ⟨t, o, h1, h2⟩ := k h' W' (Arv.set Ar q1 S1 N1 H1 G1 (fits_nar_char _) W' _ rfl hi) T' ⟨vm0, k0, _, hWf, X', e', hx, hZ, hown, hS, by rw [W'.size]; exact hk, hEL, hC.trans (CHr.wr W' S0 hC.1), Fr.snoc X' hN ha, hO.wr W' ha⟩
  exact ⟨t, o, st' _ h1, h2⟩
theorem go_stB {a : Addr} {kA : ClassId} {z j x x' : Int32} {vs vs' : List Value} {dv : Value} {i : Nat} (hE : EL = []) (A : Arv Z h a kA .byte z vs dv) (ha : Z.heap.size ≤ a) (hj0 : ¬ j < 0) (hjz : j < z) (hji : j.toNatClampNeg = i) (hi : i < vs.length) (hx' : x.toInt8.toInt32 = x') (hvs : vs.set i (.int x') = vs') (hd : decode c.code pc = .ok (.bastore, 1)) (hp : pc + 1 = pc')
    (k : ∀ h', Wr h h' a i (.int x') → Arv Z h' a kA .byte z vs' dv → Go W EL Z a0 own p l e R s m args below meth c F h' cells slots (mkF m pc' ls st)) : Go W EL Z a0 own p l e R s m args below meth c F h cells slots (mkF m pc ls (.int x :: .int j :: .ref a :: st)) := by
  subst hp hx' hvs hji hE
  intro T P
  obtain ⟨vm0, k0, locs, hWf, X, eT, hx, hZ, hown, hS, hk, hEL, hC, hN, hO⟩ := P
  obtain ⟨cl, Ar, q1, S1, N1, H1, G1⟩ := A
  obtain ⟨T', h', X', e', W', st'⟩ := stB X hx hZ eT Ar (j := j) (inb_of S1 ⟨hj0, hjz⟩) (g := mkF m pc ls (.int x :: .int j :: .ref a :: st)) rfl rfl hd
  obtain ⟨t, o, h1, h2⟩ := k h' W' (Arv.set Ar q1 S1 N1 H1 G1 (fits_nar_byte _) W' _ rfl hi) T' ⟨vm0, k0, _, hWf, X', e', hx, hZ, hown, hS, by rw [W'.size]; exact hk, hEL, hC.trans (CHr.wr W' safe_nil hC.1), Fr.snoc X' hN ha, hO.wr W' ha⟩
  exact ⟨t, o, st' _ h1, h2⟩
theorem go_caload {a : Addr} {kA : ClassId} {z j : Int32} {vs : List Value} {dv v : Value} {i : Nat} (A : Arv Z h a kA .char z vs dv) (hj0 : ¬ j < 0) (hjz : j < z) (hji : j.toNatClampNeg = i) (hv : vs.getD i dv = v) (hd : decode c.code pc = .ok (.caload, 1)) (hp : pc + 1 = pc')
    (k : Go W EL Z a0 own p l e R s m args below meth c F h cells slots (mkF m pc' ls (v :: st))) : Go W EL Z a0 own p l e R s m args below meth c F h cells slots (mkF m pc ls (.int j :: .ref a :: st)) := by
  subst hp hv hji
  intro T P
  obtain ⟨t, o, h1, h2⟩ := k T P
  obtain ⟨vm0, k0, locs, hWf, X, eT, hx, hZ, hown, hS, hk, hEL, hC, hN, hO⟩ := P
  obtain ⟨cl, Ar, q1, S1, N1, H1, G1⟩ := A
  have hin := inb_of S1 ⟨hj0, hjz⟩
  exact ⟨t, o, X.caload hx (by rw [eT]; exact Ar.1) (State.isArrayOf_alike hZ.alike Ar.2.1) Ar.2.2 hin (H1.at hin rfl) (g := mkF m pc ls (.int j :: .ref a :: st)) rfl rfl hd _ h1, h2⟩
theorem go_baload {a : Addr} {kA : ClassId} {z j : Int32} {vs : List Value} {dv v : Value} {i : Nat} (A : Arv Z h a kA .byte z vs dv) (hj0 : ¬ j < 0) (hjz : j < z) (hji : j.toNatClampNeg = i) (hv : vs.getD i dv = v) (hd : decode c.code pc = .ok (.baload, 1)) (hp : pc + 1 = pc')
    (k : Go W EL Z a0 own p l e R s m args below meth c F h cells slots (mkF m pc' ls (v :: st))) : Go W EL Z a0 own p l e R s m args below meth c F h cells slots (mkF m pc ls (.int j :: .ref a :: st)) := by
  subst hp hv hji
  intro T P
  obtain ⟨t, o, h1, h2⟩ := k T P
  obtain ⟨vm0, k0, locs, hWf, X, eT, hx, hZ, hown, hS, hk, hEL, hC, hN, hO⟩ := P
  obtain ⟨cl, Ar, q1, S1, N1, H1, G1⟩ := A
  have hin := inb_of S1 ⟨hj0, hjz⟩
  exact ⟨t, o, X.baloadBytes hx (by rw [eT]; exact Ar.1) (State.isArrayOf_alike hZ.alike Ar.2.1) Ar.2.2 hin (H1.at hin rfl) (g := mkF m pc ls (.int j :: .ref a :: st)) rfl rfl hd _ h1, h2⟩
theorem go_aaload {a : Addr} {kA : ClassId} {z j : Int32} {vs : List Value} {dv v : Value} {i : Nat} {ty : FieldType} (A : Arv Z h a kA ty z vs dv) (hty : ty.isReference = true) (hj0 : ¬ j < 0) (hjz : j < z) (hji : j.toNatClampNeg = i) (hv : vs.getD i dv = v) (hd : decode c.code pc = .ok (.aaload, 1)) (hp : pc + 1 = pc')
    (k : Go W EL Z a0 own p l e R s m args below meth c F h cells slots (mkF m pc' ls (v :: st))) : Go W EL Z a0 own p l e R s m args below meth c F h cells slots (mkF m pc ls (.int j :: .ref a :: st)) := by
  subst hp hv hji
  intro T P
  obtain ⟨t, o, h1, h2⟩ := k T P
  obtain ⟨vm0, k0, locs, hWf, X, eT, hx, hZ, hown, hS, hk, hEL, hC, hN, hO⟩ := P
  obtain ⟨cl, Ar, q1, S1, N1, H1, G1⟩ := A
  have hin := inb_of S1 ⟨hj0, hjz⟩
  exact ⟨t, o, X.aaload hx (by rw [eT]; exact Ar.1) (State.isArrayOf_alike hZ.alike Ar.2.1) hty Ar.2.2 hin (H1.at hin rfl) (g := mkF m pc ls (.int j :: .ref a :: st)) rfl rfl hd _ h1, h2⟩
theorem go_arraylength {a : Addr} {kA : ClassId} {z : Int32} {vs : List Value} {dv : Value} {ty : FieldType} (A : Arv Z h a kA ty z vs dv) (hd : decode c.code pc = .ok (.arraylength, 1)) (hp : pc + 1 = pc')
    (k : Go W EL Z a0 own p l e R s m args below meth c F h cells slots (mkF m pc' ls (.int z :: st))) : Go W EL Z a0 own p l e R s m args below meth c F h cells slots (mkF m pc ls (.ref a :: st)) := by
  subst hp
  intro T P
  obtain ⟨t, o, h1, h2⟩ := k T P
  obtain ⟨vm0, k0, locs, hWf, X, eT, hx, hZ, hown, hS, hk, hEL, hC, hN, hO⟩ := P
  obtain ⟨cl, Ar, q1, S1, N1, H1, G1⟩ := A
  refine ⟨t, o, X.arraylength hx (by rw [eT]; exact Ar.1) (State.isArrayOf_alike hZ.alike Ar.2.1) (g := mkF m pc ls (.ref a :: st)) rfl rfl hd _ ?_, h2⟩
  rw [len_of S1 N1]
  exact h1
theorem go_cast {a : Addr} {K : String} {index : Nat} (w : (Jvm.Cond.classLink own index K).before a0 Z = true) (I : Ins Z h a K true) (hd : decode c.code pc = .ok (.checkcast index, 3)) (hp : pc + 3 = pc') (k : Go W EL Z a0 own p l e R s m args below meth c F h cells slots (mkF m pc' ls (.ref a :: st))) : Go W EL Z a0 own p l e R s m args below meth c F h cells slots (mkF m pc ls (.ref a :: st)) := by
  subst hp
  intro T P
  obtain ⟨vm0, k0, locs, hWf, X, eT, hx, hZ, hown, hS, hk, hEL, hC, hN, hO⟩ := P
  obtain ⟨T', X', e', st'⟩ := castY X hx hZ hown w eT I (g := mkF m pc ls (.ref a :: st)) rfl rfl hd
  obtain ⟨t, o, h1, h2⟩ := k T' ⟨vm0, k0, locs, hWf, X', e', hx, hZ, hown, hS, hk, hEL, hC, hN, hO⟩
  exact ⟨t, o, st' _ h1, h2⟩
theorem go_instY {a : Addr} {K : String} {index : Nat} (w : (Jvm.Cond.classLink own index K).before a0 Z = true) (I : Ins Z h a K true) (hd : decode c.code pc = .ok (.instanceof index, 3)) (hp : pc + 3 = pc') (k : Go W EL Z a0 own p l e R s m args below meth c F h cells slots (mkF m pc' ls (.int 1 :: st))) : Go W EL Z a0 own p l e R s m args below meth c F h cells slots (mkF m pc ls (.ref a :: st)) := by
  subst hp
  intro T P
  obtain ⟨vm0, k0, locs, hWf, X, eT, hx, hZ, hown, hS, hk, hEL, hC, hN, hO⟩ := P
  obtain ⟨T', X', e', st'⟩ := instY X hx hZ hown w eT I (g := mkF m pc ls (.ref a :: st)) rfl rfl hd
  obtain ⟨t, o, h1, h2⟩ := k T' ⟨vm0, k0, locs, hWf, X', e', hx, hZ, hown, hS, hk, hEL, hC, hN, hO⟩
  exact ⟨t, o, st' _ h1, h2⟩
theorem go_instNo {a : Addr} {K C : String} {index : Nat} (w : (Jvm.Cond.classLink own index K).before a0 Z = true) (E : Exa Z h a C) (N0 : ∃ c t, Z.vm.findClass C = some c ∧ Z.vm.findClass K = some t ∧ Z.vm.assignable c t = false) (hd : decode c.code pc = .ok (.instanceof index, 3)) (hp : pc + 3 = pc') (k : Go W EL Z a0 own p l e R s m args below meth c F h cells slots (mkF m pc' ls (.int 0 :: st))) : Go W EL Z a0 own p l e R s m args below meth c F h cells slots (mkF m pc ls (.ref a :: st)) := by
  subst hp
  intro T P
  obtain ⟨vm0, k0, locs, hWf, X, eT, hx, hZ, hown, hS, hk, hEL, hC, hN, hO⟩ := P
  obtain ⟨T', X', e', st'⟩ := instNo X hx hZ hown w eT E N0 (g := mkF m pc ls (.ref a :: st)) rfl rfl hd
  obtain ⟨t, o, h1, h2⟩ := k T' ⟨vm0, k0, locs, hWf, X', e', hx, hZ, hown, hS, hk, hEL, hC, hN, hO⟩
  exact ⟨t, o, st' _ h1, h2⟩
theorem go_instNull {index : Nat} (hd : decode c.code pc = .ok (.instanceof index, 3)) (hp : pc + 3 = pc') (k : Go W EL Z a0 own p l e R s m args below meth c F h cells slots (mkF m pc' ls (.int 0 :: st))) : Go W EL Z a0 own p l e R s m args below meth c F h cells slots (mkF m pc ls (.null :: st)) := by
  subst hp
  intro T P
  obtain ⟨t, o, h1, h2⟩ := k T P
  obtain ⟨vm0, k0, locs, hWf, X, eT, hx, hZ, hown, hS, hk, hEL, hC, hN, hO⟩ := P
  exact ⟨t, o, X.instanceofNull hx (g := mkF m pc ls (.null :: st)) rfl rfl hd _ h1, h2⟩
theorem go_ldcI {v : Int32} {index : Nat} (w : (Jvm.Cond.constant own index v).before a0 Z = true) (hd : decode c.code pc = .ok (.ldc index, 2)) (hp : pc + 2 = pc') (k : Go W EL Z a0 own p l e R s m args below meth c F h cells slots (mkF m pc' ls (.int v :: st))) : Go W EL Z a0 own p l e R s m args below meth c F h cells slots (mkF m pc ls st) := by
  subst hp
  intro T P
  obtain ⟨t, o, h1, h2⟩ := k T P
  obtain ⟨vm0, k0, locs, hWf, X, eT, hx, hZ, hown, hS, hk, hEL, hC, hN, hO⟩ := P
  exact ⟨t, o, X.ldcInt hx hown (mvT hZ w) (g := mkF m pc ls st) rfl hd _ h1, h2⟩
theorem go_ldcJ {v : Int64} {index : Nat} (w : (Jvm.Cond.constantLong own index v).before a0 Z = true) (hd : decode c.code pc = .ok (.ldc2_w index, 3)) (hp : pc + 3 = pc') (k : Go W EL Z a0 own p l e R s m args below meth c F h cells slots (mkF m pc' ls (.long v :: st))) : Go W EL Z a0 own p l e R s m args below meth c F h cells slots (mkF m pc ls st) := by
  subst hp
  intro T P
  obtain ⟨t, o, h1, h2⟩ := k T P
  obtain ⟨vm0, k0, locs, hWf, X, eT, hx, hZ, hown, hS, hk, hEL, hC, hN, hO⟩ := P
  exact ⟨t, o, X.ldc2Long hx hown (mvT hZ w) (g := mkF m pc ls st) rfl hd _ h1, h2⟩
theorem go_ldcS {text : String} {index n : Nat} (hWt : W = true) (w : (Jvm.Cond.stringLink own index text).before a0 Z = true) (wS : ∀ a ∈ Bundle.stringAtoms, a.before a0 Z = true) (hn : 4 * text.toList.length ≤ n) (hbig : n ≤ 536870912) (hd : decode c.code pc = .ok (.ldc index, 2)) (hp : pc + 2 = pc') (hcl : cells + 2 = cells') (hsl : slots + (n + 4) = slots') (hc : cells' ≤ R.cells) (hl : slots' ≤ R.slots)
    (k : ∀ (h' : Heap) (a : Addr), Ext h h' → Go W EL Z a0 own p l e R s m args below meth c F h' cells' slots' (mkF m pc' ls (.ref a :: st))) : Go W EL Z a0 own p l e R s m args below meth c F h cells slots (mkF m pc ls st) := by
  subst hp hcl hsl hWt
  intro T P
  obtain ⟨vm0, k0, locs, hWf, X, eT, hx, hZ, hown, hS, hk, hEL, hC, hN, hO⟩ := P
  obtain ⟨a, T', h', k1, X', e', E', hS', hk', hZ', hown', hC', -, st'⟩ := ldcOH X hx hZ hown w wS eT hS hk hEL hC.1 (g := mkF m pc ls st) rfl hd hn hbig hc hl
  obtain ⟨t, o, h1, h2⟩ := k h' a E' T' ⟨T'.vm, k1, _, (fun q => nomatch q), X', e', hx, hZ', hown', hS', hk', hEL, hC.trans hC', hN, hO.ext E'⟩
  exact ⟨t, o, st' _ h1, h2⟩
theorem go_ldcH {text : String} {index n : Nat} {vs : List Value} {z : Int32} (hWt : W = true) (hmem : (own, index) ∈ EL) (w : (Jvm.Cond.stringLink own index text).before a0 Z = true) (wS : ∀ a ∈ Bundle.stringAtoms, a.before a0 Z = true) (ht : (∀ c ∈ text.toList, c.toNat < 256) ∧ text.toList.map (fun c => Value.int (Jvm.Lit.byteI c.toNat.toUInt16)) = vs) (hz : ¬ z < 0) (hlz : z.toNatClampNeg = vs.length) (hn : 4 * text.toList.length ≤ n) (hbig : n ≤ 536870912) (hd : decode c.code pc = .ok (.ldc index, 2)) (hp : pc + 2 = pc') (hcl : cells + 2 = cells') (hsl : slots + (n + 4) = slots') (hc : cells' ≤ R.cells) (hl : slots' ≤ R.slots)
    (k : ∀ (h' : Heap) (a b : Addr) (kb : ClassId), Ext h h' → Exa Z h' a "java/lang/String" → Fld Z h' a "java/lang/String" "coder" "B" (.int 0) → Fld Z h' a "java/lang/String" "value" "[B" (.ref b) → Arv Z h' b kb .byte z vs (.int 0) → Go W EL Z a0 own p l e R s m args below meth c F h' cells' slots' (mkF m pc' ls (.ref a :: st))) : Go W EL Z a0 own p l e R s m args below meth c F h cells slots (mkF m pc ls st) := by
  subst hp hcl hsl hWt
  intro T P
  obtain ⟨vm0, k0, locs, hWf, X, eT, hx, hZ, hown, hS, hk, hEL, hC, hN, hO⟩ := P
  obtain ⟨a, T', h', k1, b, kb, X', e', E', hS', hk', hZ', hown', q1, q2, q3, q4, -, -, hC', -, -, st'⟩ := ldcCH X hx hZ hown w wS eT hS hk hEL hmem hC.1 ht hz hlz (g := mkF m pc ls st) rfl hd hn hbig hc hl
  obtain ⟨t, o, h1, h2⟩ := k h' a b kb E' q1 q2 q3 q4 T' ⟨T'.vm, k1, _, (fun q => nomatch q), X', e', hx, hZ', hown', hS', hk', hEL, hC.trans hC', hN, hO.ext E'⟩
  exact ⟨t, o, st' _ h1, h2⟩
theorem go_initO {a : Addr} {idx Wd : Nat} (w1 : (Jvm.Cond.methodLink own idx Lib.objectInit).before a0 Z = true) (w2 : (Jvm.Cond.instanceMethod Lib.objectInit).before a0 Z = true) (w3 : (Jvm.Cond.code Lib.objectInit ⟨#[0xb1]⟩ 1 none).before a0 Z = true) (hsize : ls.size = c.maxLocals) (hW : 2 * 0 + (st.map fun v => v.category).sum ≤ Wd) (hf : 1 ≤ R.frames) (hl : Wd + 12 ≤ R.locals) (hd : decode c.code pc = .ok (.invokespecial idx, 3)) (hp : pc + 3 = pc') (k : Go W EL Z a0 own p l e R s m args below meth c F h cells slots (mkF m pc' ls st)) : Go W EL Z a0 own p l e R s m args below meth c F h cells slots (mkF m pc ls (.ref a :: st)) := by
  subst hp
  intro T P
  obtain ⟨vm0, k0, locs, hWf, X, eT, hx, hZ, hown, hS, hk, hEL, hC, hN, hO⟩ := P
  obtain ⟨T', X', e', st'⟩ := initO X hx hZ hown w1 w2 w3 eT (g := mkF m pc ls (.ref a :: st)) rfl hsize rfl hd hf (W := Wd) hW hl
  obtain ⟨t, o, h1, h2⟩ := k T' ⟨vm0, k0, locs, hWf, X', e', hx, hZ, hown, hS, hk, hEL, hC, hN, hO⟩
  exact ⟨t, o, st' _ h1, h2⟩
-- calls: what a payment gives back as a point of the caller's walk
theorem pt_back {vm0 vm₁ : Vm} {k0 : Nat} {locs L : List Loc} {T : State} {B : Pt} {ws : List Addr} {dc ds : Nat} (hWf : W = false → vm0 = s.vm) (eT : T.heap = h) (hx : p.tables.exec = Jvm.exec) (hZ : Z.Warmed39 vm0) (hown : vm0.findClass own = some m.cls) (hS : s.Since vm0 k0) (hk : k0 ≤ h.size) (hEL : EW Z a0 EL) (hC : CHr Z EL s.vm s.heap vm0 h) (hN : Fr Z.heap.size locs) (hO : Old Z Z.heap.size h)
    (X : Stand p l e R (s.setVm vm0) m args below meth c B.U B.locs B.cells B.slots) (hL : Fr Z.heap.size L) (K : Keep h B.U.heap ws) (b1 : B.locs = locs ++ L) (b2 : B.cells = cells + dc) (b3 : B.slots = slots + ds) (hws : ∀ x ∈ ws, Z.heap.size ≤ x) (hsf : ∀ vm, Z.vm.Alike vm → ∀ x ∈ ws, Safe Z EL vm h x) (hcl : cells + dc = cells') (hsl : slots + ds = slots') :
    PT W EL Z a0 own p l e R s m args below meth c B.U B.U.heap cells' slots' := by
  subst hcl hsl
  rw [b1, b2, b3] at X
  exact ⟨vm0, k0, _, hWf, X, rfl, hx, hZ, hown, hS, Nat.le_trans hk K.1, hEL, hC.trans (CHr.keep K (hsf _ hZ.alike) hC.1), hN.app hL, hO.keep K hws⟩
theorem pt_backS {vm0 : Vm} {k0 : Nat} {locs L : List Loc} {B : Pt} {ws : List Addr} {dc ds : Nat} (hWt : W = true) (hx : p.tables.exec = Jvm.exec) (hZ : Z.Warmed39 vm0) (hown : vm0.findClass own = some m.cls) (hS : s.Since vm0 k0) (hk : k0 ≤ h.size) (hEL : EW Z a0 EL) (hC : CHr Z EL s.vm s.heap vm0 h) (hN : Fr Z.heap.size locs) (hO : Old Z Z.heap.size h)
    (X : Stand p l e R (s.setVm B.U.vm) m args below meth c B.U B.locs B.cells B.slots) (S2 : (s.setVm vm0).Since B.U.vm B.U.heap.size) (hL : Fr Z.heap.size L) (K : Keep h B.U.heap ws) (b1 : B.locs = locs ++ L) (b2 : B.cells = cells + dc) (b3 : B.slots = slots + ds) (b4 : CHr Z EL vm0 h B.U.vm B.U.heap) (hws : ∀ x ∈ ws, Z.heap.size ≤ x) (hcl : cells + dc = cells') (hsl : slots + ds = slots') :
    PT W EL Z a0 own p l e R s m args below meth c B.U B.U.heap cells' slots' := by
  subst hcl hsl hWt
  rw [b1, b2, b3] at X
  have hZ' : Z.Warmed39 B.U.vm := State.Warmed39.trans (t := s.setVm vm0) (s := Z) hZ S2.1
  have hown' : B.U.vm.findClass own = some m.cls := by
    rw [S2.1.alike.findClass]
    exact hown
  exact ⟨B.U.vm, B.U.heap.size, _, (fun q => nomatch q), X, rfl, hx, hZ', hown', hS.trans S2 (Nat.le_trans hk K.1), Nat.le_refl _, hEL, hC.trans b4, hN.app hL, hO.keep K hws⟩
theorem callS0 {index Wd dc ds : Nat} {y : MethodName} {bytes : ByteArray} {maxL : Nat} {ret : Option FieldType} {argsL rest : List Value} {ws : List Addr} {Q : Option Value → Heap → Prop} {ps : List FieldType} {r : Option FieldType}
    (hK : Pay l R p e below Z y Wd argsL.toArray h dc ds ws Q) (w1 : (Jvm.Cond.methodLink own index y).before a0 Z = true) (w2 : (Jvm.Cond.static y).before a0 Z = true) (w3 : (Jvm.Cond.initialized y.cls).before a0 Z = true) (w4 : (Jvm.Cond.code y bytes maxL ret).before a0 Z = true) (hy : y.cls ≠ "java/lang/invoke/MethodHandle" ∧ y.cls ≠ "java/lang/invoke/VarHandle")
    (hpd : parseMethodDescriptor y.desc = some ⟨ps, r⟩) (hln : argsL.length = ps.length) (hst : st = argsL.reverse ++ rest) (hsize : ls.size = c.maxLocals) (hW : 2 * 0 + (rest.map fun v => v.category).sum ≤ Wd) (hcl : cells + dc = cells') (hsl : slots + ds = slots') (hc : cells' ≤ R.cells) (hs : slots' ≤ R.slots) (hws : ∀ x ∈ ws, Z.heap.size ≤ x) (hsf : ∀ vm, Z.vm.Alike vm → ∀ x ∈ ws, Safe Z EL vm h x)
    (hd : decode c.code pc = .ok (.invokestatic index, 3)) (k : ∀ (v : Option Value) (h' : Heap), Q v h' → Keep h h' ws → Go W EL Z a0 own p l e R s m args below meth c F h' cells' slots' (mkF m (pc + 3) ls (v.toList ++ rest))) : Go W EL Z a0 own p l e R s m args below meth c F h cells slots (mkF m pc ls st) := by
  intro T P
  obtain ⟨vm0, k0, locs, hWf, X, eT, hx, hZ, hown, hS, hk, hEL, hC, hN, hO⟩ := P
  obtain ⟨v, vm₁, B, -, X', ⟨L, ⟨q1, q2, q3⟩, b1, b2, b3⟩, st'⟩ := Jvm.LawKit.callS X hx hown (mvT hZ w1) (mvT hZ w2) (mvT hZ w3) (mvT hZ w4) hy (hK _ _ hZ) (g := mkF m pc ls st) rfl hsize (lenOf hpd hln) hst hW hd (fun _ _ => ⟨rfl, eT, by rw [hcl]; exact hc, by rw [hsl]; exact hs⟩)
  obtain ⟨t, o, h1, h2⟩ := k v _ q1 q3 B.U (pt_back (vm₁ := vm₁) hWf eT hx hZ hown hS hk hEL hC hN hO X' q2 q3 b1 b2 b3 hws hsf hcl hsl)
  exact ⟨t, o, st' _ h1, h2⟩
theorem callSW0 {index Wd dc ds : Nat} {y : MethodName} {bytes : ByteArray} {maxL : Nat} {ret : Option FieldType} {argsL rest : List Value} {ws : List Addr} {Q : Option Value → Heap → Prop} {ps : List FieldType} {r : Option FieldType} (hWt : W = true)
    (hK : PayW EL l R p e below Z y Wd argsL.toArray h dc ds ws Q) (w1 : (Jvm.Cond.methodLink own index y).before a0 Z = true) (w2 : (Jvm.Cond.static y).before a0 Z = true) (w3 : (Jvm.Cond.initialized y.cls).before a0 Z = true) (w4 : (Jvm.Cond.code y bytes maxL ret).before a0 Z = true) (hy : y.cls ≠ "java/lang/invoke/MethodHandle" ∧ y.cls ≠ "java/lang/invoke/VarHandle")
    (hpd : parseMethodDescriptor y.desc = some ⟨ps, r⟩) (hln : argsL.length = ps.length) (hst : st = argsL.reverse ++ rest) (hsize : ls.size = c.maxLocals) (hW : 2 * 0 + (rest.map fun v => v.category).sum ≤ Wd) (hcl : cells + dc = cells') (hsl : slots + ds = slots') (hc : cells' ≤ R.cells) (hs : slots' ≤ R.slots) (hws : ∀ x ∈ ws, Z.heap.size ≤ x)
    (hd : decode c.code pc = .ok (.invokestatic index, 3)) (k : ∀ (v : Option Value) (h' : Heap), Q v h' → Keep h h' ws → Go W EL Z a0 own p l e R s m args below meth c F h' cells' slots' (mkF m (pc + 3) ls (v.toList ++ rest))) : Go W EL Z a0 own p l e R s m args below meth c F h cells slots (mkF m pc ls st) := by
  intro T P
  obtain ⟨vm0, k0, locs, hWf, X, eT, hx, hZ, hown, hS, hk, hEL, hC, hN, hO⟩ := P
  obtain ⟨v, vm₁, B, -, X', S2, -, ⟨L, ⟨q1, q2, q3⟩, b1, b2, b3, b4⟩, st'⟩ := callSS X hx hown (mvT hZ w1) (mvT hZ w2) (mvT hZ w3) (mvT hZ w4) hy (hK s vm0 _ hZ hC.1) (g := mkF m pc ls st) rfl hsize (lenOf hpd hln) hst hW hd (fun _ _ => ⟨rfl, eT, by rw [hcl]; exact hc, by rw [hsl]; exact hs⟩)
  obtain ⟨t, o, h1, h2⟩ := k v _ q1 q3 B.U (pt_backS hWt hx hZ hown hS hk hEL hC hN hO X' S2 q2 q3 b1 b2 b3 b4 hws hcl hsl)
  exact ⟨t, o, st'.trans h1, h2⟩
theorem callI0 {index Wd dc ds : Nat} {y : MethodName} {bytes : ByteArray} {maxL : Nat} {a : Addr} {argsL rest : List Value} {ws : List Addr} {Q : Option Value → Heap → Prop} {ps : List FieldType} {r : Option FieldType}
    (hK : Pay l R p e below Z y Wd (.ref a :: argsL).toArray h dc ds ws Q) (hy1 : y.name = "<init>") (w1 : (Jvm.Cond.methodLink own index y).before a0 Z = true) (w2 : (Jvm.Cond.instanceMethod y).before a0 Z = true) (w4 : (Jvm.Cond.code y bytes maxL none).before a0 Z = true) (hy : y.cls ≠ "java/lang/invoke/MethodHandle" ∧ y.cls ≠ "java/lang/invoke/VarHandle")
    (hpd : parseMethodDescriptor y.desc = some ⟨ps, r⟩) (hln : argsL.length = ps.length) (hst : st = argsL.reverse ++ .ref a :: rest) (hsize : ls.size = c.maxLocals) (hW : 2 * 0 + (rest.map fun v => v.category).sum ≤ Wd) (hcl : cells + dc = cells') (hsl : slots + ds = slots') (hc : cells' ≤ R.cells) (hs : slots' ≤ R.slots) (hws : ∀ x ∈ ws, Z.heap.size ≤ x) (hsf : ∀ vm, Z.vm.Alike vm → ∀ x ∈ ws, Safe Z EL vm h x)
    (hd : decode c.code pc = .ok (.invokespecial index, 3)) (k : ∀ (v : Option Value) (h' : Heap), Q v h' → Keep h h' ws → Go W EL Z a0 own p l e R s m args below meth c F h' cells' slots' (mkF m (pc + 3) ls (v.toList ++ rest))) : Go W EL Z a0 own p l e R s m args below meth c F h cells slots (mkF m pc ls st) := by
  intro T P
  obtain ⟨vm0, k0, locs, hWf, X, eT, hx, hZ, hown, hS, hk, hEL, hC, hN, hO⟩ := P
  obtain ⟨v, vm₁, B, -, X', ⟨L, ⟨q1, q2, q3⟩, b1, b2, b3⟩, st'⟩ := X.specialBack hx hy1 hown (mvT hZ w1) (mvT hZ w2) (mvT hZ w4) hy (hK _ _ hZ) (g := mkF m pc ls st) rfl hsize (Steps.refl _) (lenOf hpd hln) hst hW hd (fun _ _ => ⟨rfl, eT, by rw [hcl]; exact hc, by rw [hsl]; exact hs⟩)
  obtain ⟨t, o, h1, h2⟩ := k v _ q1 q3 B.U (pt_back (vm₁ := vm₁) hWf eT hx hZ hown hS hk hEL hC hN hO X' q2 q3 b1 b2 b3 hws hsf hcl hsl)
  exact ⟨t, o, st'.trans h1, h2⟩
theorem callIW0 {index Wd dc ds : Nat} {y : MethodName} {bytes : ByteArray} {maxL : Nat} {a : Addr} {argsL rest : List Value} {ws : List Addr} {Q : Option Value → Heap → Prop} {ps : List FieldType} {r : Option FieldType} (hWt : W = true)
    (hK : PayW EL l R p e below Z y Wd (.ref a :: argsL).toArray h dc ds ws Q) (hy1 : y.name = "<init>") (w1 : (Jvm.Cond.methodLink own index y).before a0 Z = true) (w2 : (Jvm.Cond.instanceMethod y).before a0 Z = true) (w4 : (Jvm.Cond.code y bytes maxL none).before a0 Z = true) (hy : y.cls ≠ "java/lang/invoke/MethodHandle" ∧ y.cls ≠ "java/lang/invoke/VarHandle")
    (hpd : parseMethodDescriptor y.desc = some ⟨ps, r⟩) (hln : argsL.length = ps.length) (hst : st = argsL.reverse ++ .ref a :: rest) (hsize : ls.size = c.maxLocals) (hW : 2 * 0 + (rest.map fun v => v.category).sum ≤ Wd) (hcl : cells + dc = cells') (hsl : slots + ds = slots') (hc : cells' ≤ R.cells) (hs : slots' ≤ R.slots) (hws : ∀ x ∈ ws, Z.heap.size ≤ x)
    (hd : decode c.code pc = .ok (.invokespecial index, 3)) (k : ∀ (v : Option Value) (h' : Heap), Q v h' → Keep h h' ws → Go W EL Z a0 own p l e R s m args below meth c F h' cells' slots' (mkF m (pc + 3) ls (v.toList ++ rest))) : Go W EL Z a0 own p l e R s m args below meth c F h cells slots (mkF m pc ls st) := by
  intro T P
  obtain ⟨vm0, k0, locs, hWf, X, eT, hx, hZ, hown, hS, hk, hEL, hC, hN, hO⟩ := P
  obtain ⟨v, vm₁, B, -, X', S2, -, ⟨L, ⟨q1, q2, q3⟩, b1, b2, b3, b4⟩, st'⟩ := X.specialBackS hx hy1 hown (mvT hZ w1) (mvT hZ w2) (mvT hZ w4) hy (hK s vm0 _ hZ hC.1) (g := mkF m pc ls st) rfl hsize (Steps.refl _) (lenOf hpd hln) hst hW hd (fun _ _ => ⟨rfl, eT, by rw [hcl]; exact hc, by rw [hsl]; exact hs⟩)
  obtain ⟨t, o, h1, h2⟩ := k v _ q1 q3 B.U (pt_backS hWt hx hZ hown hS hk hEL hC hN hO X' S2 q2 q3 b1 b2 b3 b4 hws hcl hsl)
  exact ⟨t, o, st'.trans h1, h2⟩
theorem callV0 {index Wd dc ds : Nat} {y z : MethodName} {C C' : String} {a : Addr} {argsL rest : List Value} {ws : List Addr} {Q : Option Value → Heap → Prop} {ps : List FieldType} {r : Option FieldType}
    (hK : Pay l R p e below Z z Wd (.ref a :: argsL).toArray h dc ds ws Q) (E : Exa Z h a C) (w1 : (Jvm.Cond.methodLink own index y).before a0 Z = true) (w2 : (Jvm.Cond.declares y).before a0 Z = true) (w3 : (Jvm.Cond.selects C' y y).before a0 Z = true) (w5 : (Jvm.Cond.selects C y z).before a0 Z = true) (w4 : (Jvm.Cond.instanceMethod z).before a0 Z = true) (hy : y.cls ≠ "java/lang/invoke/MethodHandle" ∧ y.cls ≠ "java/lang/invoke/VarHandle")
    (hpd : parseMethodDescriptor y.desc = some ⟨ps, r⟩) (hln : argsL.length = ps.length) (hst : st = argsL.reverse ++ .ref a :: rest) (hsize : ls.size = c.maxLocals) (hW : 2 * 0 + (rest.map fun v => v.category).sum ≤ Wd) (hcl : cells + dc = cells') (hsl : slots + ds = slots') (hc : cells' ≤ R.cells) (hs : slots' ≤ R.slots) (hws : ∀ x ∈ ws, Z.heap.size ≤ x) (hsf : ∀ vm, Z.vm.Alike vm → ∀ x ∈ ws, Safe Z EL vm h x)
    (hd : decode c.code pc = .ok (.invokevirtual index, 3)) (k : ∀ (v : Option Value) (h' : Heap), Q v h' → Keep h h' ws → Go W EL Z a0 own p l e R s m args below meth c F h' cells' slots' (mkF m (pc + 3) ls (v.toList ++ rest))) : Go W EL Z a0 own p l e R s m args below meth c F h cells slots (mkF m pc ls st) := by
  intro T P
  obtain ⟨vm0, k0, locs, hWf, X, eT, hx, hZ, hown, hS, hk, hEL, hC, hN, hO⟩ := P
  obtain ⟨cB, kB, i1, i2, i3⟩ := isOf (T := T) (s := s.setVm vm0) hZ eT E
  obtain ⟨v, vm₁, B, -, X', ⟨L, ⟨q1, q2, q3⟩, b1, b2, b3⟩, st'⟩ := X.virtualBack hx (y := y) (z := z) hown (mvT hZ w1) (mvT hZ w2) (notFace_of_selects (args := #[]) (mvT hZ w3)) (mvT hZ w5) (mvT hZ w4) hy (hK _ _ hZ) i1 i3 (g := mkF m pc ls st) rfl hsize (Steps.refl _) (lenOf hpd hln) hst hW hd (fun _ _ => ⟨rfl, eT, by rw [hcl]; exact hc, by rw [hsl]; exact hs⟩)
  obtain ⟨t, o, h1, h2⟩ := k v _ q1 q3 B.U (pt_back (vm₁ := vm₁) hWf eT hx hZ hown hS hk hEL hC hN hO X' q2 q3 b1 b2 b3 hws hsf hcl hsl)
  exact ⟨t, o, st'.trans h1, h2⟩
theorem callVW0 {index Wd dc ds : Nat} {y z : MethodName} {C C' : String} {a : Addr} {argsL rest : List Value} {ws : List Addr} {Q : Option Value → Heap → Prop} {ps : List FieldType} {r : Option FieldType} (hWt : W = true)
    (hK : PayW EL l R p e below Z z Wd (.ref a :: argsL).toArray h dc ds ws Q) (E : Exa Z h a C) (w1 : (Jvm.Cond.methodLink own index y).before a0 Z = true) (w2 : (Jvm.Cond.declares y).before a0 Z = true) (w3 : (Jvm.Cond.selects C' y y).before a0 Z = true) (w5 : (Jvm.Cond.selects C y z).before a0 Z = true) (w4 : (Jvm.Cond.instanceMethod z).before a0 Z = true) (hy : y.cls ≠ "java/lang/invoke/MethodHandle" ∧ y.cls ≠ "java/lang/invoke/VarHandle")
    (hpd : parseMethodDescriptor y.desc = some ⟨ps, r⟩) (hln : argsL.length = ps.length) (hst : st = argsL.reverse ++ .ref a :: rest) (hsize : ls.size = c.maxLocals) (hW : 2 * 0 + (rest.map fun v => v.category).sum ≤ Wd) (hcl : cells + dc = cells') (hsl : slots + ds = slots') (hc : cells' ≤ R.cells) (hs : slots' ≤ R.slots) (hws : ∀ x ∈ ws, Z.heap.size ≤ x)
    (hd : decode c.code pc = .ok (.invokevirtual index, 3)) (k : ∀ (v : Option Value) (h' : Heap), Q v h' → Keep h h' ws → Go W EL Z a0 own p l e R s m args below meth c F h' cells' slots' (mkF m (pc + 3) ls (v.toList ++ rest))) : Go W EL Z a0 own p l e R s m args below meth c F h cells slots (mkF m pc ls st) := by
  intro T P
  obtain ⟨vm0, k0, locs, hWf, X, eT, hx, hZ, hown, hS, hk, hEL, hC, hN, hO⟩ := P
  obtain ⟨cB, kB, i1, i2, i3⟩ := isOf (T := T) (s := s.setVm vm0) hZ eT E
  obtain ⟨v, vm₁, B, -, X', S2, -, ⟨L, ⟨q1, q2, q3⟩, b1, b2, b3, b4⟩, st'⟩ := X.virtualBackS hx (y := y) (z := z) hown (mvT hZ w1) (mvT hZ w2) (notFace_of_selects (args := #[]) (mvT hZ w3)) (mvT hZ w5) (mvT hZ w4) hy (hK s vm0 _ hZ hC.1) i1 i3 (g := mkF m pc ls st) rfl hsize (Steps.refl _) (lenOf hpd hln) hst hW hd (fun _ _ => ⟨rfl, eT, by rw [hcl]; exact hc, by rw [hsl]; exact hs⟩)
  obtain ⟨t, o, h1, h2⟩ := k v _ q1 q3 B.U (pt_backS hWt hx hZ hown hS hk hEL hC hN hO X' S2 q2 q3 b1 b2 b3 b4 hws hcl hsl)
  exact ⟨t, o, st'.trans h1, h2⟩
theorem callP0 {index Wd dc ds : Nat} {y : MethodName} {bytes : ByteArray} {maxL : Nat} {ret : Option FieldType} {C : String} {a : Addr} {argsL rest : List Value} {ws : List Addr} {Q : Option Value → Heap → Prop} {ps : List FieldType} {r : Option FieldType}
    (hK : Pay l R p e below Z y Wd (.ref a :: argsL).toArray h dc ds ws Q) (E : Exa Z h a C) (w1 : (Jvm.Cond.methodLink own index y).before a0 Z = true) (w2 : (Jvm.Cond.instanceMethod y).before a0 Z = true) (w3 : (Jvm.Cond.selects y.cls y y).before a0 Z = true) (w5 : (Jvm.Cond.privateMethod y).before a0 Z = true) (w4 : (Jvm.Cond.code y bytes maxL ret).before a0 Z = true) (hy : y.cls ≠ "java/lang/invoke/MethodHandle" ∧ y.cls ≠ "java/lang/invoke/VarHandle")
    (hpd : parseMethodDescriptor y.desc = some ⟨ps, r⟩) (hln : argsL.length = ps.length) (hst : st = argsL.reverse ++ .ref a :: rest) (hsize : ls.size = c.maxLocals) (hW : 2 * 0 + (rest.map fun v => v.category).sum ≤ Wd) (hcl : cells + dc = cells') (hsl : slots + ds = slots') (hc : cells' ≤ R.cells) (hs : slots' ≤ R.slots) (hws : ∀ x ∈ ws, Z.heap.size ≤ x) (hsf : ∀ vm, Z.vm.Alike vm → ∀ x ∈ ws, Safe Z EL vm h x)
    (hd : decode c.code pc = .ok (.invokevirtual index, 3)) (k : ∀ (v : Option Value) (h' : Heap), Q v h' → Keep h h' ws → Go W EL Z a0 own p l e R s m args below meth c F h' cells' slots' (mkF m (pc + 3) ls (v.toList ++ rest))) : Go W EL Z a0 own p l e R s m args below meth c F h cells slots (mkF m pc ls st) := by
  intro T P
  obtain ⟨vm0, k0, locs, hWf, X, eT, hx, hZ, hown, hS, hk, hEL, hC, hN, hO⟩ := P
  obtain ⟨cl, i1, i2⟩ := E.cell
  obtain ⟨v, vm₁, B, -, X', ⟨L, ⟨q1, q2, q3⟩, b1, b2, b3⟩, st'⟩ := X.privateBack hx (y := y) hown (mvT hZ w1) (mvT hZ w2) (mvT hZ w3) (Cond.privateMethod_at (args := #[]) (mvP hZ w5)) (mvT hZ w4) hy (hK _ _ hZ) (g := mkF m pc ls st) rfl hsize (Steps.refl _) (by rw [eT]; exact i1) i2 (lenOf hpd hln) hst hW hd (fun _ _ => ⟨rfl, eT, by rw [hcl]; exact hc, by rw [hsl]; exact hs⟩)
  obtain ⟨t, o, h1, h2⟩ := k v _ q1 q3 B.U (pt_back (vm₁ := vm₁) hWf eT hx hZ hown hS hk hEL hC hN hO X' q2 q3 b1 b2 b3 hws hsf hcl hsl)
  exact ⟨t, o, st'.trans h1, h2⟩
theorem k_v {ws : List Addr} {QV : Value → Heap → Prop} {rest : List Value} (hp : pc + 3 = pc') (k : ∀ (x : Value) (h' : Heap), QV x h' → Keep h h' ws → Go W EL Z a0 own p l e R s m args below meth c F h' cells' slots' (mkF m pc' ls (x :: rest))) : ∀ (v : Option Value) (h' : Heap), rvl QV v h' → Keep h h' ws → Go W EL Z a0 own p l e R s m args below meth c F h' cells' slots' (mkF m (pc + 3) ls (v.toList ++ rest)) := by
  subst hp
  rintro _ h' ⟨x, rfl, q⟩ K
  exact k x h' q K
theorem k_n {ws : List Addr} {QN : Heap → Prop} {rest : List Value} (hp : pc + 3 = pc') (k : ∀ (h' : Heap), QN h' → Keep h h' ws → Go W EL Z a0 own p l e R s m args below meth c F h' cells' slots' (mkF m pc' ls rest)) : ∀ (v : Option Value) (h' : Heap), rno QN v h' → Keep h h' ws → Go W EL Z a0 own p l e R s m args below meth c F h' cells' slots' (mkF m (pc + 3) ls (v.toList ++ rest)) := by
  subst hp
  rintro _ h' ⟨rfl, q⟩ K
  exact k h' q K
-- the end
theorem fin_of {vm0 : Vm} {k0 : Nat} {locs : List Loc} {T : State} {h0 : Heap} {ws : List Addr} {Q : Option Value → Heap → Prop} {dc ds : Nat} {v : Option Value} (hlk : meth.locks = false) (hWf : W = false → vm0 = s.vm) (X : Stand p l e R (s.setVm vm0) m args below meth c T locs cells slots) (eT : T.heap = h) (hZ : Z.Warmed39 vm0) (hS : s.Since vm0 k0) (hk : k0 ≤ h.size) (hEL : EW Z a0 EL) (hC : CHr Z EL s.vm s.heap vm0 h) (hN : Fr Z.heap.size locs) (hv : meth.sig.returnType = none → v = none) (hq : Q v h) (K : Keep h0 h ws) (hc : cells ≤ dc) (hs : slots ≤ ds) :
    ∃ fs, (∀ (f : JFrame) (acts : List Action), f.method = m → f.locked = none → f.entered = [] → (doReturn e (T.setTop f) acts v).1 = T.setFrames fs) ∧ (T.setFrames fs).status = .running ∧ Ended (T.setFrames fs) below (.returned v) ∧ Fend W EL Z s h0 ws Q dc ds (.returned v) (T.setFrames fs) := by
  cases W
  · obtain rfl := hWf rfl
    obtain ⟨fs, hr, hrun, hended, hW, hsame⟩ := X.leave (v := v) hv hlk
    exact ⟨fs, hr, hrun, hended, v, locs, rfl, ⟨by rw [show (T.setFrames fs).heap = h from eT]; exact hq, hN, by rw [show (T.setFrames fs).heap = h from eT]; exact K⟩, (fun q => nomatch q), fun _ => ⟨⟨v, rfl⟩, hW, hsame.mono hc hs⟩⟩
  · obtain ⟨fs, hr, hrun, hended, q1, q2, q3, q4⟩ := X.leaveW hS (by rw [eT]; exact hk) (v := v) hv hlk
    exact ⟨fs, hr, hrun, hended, v, locs, rfl, ⟨by rw [show (T.setFrames fs).heap = h from eT]; exact hq, hN, by rw [show (T.setFrames fs).heap = h from eT]; exact K⟩, fun _ => ⟨by rw [show (T.setFrames fs).heap = h from eT]; exact hC.trans (show CHr Z EL vm0 h T.vm h from CHv.at X hZ hEL hC.1), q1, q2, q3, q4.mono hc hs⟩, (fun q => nomatch q)⟩
theorem go_areturn {v : Value} {t : FieldType} {h0 : Heap} {ws : List Addr} {Q : Option Value → Heap → Prop} {dc ds : Nat} (hret : meth.sig.returnType = some t) (hlk : meth.locks = false) (ht : t.isReference = true) (hv : v.isRef = true) (hd : decode c.code pc = .ok (.areturn, 1)) (hc : cells ≤ dc) (hs : slots ≤ ds) (hq : Q (some v) h) (K : Keep h0 h ws) :
    Go W EL Z a0 own p l e R s m args below meth c (Fend W EL Z s h0 ws Q dc ds) h cells slots (mkF m pc ls [v]) := by
  intro T P
  obtain ⟨vm0, k0, locs, hWf, X, eT, hx, hZ, hown, hS, hk, hEL, hC, hN, hO⟩ := P
  obtain ⟨fs, hr, q1, q2, q3⟩ := fin_of hlk hWf X eT hZ hS hk hEL hC hN (v := some v) (fun q => by rw [hret] at q; cases q) hq K hc hs
  exact ⟨_, _, X.areturnOut hx hv hret ht hd hr, q1, q2, q3⟩
theorem go_return {h0 : Heap} {ws : List Addr} {Q : Option Value → Heap → Prop} {dc ds : Nat} (hret : meth.sig.returnType = none) (hlk : meth.locks = false) (hd : decode c.code pc = .ok (.return_, 1)) (hc : cells ≤ dc) (hs : slots ≤ ds) (hq : Q none h) (K : Keep h0 h ws) :
    Go W EL Z a0 own p l e R s m args below meth c (Fend W EL Z s h0 ws Q dc ds) h cells slots (mkF m pc ls []) := by
  intro T P
  obtain ⟨vm0, k0, locs, hWf, X, eT, hx, hZ, hown, hS, hk, hEL, hC, hN, hO⟩ := P
  obtain ⟨fs, hr, q1, q2, q3⟩ := fin_of hlk hWf X eT hZ hS hk hEL hC hN (v := none) (fun _ => rfl) hq K hc hs
  exact ⟨_, _, X.returnOut hx hret hd hr, q1, q2, q3⟩
theorem go_ireturn {x : Int32} {t : FieldType} {h0 : Heap} {ws : List Addr} {Q : Option Value → Heap → Prop} {dc ds : Nat} (hret : meth.sig.returnType = some t) (hlk : meth.locks = false) (hn : narrow t (.int x) = .int x) (hti : t = .int ∨ t = .boolean ∨ t = .byte ∨ t = .char ∨ t = .short) (hd : decode c.code pc = .ok (.ireturn, 1)) (hc : cells ≤ dc) (hs : slots ≤ ds) (hq : Q (some (.int x)) h) (K : Keep h0 h ws) :
    Go W EL Z a0 own p l e R s m args below meth c (Fend W EL Z s h0 ws Q dc ds) h cells slots (mkF m pc ls [.int x]) := by
  intro T P
  obtain ⟨vm0, k0, locs, hWf, X, eT, hx, hZ, hown, hS, hk, hEL, hC, hN, hO⟩ := P
  obtain ⟨fs, hr, q1, q2, q3⟩ := fin_of hlk hWf X eT hZ hS hk hEL hC hN (v := some (.int x)) (fun q => by rw [hret] at q; cases q) hq K hc hs
  exact ⟨_, _, X.ireturnOut hx hret hn hti hd hr, q1, q2, q3⟩
theorem go_lreturn {x : Int64} {h0 : Heap} {ws : List Addr} {Q : Option Value → Heap → Prop} {dc ds : Nat} (hret : meth.sig.returnType = some .long) (hlk : meth.locks = false) (hd : decode c.code pc = .ok (.lreturn, 1)) (hc : cells ≤ dc) (hs : slots ≤ ds) (hq : Q (some (.long x)) h) (K : Keep h0 h ws) :
    Go W EL Z a0 own p l e R s m args below meth c (Fend W EL Z s h0 ws Q dc ds) h cells slots (mkF m pc ls [.long x]) := by
  intro T P
  obtain ⟨vm0, k0, locs, hWf, X, eT, hx, hZ, hown, hS, hk, hEL, hC, hN, hO⟩ := P
  obtain ⟨fs, hr, q1, q2, q3⟩ := fin_of hlk hWf X eT hZ hS hk hEL hC hN (v := some (.long x)) (fun q => by rw [hret] at q; cases q) hq K hc hs
  exact ⟨_, _, X.lreturnOut hx hret hd hr, q1, q2, q3⟩
theorem nv_obj {v : Value} {C : String} (q : v.isRef = true) : narrow (.object C) v = v := by cases v <;> first | rfl | simp [Value.isRef] at q
theorem fv_obj {v : Value} {C : String} (q : v.isRef = true) : fits (.object C) v = true := by cases v <;> first | rfl | simp [Value.isRef] at q
theorem i2b_i2b (x : Int32) : (x.toInt8.toInt32).toInt8.toInt32 = x.toInt8.toInt32 := by simp
theorem go_cut {α : Type} {P : α → Prop} {gf : α → JFrame} {g0 : JFrame} (k : ∀ q, P q → Go W EL Z a0 own p l e R s m args below meth c F h cells slots (gf q)) (b : (∀ q, P q → Go W EL Z a0 own p l e R s m args below meth c F h cells slots (gf q)) → Go W EL Z a0 own p l e R s m args below meth c F h cells slots (g0)) : Go W EL Z a0 own p l e R s m args below meth c F h cells slots (g0) := b k
theorem go_getSN {v : Value} {O n d host : String} {index : Nat} (w : (Jvm.Cond.fieldLinkNest own index O n d host).before a0 Z = true) (F0 : Sta Z h O n d v) (hd : decode c.code pc = .ok (.getstatic index, 3)) (hp : pc + 3 = pc') (k : Go W EL Z a0 own p l e R s m args below meth c F h cells slots (mkF m pc' ls (v :: st))) : Go W EL Z a0 own p l e R s m args below meth c F h cells slots (mkF m pc ls st) := by
  subst hp
  intro T P
  obtain ⟨vm0, k0, locs, hWf, X, eT, hx, hZ, hown, hS, hk, hEL, hC, hN, hO⟩ := P
  obtain ⟨T', X', e', st'⟩ := getS2 X hx hZ hown (Or.inr w) Via.refl eT F0 (g := mkF m pc ls st) rfl hd
  obtain ⟨t, o, h1, h2⟩ := k T' ⟨vm0, k0, locs, hWf, X', e', hx, hZ, hown, hS, hk, hEL, hC, hN, hO⟩
  exact ⟨t, o, st' _ h1, h2⟩
theorem go_newR {C : String} {index : Nat} {n : Int32} {cap : Nat} {vs : List Value} (w1 : (Jvm.Cond.classLink own index C).before a0 Z = true) (w2 : (Jvm.Cond.arrayOver (.object C)).before a0 Z = true) (hd : decode c.code pc = .ok (.anewarray index, 3)) (hp : pc + 3 = pc') (hn : ¬ n < 0) (hcap : n.toNatClampNeg = cap) (hb : cap * 8 ≤ 536870912) (hvs : List.replicate cap Value.null = vs) (hcl : cells + 1 = cells') (hsl : slots + cap = slots') (hc : cells' ≤ R.cells) (hl : slots' ≤ R.slots)
    (k : ∀ (h' : Heap) (a : Addr) (kA : ClassId), h.size = a → Ext h h' → Arv Z h' a kA (.object C) n vs .null → Ovr Z kA C → Go W EL Z a0 own p l e R s m args below meth c F h' cells' slots' (mkF m pc' ls (.ref a :: st))) : Go W EL Z a0 own p l e R s m args below meth c F h cells slots (mkF m pc ls (.int n :: st)) := by
  subst hp hcl hsl hvs
  intro T P
  obtain ⟨vm0, k0, locs, hWf, X, eT, hx, hZ, hown, hS, hk, hEL, hC, hN, hO⟩ := P
  obtain ⟨T', h', kA, X', e', E', A', O', st'⟩ := newR X hx hZ hown w1 w2 eT (g := mkF m pc ls (.int n :: st)) rfl hd rfl hn (cap := cap) (Nat.le_of_eq hcap) hb hc hl
  have V : Arv Z h' h.size kA (.object C) n (List.replicate cap Value.null) .null := by
    have q : Arv Z h' h.size kA (.object C) n ([] ++ List.replicate cap Value.null) .null := (Arv.new A' hn).pad (pad_rep [] (defaultValue (.object C)) cap)
    simpa using q
  obtain ⟨t, o, h1, h2⟩ := k h' h.size kA rfl E' V O' T' ⟨vm0, k0, _, hWf, X', e', hx, hZ, hown, hS, Nat.le_trans hk E'.1, hEL, hC.trans (CHr.ext E' hC.1), hN, hO.ext E'⟩
  exact ⟨t, o, st' _ h1, h2⟩
theorem go_stR {a y : Addr} {kA : ClassId} {z j : Int32} {vs vs' : List Value} {i : Nat} {K C : String} (A : Arv Z h a kA (.object K) z vs .null) (O0 : Ovr Z kA C) (I : Ins Z h y C true) (ha : Z.heap.size ≤ a) (hj0 : ¬ j < 0) (hjz : j < z) (hji : j.toNatClampNeg = i) (hi : i < vs.length) (hvs : vs.set i (.ref y) = vs') (hd : decode c.code pc = .ok (.aastore, 1)) (hp : pc + 1 = pc')
    (k : ∀ h', Wr h h' a i (.ref y) → Arv Z h' a kA (.object K) z vs' .null → Go W EL Z a0 own p l e R s m args below meth c F h' cells slots (mkF m pc' ls st)) : Go W EL Z a0 own p l e R s m args below meth c F h cells slots (mkF m pc ls (.ref y :: .int j :: .ref a :: st)) := by
  subst hp hvs hji
  intro T P
  obtain ⟨vm0, k0, locs, hWf, X, eT, hx, hZ, hown, hS, hk, hEL, hC, hN, hO⟩ := P
  obtain ⟨cl, Ar, q1, S1, N1, H1, G1⟩ := A
  obtain ⟨T', h', X', e', W', st'⟩ := stR X hx hZ eT Ar (j := j) (inb_of S1 ⟨hj0, hjz⟩) rfl (Sto.ofV Ar q1 O0 I) (g := mkF m pc ls (.ref y :: .int j :: .ref a :: st)) rfl rfl hd
  have S0 : Safe Z EL vm0 h a := Safe.arr hZ.alike Ar (by simp)
  obtain ⟨t, o, h1, h2⟩ := k h' W' (Arv.set Ar q1 S1 N1 H1 G1 rfl W' _ rfl hi) T' ⟨vm0, k0, _, hWf, X', e', hx, hZ, hown, hS, by rw [W'.size]; exact hk, hEL, hC.trans (CHr.wr W' S0 hC.1), Fr.snoc X' hN ha, hO.wr W' ha⟩
  exact ⟨t, o, st' _ h1, h2⟩
theorem go_clone {a : Addr} {kA : ClassId} {z : Int32} {vs : List Value} {dv : Value} {ty : FieldType} {ad : String} {index Wd cap : Nat} (w1 : (Jvm.Cond.methodLink own index ⟨ad, "clone", "()Ljava/lang/Object;"⟩).before a0 Z = true) (w2 : (Jvm.Cond.sameMethod ad "java/lang/Object" "clone" "()Ljava/lang/Object;").before a0 Z = true) (w3 : (Jvm.Cond.native ⟨"java/lang/Object", "clone", "()Ljava/lang/Object;"⟩).before a0 Z = true) (w4 : (Jvm.Cond.instanceMethod ⟨"java/lang/Object", "clone", "()Ljava/lang/Object;"⟩).before a0 Z = true) (w5 : (Jvm.Cond.selects ad ⟨ad, "clone", "()Ljava/lang/Object;"⟩ ⟨"java/lang/Object", "clone", "()Ljava/lang/Object;"⟩).before a0 Z = true) (w6 : (Jvm.Cond.castable ad "java/lang/Cloneable").before a0 Z = true)
    (A : Arv Z h a kA ty z vs dv) (E : Exa Z h a ad) (hsize : ls.size = c.maxLocals) (hW : 2 * 0 + (st.map fun v => v.category).sum ≤ Wd) (hf : 1 ≤ R.frames) (hl : Wd + 14 ≤ R.locals) (hcap : z.toNatClampNeg = cap) (hd : decode c.code pc = .ok (.invokevirtual index, 3)) (hp : pc + 3 = pc') (hcl : cells + 1 = cells') (hsl : slots + cap = slots') (hc : cells' ≤ R.cells) (hs : slots' ≤ R.slots)
    (k : ∀ (h' : Heap) (b : Addr), h.size = b → Ext h h' → Arv Z h' b kA ty z vs dv → Exa Z h' b ad → Go W EL Z a0 own p l e R s m args below meth c F h' cells' slots' (mkF m pc' ls (.ref b :: st))) : Go W EL Z a0 own p l e R s m args below meth c F h cells slots (mkF m pc ls (.ref a :: st)) := by
  subst hp hcl hsl
  intro T P
  obtain ⟨vm0, k0, locs, hWf, X, eT, hx, hZ, hown, hS, hk, hEL, hC, hN, hO⟩ := P
  obtain ⟨cl, Ar, q1, S1, N1, H1, G1⟩ := A
  have FC : FitC Z cl := fitC_of Ar fun i hi v hv => by rw [H1 i hi] at hv; cases hv; exact G1 i hi
  obtain ⟨T', h', X', e', E', A', B', st'⟩ := cloneA X hx hZ hown w1 w2 w3 w4 w5 w6 eT Ar E FC (g := mkF m pc ls (.ref a :: st)) rfl hsize rfl hd hf (W := Wd) hW hl (cap := cap) (by rw [S1]; exact Nat.le_of_eq hcap) hc hs
  obtain ⟨t, o, h1, h2⟩ := k h' h.size rfl E' ⟨cloneOf cl, A', q1, S1, N1, H1, G1⟩ B' T' ⟨vm0, k0, _, hWf, X', e', hx, hZ, hown, hS, Nat.le_trans hk E'.1, hEL, hC.trans (CHr.ext E' hC.1), hN, hO.ext E'⟩
  exact ⟨t, o, st' _ h1, h2⟩
theorem go_acopy {a b : Addr} {kA kB : ClassId} {ty : FieldType} {z z' sp dp nn : Int32} {vs vd vd' : List Value} {dv dd : Value} {index Wd : Nat} (w1 : (Jvm.Cond.methodLink own index Jvm.Stand.acN).before a0 Z = true) (w2 : (Jvm.Cond.native Jvm.Stand.acN).before a0 Z = true) (w3 : (Jvm.Cond.static Jvm.Stand.acN).before a0 Z = true) (w4 : (Jvm.Cond.initialized "java/lang/System").before a0 Z = true) (hE : EL = []) (A : Arv Z h a kA ty z vs dv) (B : Arv Z h b kB ty z' vd dd) (hty : refKind ty = false)
    (h1 : ¬ sp < 0) (h2 : ¬ dp < 0) (h3 : ¬ nn < 0) (h4 : sp.toNatClampNeg + nn.toNatClampNeg ≤ z.toNatClampNeg) (h5 : dp.toNatClampNeg + nn.toNatClampNeg ≤ z'.toNatClampNeg) (hl : dp.toNatClampNeg + nn.toNatClampNeg ≤ vd.length) (hb : Z.heap.size ≤ b) (hvd : vd.take dp.toNatClampNeg ++ ((List.range nn.toNatClampNeg).map fun i => vs.getD (sp.toNatClampNeg + i) dv) ++ vd.drop (dp.toNatClampNeg + nn.toNatClampNeg) = vd')
    (hsize : ls.size = c.maxLocals) (hW : 2 * 0 + (st.map fun v => v.category).sum ≤ Wd) (hf : 1 ≤ R.frames) (hlo : Wd + 18 ≤ R.locals) (hd : decode c.code pc = .ok (.invokestatic index, 3)) (hp : pc + 3 = pc')
    (k : ∀ h', Keep h h' [b] → Arv Z h' b kB ty z' vd' dd → Go W EL Z a0 own p l e R s m args below meth c F h' cells slots (mkF m pc' ls st)) : Go W EL Z a0 own p l e R s m args below meth c F h cells slots (mkF m pc ls (.int nn :: .int dp :: .ref b :: .int sp :: .ref a :: st)) := by
  subst hp hvd hE
  intro T P
  obtain ⟨vm0, k0, locs, hWf, X, eT, hx, hZ, hown, hS, hk, hEL, hC, hN, hO⟩ := P
  obtain ⟨T', h', L, X', e', N', K', A', st'⟩ := cpA X hx hZ hown w1 w2 w3 w4 eT A B (Or.inl ⟨rfl, hty⟩) h1 h2 h3 h4 h5 rfl hl hN hb (g := mkF m pc ls (.int nn :: .int dp :: .ref b :: .int sp :: .ref a :: st)) rfl hsize rfl hd hf (W := Wd) hW hlo
  obtain ⟨t, o, g1, g2⟩ := k h' K' A' T' ⟨vm0, k0, L, hWf, X', e', hx, hZ, hown, hS, Nat.le_trans hk K'.1, hEL, hC.trans (CHr.keep K' (fun _ _ => safe_nil) hC.1), N', hO.keep K' (allS hb all0)⟩
  exact ⟨t, o, st' _ g1, g2⟩
end Own
abbrev EL1 : List (String × Nat) := [("com/example/ispol/ispol/walls/TransparencyOfPinLaw", 46), ("com/example/ispol/ispol/walls/TransparencyOfPinLaw", 48), ("com/example/ispol/ispol/walls/TransparencyOfPinLaw", 50), ("java/lang/String", 7)]
def GH (Z : State) (a0 : Array Value) : Prop := (∀ d ∈ tables_1, d.before a0 Z = true) ∧ (∀ d ∈ jdkStatics_1, d.before a0 Z = true) ∧ EW Z a0 EL1 ∧ (narrow_1.value a0 Z none Z [] = some true) ∧ Fit Z
theorem wk {Z : State} {a0 : Array Value} (G : GH Z a0) (k : Nat) {d : Jvm.Cond} (q : tables_1[k]? = some d) : d.before a0 Z = true := G.1 _ (List.mem_of_getElem? q)
theorem jk {Z : State} {a0 : Array Value} (G : GH Z a0) (k : Nat) {d : Jvm.Cond} (q : jdkStatics_1[k]? = some d) : d.before a0 Z = true := G.2.1 _ (List.mem_of_getElem? q)
theorem ew1 {Z : State} {a0 : Array Value} (G : GH Z a0) : EW Z a0 EL1 := G.2.2.1
theorem wS {Z : State} {a0 : Array Value} (G : GH Z a0) : ∀ a ∈ Bundle.stringAtoms, a.before a0 Z = true := fun a ha => G.1 a ((by decide +kernel : ∀ d ∈ Bundle.stringAtoms, d ∈ tables_1) a ha)
theorem cs_of {Z : State} {a0 : Array Value} (G : GH Z a0) : ∃ z, Sta Z Z.heap "java/lang/String" "COMPACT_STRINGS" "Z" (.int z) ∧ ¬ z = 0 := by
  obtain ⟨z, e1⟩ := is_v (Cond.before_iff.mp (jk G 1 rfl))
  exact ⟨z, Sta.start e1 (Or.inl (jk G 0 rfl)), gotF (Cond.eq_ints e1 (Term.int_eval (0))) (not_v (Cond.before_iff.mp (jk G 2 rfl)))⟩
theorem sf_of {Z : State} {a0 : Array Value} (G : GH Z a0) : ∃ v, Sta Z Z.heap "jdk/internal/util/Preconditions" "SIOOBE_FORMATTER" "Ljava/util/function/BiFunction;" v ∧ v.isRef = true := by
  obtain ⟨v, e1, r1⟩ := isR_v (Cond.before_iff.mp (jk G 8 rfl))
  exact ⟨v, Sta.start e1 (Or.inl (jk G 7 rfl)), r1⟩
theorem held_of {s : State} {q : String × Nat} (h : Jvm.Pilot.@@N@@.Jvm.D.constHeld s q.1 q.2) : Jvm.Lit.constHeld s q.1 q.2 := h
theorem nar_c8 {c : Int32} (q : ¬ c < 0 ∧ ¬ (255 : Int32) < c) : narrow .char (.int c) = .int c := by
  show Value.int (nar .char c) = _
  rw [show nar .char c = c.toUInt32.toUInt16.toUInt32.toInt32 from rfl]
  have r := c_i2c c
  obtain ⟨q1, q2⟩ := q
  rw [Int32.lt_iff_toInt_lt] at q1 q2
  have e1 : (255 : Int32).toInt = 255 := by decide
  have e0 : (0 : Int32).toInt = 0 := by decide
  congr 1
  apply Int32.toInt_inj.mp
  omega
section OwnStr
variable {W : Bool} {EL : List (String × Nat)} {Z : State} {a0 : Array Value} {own : String} {p : Program} {l : Launch} {e : Env} {R : Room} {below : List Frame} {h h' : Heap} {x b : Addr} {cs ds : List Int32}
abbrev C8 (c : Int32) : Prop := ¬ c < 0 ∧ ¬ (255 : Int32) < c
theorem c8n : ∀ c ∈ ([] : List Int32), C8 c := fun _ q => nomatch q
theorem c8c {y : Int32} {L : List Int32} (q : C8 y) (r : ∀ c ∈ L, C8 c) : ∀ c ∈ y :: L, C8 c := fun c hc => by
  rcases List.mem_cons.mp hc with rfl | hc
  · exact q
  · exact r c hc
theorem c8_m (y : Int32) : C8 (y &&& 255) := by
  have q := c_and y 255 (by decide)
  have e1 : (255 : Int32).toInt = 255 := by decide
  have e0 : (0 : Int32).toInt = 0 := by decide
  constructor <;> (intro r; rw [Int32.lt_iff_toInt_lt] at r; omega)
theorem c8_l (y : Int64) : C8 ((y &&& (255 : Int64)).toInt32) := by
  have e : (y &&& (255 : Int64)).toInt32 = y.toInt32 &&& 255 := by
    rw [Int64.toInt32_and]; rfl
  rw [e]; exact c8_m _
theorem c8_up {c : Int32} (q : C8 c) : ¬ c < 0 ∧ ¬ (65535 : Int32) < c := ⟨q.1, fun r => q.2 (by
  rw [Int32.lt_iff_toInt_lt] at r ⊢
  have e1 : (65535 : Int32).toInt = 65535 := by decide
  have e2 : (255 : Int32).toInt = 255 := by decide
  omega)⟩
theorem i2c_c16 {c : Int32} (q : ¬ c < 0 ∧ ¬ (65535 : Int32) < c) : c.toUInt32.toUInt16.toUInt32.toInt32 = c := by
  have r := c_i2c c
  obtain ⟨q1, q2⟩ := q
  rw [Int32.lt_iff_toInt_lt] at q1 q2
  have e1 : (65535 : Int32).toInt = 65535 := by decide
  have e0 : (0 : Int32).toInt = 0 := by decide
  apply Int32.toInt_inj.mp
  omega
theorem i2c_c8 {c : Int32} (q : C8 c) : c.toUInt32.toUInt16.toUInt32.toInt32 = c := i2c_c16 (c8_up q)
def Str (Z : State) (h : Heap) (a : Addr) (cs : List Int32) : Prop := ∃ (t : Addr) (kb : ClassId), Exa Z h a "java/lang/String" ∧ Fld Z h a "java/lang/String" "value" "[B" (.ref t) ∧ Fld Z h a "java/lang/String" "coder" "B" (.int 0) ∧ Arv Z h t kb .byte (Int32.ofNat cs.length) ((cs.map fun c => c.toInt8.toInt32).map Value.int) (.int 0) ∧ (∀ c ∈ cs, C8 c) ∧ cs.length ≤ 4000
theorem Str.exa (S : Str Z h x cs) : Exa Z h x "java/lang/String" := by obtain ⟨t, k, q, -⟩ := S; exact q
theorem Str.keep (S : Str Z h x cs) (K : Keep h h' []) : Str Z h' x cs := by
  obtain ⟨t, k, q1, q2, q3, q4, q5, q6⟩ := S
  exact ⟨t, k, q1.keep K, q2.keep K nin0, q3.keep K nin0, q4.keep K nin0, q5, q6⟩
theorem Str.ext (S : Str Z h x cs) (E : Ext h h') : Str Z h' x cs := S.keep ((Keep.refl h []).ext E)
theorem Str.keepX {C : String} {n : Nat} (S : Str Z h x cs) (K : Keep h h' [b]) (E : Exa Z h b C) (hC : C ≠ "java/lang/String") (wi : (Jvm.Cond.instantiable C n).before a0 Z = true) : Str Z h' x cs := by
  obtain ⟨t, k, q1, q2, q3, q4, q5, q6⟩ := S
  have n1 : x ≠ b := ne_exa q1 E (Ne.symm hC)
  obtain ⟨cl, Ar, -⟩ := id q4
  have n2 : t ≠ b := Ne.symm (ne_arr E wi Ar)
  exact ⟨t, k, q1.keep K, q2.keep K (ninS n1 nin0), q3.keep K (ninS n1 nin0), q4.keep K (ninS n2 nin0), q5, q6⟩
theorem Str.keepA {n : Nat} {kA : ClassId} {ty : FieldType} {z : Int32} {vs : List Value} {dv : Value} (S : Str Z h x cs) (K : Keep h h' [b]) (A : Arv Z h b kA ty z vs dv) (ht : ty ≠ .byte) (wi : (Jvm.Cond.instantiable "java/lang/String" n).before a0 Z = true) : Str Z h' x cs := by
  obtain ⟨t, k, q1, q2, q3, q4, q5, q6⟩ := S
  obtain ⟨cl, Ar, -⟩ := A
  obtain ⟨cl', Ar', -⟩ := id q4
  have n1 : x ≠ b := ne_arr q1 wi Ar
  have n2 : t ≠ b := fun e => by
    subst e
    cases Ar.1.symm.trans Ar'.1
    obtain ⟨-, k1, h1, c1, g1⟩ := Ar.2.1
    obtain ⟨-, k2, h2, c2, g2⟩ := Ar'.2.1
    cases h1.symm.trans h2
    rw [g1] at g2
    cases g2
    exact ht rfl
  exact ⟨t, k, q1.keep K, q2.keep K (ninS n1 nin0), q3.keep K (ninS n1 nin0), q4.keep K (ninS n2 nin0), q5, q6⟩
theorem safe_null {vm : Vm} (hal : Z.vm.Alike vm) (E : Exa Z h x "java/lang/String") (V : Fld Z h x "java/lang/String" "value" "[B" .null) : Safe Z EL vm h x := fun B => by
  obtain ⟨cell, k, e1, e2, e3, -, -⟩ := E
  obtain ⟨cell', cf, k', i, f, v1, v2, v3, v4, v5, v6, v7⟩ := V
  cases e1.symm.trans v1
  obtain ⟨p, -, u, a, -, q, -, F, rfl | rfl⟩ := B
  · cases (show h[q.sa]? = some q.sC from F.ha).symm.trans e1
    obtain ⟨cS, ⟨⟨s1, s2, s3, ⟨cv, kv, iv, s4, s4'⟩, s5, s6, s7, s8, s9⟩, -, -⟩, -⟩ := F
    obtain ⟨kz, z4⟩ := ff_back (U := Wst Z vm h) hal s4
    cases z4.symm.trans v2
    rw [s8] at v7
    cases v7
  · cases (show h[q.sd]? = some q.SA from F.hd).symm.trans e1
    obtain ⟨cS, -, -, fB, -⟩ := F
    have f' : vm.findClass "[B" = some q.SA.cls := fB
    rw [hal.findClass] at f'
    obtain ⟨k1, q1, q2⟩ := Vm.findClass_spec f'
    obtain ⟨k2, q3, q4⟩ := Vm.findClass_spec e2
    cases q1.symm.trans q3
    exact absurd (q2.symm.trans q4) (by decide)
theorem go_empty {W : Bool} {s : State} {m : MethodId} {args : Array Value} {meth : Method} {c : Code} {F : Outcome → State → Prop} {cells slots : Nat} {ls : Array Slot} {a : Addr} (G : GH Z a0) (hWt : W = true) (hmem : ("java/lang/String", 7) ∈ EL) (hnm : meth.name = "<init>") (hls : ls[0]? = some (.val (.ref a)))
    (w1 : (Jvm.Cond.stringLink "java/lang/String" 7 "").before a0 Z = true) (w2 : (Jvm.Cond.fieldLink "java/lang/String" 9 "java/lang/String" "value" "[B").before a0 Z = true) (w3 : (Jvm.Cond.fieldLink "java/lang/String" 15 "java/lang/String" "coder" "B").before a0 Z = true) (w4 : (Jvm.Cond.laysFinal "java/lang/String" "java/lang/String" "value" "[B").before a0 Z = true) (w5 : (Jvm.Cond.laysFinal "java/lang/String" "java/lang/String" "coder" "B").before a0 Z = true) (wi : (Jvm.Cond.instantiable "java/lang/String" 4).before a0 Z = true)
    (E : Exa Z h a "java/lang/String") (V : Fld Z h a "java/lang/String" "value" "[B" .null) (Cd : Fld Z h a "java/lang/String" "coder" "B" (.int 0)) (za : Z.heap.size ≤ a)
    (d8 : decode c.code 8 = .ok (.aload_n 0, 1)) (d9 : decode c.code 9 = .ok (.ldc 7, 2)) (d11 : decode c.code 11 = .ok (.getfield 9, 3)) (d14 : decode c.code 14 = .ok (.putfield 9, 3)) (d17 : decode c.code 17 = .ok (.aload_n 0, 1)) (d18 : decode c.code 18 = .ok (.ldc 7, 2)) (d20 : decode c.code 20 = .ok (.getfield 15, 3)) (d23 : decode c.code 23 = .ok (.putfield 15, 3))
    (hc : cells + 4 ≤ R.cells) (hl : slots + 8 ≤ R.slots)
    (k : ∀ h', Str Z h' a [] → Keep h h' [a] → Go W EL Z a0 "java/lang/String" p l e R s m args below meth c F h' (cells + 4) (slots + 8) (mkF m 26 ls [])) : Go W EL Z a0 "java/lang/String" p l e R s m args below meth c F h cells slots (mkF m 8 ls []) := by
  subst hWt
  intro T P
  obtain ⟨vm0, k0, locs, hWf, X, eT, hx, hZ, hown, hS, hk, hEL, hC, hN, hO⟩ := P
  have hal0 : h.size > a := E.lt
  have S0 : Safe Z EL vm0 h a := safe_null hZ.alike E V
  obtain ⟨a1, T1, h1, k1, b1, kb1, X1, e1, E1, hS1, hk1, hZ1, hown1, q1, q2, q3, q4, -, -, hC1, -, ne1, st1⟩ := ldcCH X hx hZ hown w1 (wS G) eT hS hk hEL hmem hC.1 (vs := []) (z := 0) (by decide) (by decide) (by decide) (g := mkF m 9 ls [.ref a]) rfl d9 (n := 0) (by decide) (by decide) (by omega) (by omega)
  have hZ1 : Z.Warmed39 T1.vm := hZ1
  have S1 : Safe Z EL T1.vm h1 a := hC1.safe hal0 S0
  obtain ⟨T2, X2, e2, st2⟩ := getF X1 hx hZ1 hown1 (host := "") (Or.inl w2) Via.refl e1 q3 (g := mkF m 11 ls [.ref a1, .ref a]) rfl rfl d11
  obtain ⟨T3, h3, X3, e3, W3, st3⟩ := putFN X2 hx hZ1 hown1 w2 Via.refl e2 (V.ext E1) (E.ext E1) (Or.inr ⟨w4, rfl, hnm⟩) wi (ty := .array .byte) (v' := .ref b1) (by decide) rfl rfl (g := mkF m 14 ls [.ref b1, .ref a]) rfl rfl d14
  have hC3 : CHr Z EL vm0 h T1.vm h3 := hC1.trans (CHr.wr W3 S1 hC1.1)
  have S3 : Safe Z EL T1.vm h3 a := Safe.wr W3 S1 hC1.1 S1
  have A3 := q4.other W3 (Ne.symm (ne1 a S1).2)
  have V3 := (V.ext E1).same W3
  have C3 := (Cd.ext E1).other W3 (Or.inr (slot_ne (t := .byte) (t' := .array .byte) (Or.inr w5) (Or.inr w4) (by decide) (by decide) (by decide)))
  have X3' : Exa Z h3 a "java/lang/String" := (E.ext E1).wr W3
  have hk3 : k1 ≤ h3.size := by rw [W3.size]; exact hk1
  obtain ⟨a4, T4, h4, k4, b4, kb4, X4, e4, E4, hS4, hk4, hZ4, hown4, r1, r2, r3, r4, -, -, hC4, -, ne4, st4⟩ := ldcCH X3 hx hZ1 hown1 w1 (wS G) e3 hS1 hk3 hEL hmem hC3.1 (vs := []) (z := 0) (by decide) (by decide) (by decide) (g := mkF m 18 ls [.ref a]) rfl d18 (n := 0) (by decide) (by decide) (by omega) (by omega)
  have hZ4 : Z.Warmed39 T4.vm := hZ4
  have S4 : Safe Z EL T4.vm h4 a := hC4.safe X3'.lt S3
  obtain ⟨T5, X5, e5, st5⟩ := getF X4 hx hZ4 hown4 (host := "") (Or.inl w3) Via.refl e4 r2 (g := mkF m 20 ls [.ref a4, .ref a]) rfl rfl d20
  obtain ⟨T6, h6, X6, e6, W6, st6⟩ := putFN X5 hx hZ4 hown4 w3 Via.refl e5 (C3.ext E4) (X3'.ext E4) (Or.inr ⟨w5, rfl, hnm⟩) wi (ty := .byte) (v' := .int 0) (by decide) rfl rfl (g := mkF m 23 ls [.int 0, .ref a]) rfl rfl d23
  have ext4 : Exa Z h4 a "java/lang/String" := X3'.ext E4
  have nb : b1 ≠ a := Ne.symm (ne1 a S1).2
  have KK : Keep h h6 [a] := ((((Keep.refl h [a]).ext E1).wr W3 (Or.inl (by simp))).ext E4).wr W6 (Or.inl (by simp))
  have SS : Str Z h6 a [] := ⟨b1, kb1, ext4.wr W6, (V3.ext E4).other W6 (Or.inr (slot_ne (t := .array .byte) (t' := .byte) (Or.inr w4) (Or.inr w5) (by decide) (by decide) (by decide))), (C3.ext E4).same W6, (A3.ext E4).other W6 nb, c8n, by decide⟩
  have O6 : Old Z Z.heap.size h6 := (((hO.ext E1).wr W3 za).ext E4).wr W6 za
  obtain ⟨t, o, z1, z2⟩ := k h6 SS KK T6 ⟨T4.vm, k4, _, (fun q => nomatch q), X6, e6, hx, hZ4, hown4, hS4, by rw [W6.size]; exact hk4, hEL, hC.trans (hC3.trans (hC4.trans (CHr.wr W6 S4 hC4.1))), Fr.snoc X6 (Fr.snoc X3 hN za) za, O6⟩
  refine ⟨t, o, ?_, z2⟩
  refine XS.aloadN X.here hx rfl d8 hls rfl ?_
  refine st1 _ ?_
  refine st2 _ ?_
  refine st3 _ ?_
  refine XS.aloadN X3.here hx rfl d17 hls rfl ?_
  refine st4 _ ?_
  refine st5 _ ?_
  exact st6 _ z1
theorem pay_new (G : GH Z a0) (O : Old Z Z.heap.size h) {kC : ClassId} {d v0 c0 : Value} {N : Int32} {n Wd : Nat} (hx0 : Z.heap.size ≤ x) (E : Exa Z h x "java/lang/String") (V : Fld Z h x "java/lang/String" "value" "[B" v0) (C : Fld Z h x "java/lang/String" "coder" "B" c0) (K : Arv Z h b kC .char N (cs.map Value.int) d) (hn : cs.length = n) (hN : N = Int32.ofNat n) (l0 : 0 < n) (l2 : n ≤ 4000) (hp : ∀ c ∈ cs, C8 c) (hfr : 4 ≤ R.frames) (hlo : Wd + 65 ≤ R.locals) :
    Pay l R p e below Z (⟨"java/lang/String", "<init>", "([C)V"⟩ : MethodName) Wd #[.ref x, .ref b] h 1 n [x] (rno fun h' => Str Z h' x cs) := by
  intro s args hZ
  obtain ⟨z, hS, hz⟩ := cs_of G
  refine (StrChars.Road.backV (W := Wd) hZ (fun d hd => G.1 d ((by decide +kernel : ∀ d ∈ StrChars.Road.words, d ∈ tables_1) d hd)) (kI := 4) (wk G 7 rfl) hx0 O.2.1 E V C K (hS.ext O.2) hz hn hN l0 l2 hp rfl hfr hlo).mono (fun _ _ q => q) ?_
  rintro A a v B - ⟨L, ⟨rfl, q1, q2, q3, q4, t, kb, q5, q6, q7, q8, q9⟩, b1, b2, b3⟩
  subst hn hN
  exact ⟨L, ⟨⟨rfl, t, kb, q3, q8, q4, q9, hp, l2⟩, q1, q2⟩, b1, b2, b3⟩
theorem pay_len (G : GH Z a0) (O : Old Z Z.heap.size h) {n : Int32} {Wd : Nat} (S : Str Z h x cs) (hn : Int32.ofNat cs.length = n) (hfr : 2 ≤ R.frames) (hlo : Wd + 25 ≤ R.locals) :
    Pay l R p e below Z (⟨"java/lang/String", "length", "()I"⟩ : MethodName) Wd #[.ref x] h 0 0 [] (rvl fun v h' => .int n = v ∧ h = h') := by
  intro s args hZ
  obtain ⟨z, hS, hz⟩ := cs_of G
  obtain ⟨t, kb, q1, q2, q3, q4, q5, q6⟩ := S
  refine (StrChars.Road.lenW (W := Wd) hZ (fun d hd => G.1 d ((by decide +kernel : ∀ d ∈ StrChars.Road.wordsLen, d ∈ tables_1) d hd)) (kI := 4) (wk G 7 rfl) q1 q2 q3 q4 (StrChars.Road.codOf rfl fun c hc => (q5 c hc).2) (fun c hc => c8_up (q5 c hc)) (hS.ext O.2) hz q6 hfr hlo).mono (fun _ _ q => q) ?_
  rintro A a v B - ⟨L, ⟨rfl, rfl, e1⟩, b1, b2, b3⟩
  subst hn
  exact ⟨[], ⟨⟨_, rfl, rfl, e1.symm⟩, Fr.nil _, by rw [e1]; exact Keep.refl _ _⟩, b1, b2, b3⟩
theorem pay_chr (G : GH Z a0) (O : Old Z Z.heap.size h) {i : Nat} {j c : Int32} {Wd : Nat} (S : Str Z h x cs) (hj : j = Int32.ofNat i) (hi : i < cs.length) (hc : cs.getD i 0 = c) (hfr : 4 ≤ R.frames) (hlo : Wd + 53 ≤ R.locals) :
    Pay l R p e below Z (⟨"java/lang/String", "charAt", "(I)C"⟩ : MethodName) Wd #[.ref x, .int j] h 0 0 [] (rvl fun v h' => .int c = v ∧ h = h') := by
  intro s args hZ
  obtain ⟨z, hS, hz⟩ := cs_of G
  obtain ⟨fm, hF, rf⟩ := sf_of G
  obtain ⟨t, kb, q1, q2, q3, q4, q5, q6⟩ := S
  refine (StrChars.Road.chN (W := Wd) hZ (fun d hd => G.1 d ((by decide +kernel : ∀ d ∈ StrChars.Road.wordsChN, d ∈ tables_1) d hd)) (kI := 4) (wk G 7 rfl) q1 q2 q3 q4 (StrChars.Road.codOf rfl fun c hc => (q5 c hc).2) (fun c hc => c8_up (q5 c hc)) (hS.ext O.2) hz (hF.ext O.2) rf q6 hi hj hfr hlo).mono (fun _ _ q => q) ?_
  rintro A a v B - ⟨L, ⟨rfl, rfl, e1⟩, b1, b2, b3⟩
  subst hc
  exact ⟨[], ⟨⟨_, rfl, rfl, e1.symm⟩, Fr.nil _, by rw [e1]; exact Keep.refl _ _⟩, b1, b2, b3⟩
theorem pay_eq (G : GH Z a0) (O : Old Z Z.heap.size h) {Wd : Nat} (S : Str Z h x cs) (S' : Str Z h b ds) (hfr : 2 ≤ R.frames) (hlo : Wd + 28 ≤ R.locals) :
    Pay l R p e below Z (⟨"java/lang/String", "equals", "(Ljava/lang/Object;)Z"⟩ : MethodName) Wd #[.ref x, .ref b] h 0 0 [] (rvl fun v h' => (.int 1 = v ∧ cs = ds ∧ h = h') ∨ (.int 0 = v ∧ ¬ cs = ds ∧ h = h')) := by
  intro s args hZ
  obtain ⟨z, hS, hz⟩ := cs_of G
  obtain ⟨t, kb, q1, q2, q3, q4, q5, q6⟩ := S
  obtain ⟨t', kb', r1, r2, r3, r4, r5, r6⟩ := S'
  refine (StrChars.Road.eqW (W := Wd) hZ (fun d hd => G.1 d ((by decide +kernel : ∀ d ∈ StrChars.Road.wordsEq, d ∈ tables_1) d hd)) (kI := 4) (wk G 7 rfl) q1 q2 q3 q4 (StrChars.Road.codOf rfl fun c hc => (q5 c hc).2) (fun c hc => c8_up (q5 c hc)) q6 r1 r2 r3 r4 (StrChars.Road.codOf rfl fun c hc => (r5 c hc).2) (fun c hc => c8_up (r5 c hc)) r6 (hS.ext O.2) hz hfr hlo).mono (fun _ _ q => q) ?_
  rintro A a v B - ⟨L, ⟨⟨rfl, q⟩ | ⟨rfl, q⟩, rfl, e1⟩, b1, b2, b3⟩
  · exact ⟨[], ⟨⟨_, rfl, Or.inl ⟨rfl, q, e1.symm⟩⟩, Fr.nil _, by rw [e1]; exact Keep.refl _ _⟩, b1, b2, b3⟩
  · exact ⟨[], ⟨⟨_, rfl, Or.inr ⟨rfl, q, e1.symm⟩⟩, Fr.nil _, by rw [e1]; exact Keep.refl _ _⟩, b1, b2, b3⟩
end OwnStr
def sa (Z : State) (C n d : String) : Addr := (((Term.static C n d).eval #[] Z none [] Z).bind refO).getD 0
theorem sta_ref {Z : State} {a0 : Array Value} {C n d K : String} (q : (Jvm.Cond.exactly (.static C n d) K).value a0 Z none Z [] = some true) (hi : (Jvm.Cond.initialized C).before a0 Z = true ∧ (Jvm.Cond.laysStatic C n d).before a0 Z = true) : Sta Z Z.heap C n d (.ref (sa Z C n d)) ∧ Exa Z Z.heap (sa Z C n d) K := by
  obtain ⟨y, e1⟩ := exa_v q
  have r : sa Z C n d = y := by
    unfold sa
    rw [show (Term.static C n d).eval #[] Z none [] Z = some (.ref y) from e1]
    rfl
  rw [r]
  exact ⟨Sta.start e1 (Or.inr hi), Exa.start e1 q⟩
def s__VALUES (Z : State) : Addr := sa Z "com/example/ispol/ispol/walls/Transparency" "$VALUES" "[Lcom/example/ispol/ispol/walls/Transparency;"
theorem se__VALUES {Z : State} {a0 : Array Value} (G : GH Z a0) : Sta Z Z.heap "com/example/ispol/ispol/walls/Transparency" "$VALUES" "[Lcom/example/ispol/ispol/walls/Transparency;" (.ref (s__VALUES Z)) ∧ Exa Z Z.heap (s__VALUES Z) "[Lcom/example/ispol/ispol/walls/Transparency;" := sta_ref ((and_e (and_e G.2.2.2.1).2).1) ⟨(wk G 29 rfl), (wk G 35 rfl)⟩
def s_TRANSPARENT (Z : State) : Addr := sa Z "com/example/ispol/ispol/walls/Transparency" "TRANSPARENT" "Lcom/example/ispol/ispol/walls/Transparency;"
theorem se_TRANSPARENT {Z : State} {a0 : Array Value} (G : GH Z a0) : Sta Z Z.heap "com/example/ispol/ispol/walls/Transparency" "TRANSPARENT" "Lcom/example/ispol/ispol/walls/Transparency;" (.ref (s_TRANSPARENT Z)) ∧ Exa Z Z.heap (s_TRANSPARENT Z) "com/example/ispol/ispol/walls/Transparency" := sta_ref ((and_e (and_e (and_e (and_e G.2.2.2.1).2).2).2).1) ⟨(wk G 29 rfl), (wk G 43 rfl)⟩
def s_TRANSLUCENT (Z : State) : Addr := sa Z "com/example/ispol/ispol/walls/Transparency" "TRANSLUCENT" "Lcom/example/ispol/ispol/walls/Transparency;"
theorem se_TRANSLUCENT {Z : State} {a0 : Array Value} (G : GH Z a0) : Sta Z Z.heap "com/example/ispol/ispol/walls/Transparency" "TRANSLUCENT" "Lcom/example/ispol/ispol/walls/Transparency;" (.ref (s_TRANSLUCENT Z)) ∧ Exa Z Z.heap (s_TRANSLUCENT Z) "com/example/ispol/ispol/walls/Transparency" := sta_ref ((and_e (and_e (and_e (and_e (and_e (and_e G.2.2.2.1).2).2).2).2).2).1) ⟨(wk G 29 rfl), (wk G 44 rfl)⟩
def s_OPAQUE (Z : State) : Addr := sa Z "com/example/ispol/ispol/walls/Transparency" "OPAQUE" "Lcom/example/ispol/ispol/walls/Transparency;"
theorem se_OPAQUE {Z : State} {a0 : Array Value} (G : GH Z a0) : Sta Z Z.heap "com/example/ispol/ispol/walls/Transparency" "OPAQUE" "Lcom/example/ispol/ispol/walls/Transparency;" (.ref (s_OPAQUE Z)) ∧ Exa Z Z.heap (s_OPAQUE Z) "com/example/ispol/ispol/walls/Transparency" := sta_ref ((and_e (and_e (and_e (and_e (and_e (and_e (and_e (and_e G.2.2.2.1).2).2).2).2).2).2).2).1) ⟨(wk G 29 rfl), (wk G 45 rfl)⟩
theorem len_lt {args : Array Value} {first s : State} {o : Option Outcome} {idx : List Nat} {t : Term} {y : Addr} {cl : Cell} {n : Int32} (ht : t.eval args first o idx s = some (.ref y)) (ha : s.arrayAt? y = some cl) (q : (Term.length t).eval args first o idx s = some (.int n)) : cl.slots.size < 2 ^ 31 ∧ cl.slots.size.toInt32 = n := by
  by_cases r : cl.slots.size < 2 ^ 31
  · rw [len_f ht ha r] at q
    cases q
    exact ⟨r, rfl⟩
  · simp [Term.eval, ht, ha, r] at q
theorem hasn {c : Cell} {i : Nat} : HasL c i [] := trivial
theorem hasc {c : Cell} {i : Nat} {j : Int32} {v : Value} {r : List Value} (h : c.slots[j.toNatClampNeg]? = some v) (hj : j.toNatClampNeg = i) (q : HasL c (i + 1) r) : HasL c i (v :: r) := ⟨hj ▸ h, q⟩
theorem eqv_r {Z : State} {args : Array Value} {X F : Term} {y : Addr} (hF : F.eval args Z none [] Z = some (.ref y)) (h : (Jvm.Cond.eq X F).value args Z none Z [] = some true) : X.eval args Z none [] Z = some (.ref y) := by
  obtain ⟨x, y', e1, e2, k1, k2⟩ := cmp_v (Or.inl h)
  cases hF.symm.trans e2
  have hx : x.isRef = true := k2.2
  have r : some (decide (x = Value.ref y)) = some true := (eq_R e1 hF hx rfl).symm.trans h
  have r2 : x = Value.ref y := of_decide_eq_true (Option.some.inj r)
  rw [e1, r2]
theorem arr_pin {Z : State} {a0 : Array Value} (hf : Fit Z) {t : Term} {b : Addr} {ty : FieldType} (ev : t.eval a0 Z none [] Z = some (.ref b)) (x3 : (Jvm.Cond.arrayOf t ty).value a0 Z none Z [] = some true) {n : Int32} (x4 : (Jvm.Cond.eq (.length t) (.int n)).value a0 Z none Z [] = some true) (hn : ¬ n < 0) {vs : List Value} (hl : n.toNatClampNeg = vs.length) (he : ∀ cl : Cell, (∀ (j : Int32) (v : Value), ¬ j < 0 → (Term.elem t (.int j)).eval a0 Z none [] Z = some v → cl.slots[j.toNatClampNeg]? = some v) → HasL cl 0 vs) {dv : Value} : ∃ k, Arv Z Z.heap b k ty n vs dv := by
  obtain ⟨cl, A⟩ := Arr.start ev x3
  have q := eqv_i (Term.int_eval n) x4
  have ha : Z.arrayAt? b = some cl := A.fin (Vm.Alike.refl _)
  obtain ⟨l1, l2⟩ := len_lt ev ha q
  exact ⟨cl.cls, Arv.start hf A l1 l2 hn hl (he cl fun j v hj h => by rw [elem_f ev (Term.int_eval j) ha hj] at h; exact h)⟩
theorem str_pin {Z : State} {a0 : Array Value} (hf : Fit Z) {t : Term} {w : Addr} (ev : t.eval a0 Z none [] Z = some (.ref w)) (x1 : (Jvm.Cond.exactly t "java/lang/String").value a0 Z none Z [] = some true) (x2 : (Jvm.Cond.eq (.field t "java/lang/String" "coder" "B") (.int 0)).value a0 Z none Z [] = some true) (x3 : (Jvm.Cond.arrayOf (.field t "java/lang/String" "value" "[B") .byte).value a0 Z none Z [] = some true) {n : Int32} (x4 : (Jvm.Cond.eq (.length (.field t "java/lang/String" "value" "[B")) (.int n)).value a0 Z none Z [] = some true) (hn : ¬ n < 0) {cs : List Int32} {vs : List Value} (hvs : (cs.map fun c => c.toInt8.toInt32).map Value.int = vs) (hl : n.toNatClampNeg = vs.length) (hcn : Int32.ofNat cs.length = n) (hc : ∀ c ∈ cs, C8 c) (hlen : cs.length ≤ 4000)
    (he : ∀ cl : Cell, (∀ (j : Int32) (v : Value), ¬ j < 0 → (Term.elem (.field t "java/lang/String" "value" "[B") (.int j)).eval a0 Z none [] Z = some v → cl.slots[j.toNatClampNeg]? = some v) → HasL cl 0 vs) : Str Z Z.heap w cs := by
  obtain ⟨b, eb⟩ := arr_v x3
  obtain ⟨k, A⟩ := arr_pin hf eb x3 x4 hn hl he (dv := .int 0)
  have ec := eqv_i (Term.int_eval 0) x2
  rw [fld_at ev] at ec
  rw [fld_at ev] at eb
  subst hvs hcn
  exact ⟨b, k, Exa.start ev x1, Fld.start eb, Fld.start ec, A, hc, hlen⟩
theorem ev_ref {Z : State} {a0 : Array Value} {C n d K : String} (q : (Jvm.Cond.exactly (.static C n d) K).value a0 Z none Z [] = some true) : (Term.static C n d).eval a0 Z none [] Z = some (.ref (sa Z C n d)) := by
  obtain ⟨y, e1⟩ := exa_v q
  have r : sa Z C n d = y := by
    unfold sa
    rw [show (Term.static C n d).eval #[] Z none [] Z = some (.ref y) from e1]
    rfl
  rw [r]; exact e1
def w_TRANSPARENT (Z : State) : Addr := (((Term.field (Term.static "com/example/ispol/ispol/walls/Transparency" "TRANSPARENT" "Lcom/example/ispol/ispol/walls/Transparency;") "com/example/ispol/ispol/walls/Transparency" "word" "Ljava/lang/String;").eval #[] Z none [] Z).bind refO).getD 0
theorem wd_TRANSPARENT {Z : State} {a0 : Array Value} (G : GH Z a0) : Fld Z Z.heap (s_TRANSPARENT Z) "com/example/ispol/ispol/walls/Transparency" "word" "Ljava/lang/String;" (.ref (w_TRANSPARENT Z)) ∧ Str Z Z.heap (w_TRANSPARENT Z) [(116 : Int32), (114 : Int32), (97 : Int32), (110 : Int32), (115 : Int32), (112 : Int32), (97 : Int32), (114 : Int32), (101 : Int32), (110 : Int32), (116 : Int32)] := by
  have hS := ev_ref ((and_e (and_e (and_e (and_e G.2.2.2.1).2).2).2).1)
  obtain ⟨y, e1⟩ := exa_v ((and_e (and_e (and_e (and_e (and_e (and_e (and_e (and_e (and_e (and_e G.2.2.2.1).2).2).2).2).2).2).2).2).2).1)
  have r : w_TRANSPARENT Z = y := by
    unfold w_TRANSPARENT
    rw [show (Term.field (Term.static "com/example/ispol/ispol/walls/Transparency" "TRANSPARENT" "Lcom/example/ispol/ispol/walls/Transparency;") "com/example/ispol/ispol/walls/Transparency" "word" "Ljava/lang/String;").eval #[] Z none [] Z = some (.ref y) from e1]
    rfl
  rw [r]
  refine ⟨Fld.start ?_, str_pin G.2.2.2.2 e1 ((and_e (and_e (and_e (and_e (and_e (and_e (and_e (and_e (and_e (and_e G.2.2.2.1).2).2).2).2).2).2).2).2).2).1) ((and_e (and_e (and_e (and_e (and_e (and_e (and_e (and_e (and_e (and_e (and_e G.2.2.2.1).2).2).2).2).2).2).2).2).2).2).1) ((and_e (and_e (and_e (and_e (and_e (and_e (and_e (and_e (and_e (and_e (and_e (and_e G.2.2.2.1).2).2).2).2).2).2).2).2).2).2).2).1) ((and_e (and_e (and_e (and_e (and_e (and_e (and_e (and_e (and_e (and_e (and_e (and_e (and_e G.2.2.2.1).2).2).2).2).2).2).2).2).2).2).2).2).1) (by decide) (vs := [(.int (116 : Int32)), (.int (114 : Int32)), (.int (97 : Int32)), (.int (110 : Int32)), (.int (115 : Int32)), (.int (112 : Int32)), (.int (97 : Int32)), (.int (114 : Int32)), (.int (101 : Int32)), (.int (110 : Int32)), (.int (116 : Int32))]) (by decide) rfl rfl (by decide) (by decide) (fun cl g => (hasc (g 0 _ (by decide) (eqv_i (Term.int_eval 116) ((and_e (and_e (and_e (and_e (and_e (and_e (and_e (and_e (and_e (and_e (and_e (and_e (and_e (and_e (and_e (and_e (and_e (and_e (and_e (and_e (and_e (and_e G.2.2.2.1).2).2).2).2).2).2).2).2).2).2).2).2).2).2).2).2).2).2).2).2).2).1))) rfl (hasc (g 1 _ (by decide) (eqv_i (Term.int_eval 114) ((and_e (and_e (and_e (and_e (and_e (and_e (and_e (and_e (and_e (and_e (and_e (and_e (and_e (and_e (and_e (and_e (and_e (and_e (and_e (and_e (and_e (and_e (and_e G.2.2.2.1).2).2).2).2).2).2).2).2).2).2).2).2).2).2).2).2).2).2).2).2).2).2).1))) rfl (hasc (g 2 _ (by decide) (eqv_i (Term.int_eval 97) ((and_e (and_e (and_e (and_e (and_e (and_e (and_e (and_e (and_e (and_e (and_e (and_e (and_e (and_e (and_e (and_e (and_e (and_e (and_e (and_e (and_e (and_e (and_e (and_e G.2.2.2.1).2).2).2).2).2).2).2).2).2).2).2).2).2).2).2).2).2).2).2).2).2).2).2).1))) rfl (hasc (g 3 _ (by decide) (eqv_i (Term.int_eval 110) ((and_e (and_e (and_e (and_e (and_e (and_e (and_e (and_e (and_e (and_e (and_e (and_e (and_e (and_e (and_e (and_e (and_e (and_e (and_e (and_e (and_e (and_e (and_e (and_e (and_e G.2.2.2.1).2).2).2).2).2).2).2).2).2).2).2).2).2).2).2).2).2).2).2).2).2).2).2).2).1))) rfl (hasc (g 4 _ (by decide) (eqv_i (Term.int_eval 115) ((and_e (and_e (and_e (and_e (and_e (and_e (and_e (and_e (and_e (and_e (and_e (and_e (and_e (and_e (and_e (and_e (and_e (and_e (and_e (and_e (and_e (and_e (and_e (and_e (and_e (and_e G.2.2.2.1).2).2).2).2).2).2).2).2).2).2).2).2).2).2).2).2).2).2).2).2).2).2).2).2).2).1))) rfl (hasc (g 5 _ (by decide) (eqv_i (Term.int_eval 112) ((and_e (and_e (and_e (and_e (and_e (and_e (and_e (and_e (and_e (and_e (and_e (and_e (and_e (and_e (and_e (and_e (and_e (and_e (and_e (and_e (and_e (and_e (and_e (and_e (and_e (and_e (and_e G.2.2.2.1).2).2).2).2).2).2).2).2).2).2).2).2).2).2).2).2).2).2).2).2).2).2).2).2).2).2).1))) rfl (hasc (g 6 _ (by decide) (eqv_i (Term.int_eval 97) ((and_e (and_e (and_e (and_e (and_e (and_e (and_e (and_e (and_e (and_e (and_e (and_e (and_e (and_e (and_e (and_e (and_e (and_e (and_e (and_e (and_e (and_e (and_e (and_e (and_e (and_e (and_e (and_e G.2.2.2.1).2).2).2).2).2).2).2).2).2).2).2).2).2).2).2).2).2).2).2).2).2).2).2).2).2).2).2).1))) rfl (hasc (g 7 _ (by decide) (eqv_i (Term.int_eval 114) ((and_e (and_e (and_e (and_e (and_e (and_e (and_e (and_e (and_e (and_e (and_e (and_e (and_e (and_e (and_e (and_e (and_e (and_e (and_e (and_e (and_e (and_e (and_e (and_e (and_e (and_e (and_e (and_e (and_e G.2.2.2.1).2).2).2).2).2).2).2).2).2).2).2).2).2).2).2).2).2).2).2).2).2).2).2).2).2).2).2).2).1))) rfl (hasc (g 8 _ (by decide) (eqv_i (Term.int_eval 101) ((and_e (and_e (and_e (and_e (and_e (and_e (and_e (and_e (and_e (and_e (and_e (and_e (and_e (and_e (and_e (and_e (and_e (and_e (and_e (and_e (and_e (and_e (and_e (and_e (and_e (and_e (and_e (and_e (and_e (and_e G.2.2.2.1).2).2).2).2).2).2).2).2).2).2).2).2).2).2).2).2).2).2).2).2).2).2).2).2).2).2).2).2).2).1))) rfl (hasc (g 9 _ (by decide) (eqv_i (Term.int_eval 110) ((and_e (and_e (and_e (and_e (and_e (and_e (and_e (and_e (and_e (and_e (and_e (and_e (and_e (and_e (and_e (and_e (and_e (and_e (and_e (and_e (and_e (and_e (and_e (and_e (and_e (and_e (and_e (and_e (and_e (and_e (and_e G.2.2.2.1).2).2).2).2).2).2).2).2).2).2).2).2).2).2).2).2).2).2).2).2).2).2).2).2).2).2).2).2).2).2).1))) rfl (hasc (g 10 _ (by decide) (eqv_i (Term.int_eval 116) ((and_e (and_e (and_e (and_e (and_e (and_e (and_e (and_e (and_e (and_e (and_e (and_e (and_e (and_e (and_e (and_e (and_e (and_e (and_e (and_e (and_e (and_e (and_e (and_e (and_e (and_e (and_e (and_e (and_e (and_e (and_e (and_e G.2.2.2.1).2).2).2).2).2).2).2).2).2).2).2).2).2).2).2).2).2).2).2).2).2).2).2).2).2).2).2).2).2).2).2).1))) rfl hasn))))))))))))⟩
  rw [fld_at hS] at e1
  exact e1
def w_TRANSLUCENT (Z : State) : Addr := (((Term.field (Term.static "com/example/ispol/ispol/walls/Transparency" "TRANSLUCENT" "Lcom/example/ispol/ispol/walls/Transparency;") "com/example/ispol/ispol/walls/Transparency" "word" "Ljava/lang/String;").eval #[] Z none [] Z).bind refO).getD 0
theorem wd_TRANSLUCENT {Z : State} {a0 : Array Value} (G : GH Z a0) : Fld Z Z.heap (s_TRANSLUCENT Z) "com/example/ispol/ispol/walls/Transparency" "word" "Ljava/lang/String;" (.ref (w_TRANSLUCENT Z)) ∧ Str Z Z.heap (w_TRANSLUCENT Z) [(116 : Int32), (114 : Int32), (97 : Int32), (110 : Int32), (115 : Int32), (108 : Int32), (117 : Int32), (99 : Int32), (101 : Int32), (110 : Int32), (116 : Int32)] := by
  have hS := ev_ref ((and_e (and_e (and_e (and_e (and_e (and_e G.2.2.2.1).2).2).2).2).2).1)
  obtain ⟨y, e1⟩ := exa_v ((and_e (and_e (and_e (and_e (and_e (and_e (and_e (and_e (and_e (and_e (and_e (and_e (and_e (and_e G.2.2.2.1).2).2).2).2).2).2).2).2).2).2).2).2).2).1)
  have r : w_TRANSLUCENT Z = y := by
    unfold w_TRANSLUCENT
    rw [show (Term.field (Term.static "com/example/ispol/ispol/walls/Transparency" "TRANSLUCENT" "Lcom/example/ispol/ispol/walls/Transparency;") "com/example/ispol/ispol/walls/Transparency" "word" "Ljava/lang/String;").eval #[] Z none [] Z = some (.ref y) from e1]
    rfl
  rw [r]
  refine ⟨Fld.start ?_, str_pin G.2.2.2.2 e1 ((and_e (and_e (and_e (and_e (and_e (and_e (and_e (and_e (and_e (and_e (and_e (and_e (and_e (and_e G.2.2.2.1).2).2).2).2).2).2).2).2).2).2).2).2).2).1) ((and_e (and_e (and_e (and_e (and_e (and_e (and_e (and_e (and_e (and_e (and_e (and_e (and_e (and_e (and_e G.2.2.2.1).2).2).2).2).2).2).2).2).2).2).2).2).2).2).1) ((and_e (and_e (and_e (and_e (and_e (and_e (and_e (and_e (and_e (and_e (and_e (and_e (and_e (and_e (and_e (and_e G.2.2.2.1).2).2).2).2).2).2).2).2).2).2).2).2).2).2).2).1) ((and_e (and_e (and_e (and_e (and_e (and_e (and_e (and_e (and_e (and_e (and_e (and_e (and_e (and_e (and_e (and_e (and_e G.2.2.2.1).2).2).2).2).2).2).2).2).2).2).2).2).2).2).2).2).1) (by decide) (vs := [(.int (116 : Int32)), (.int (114 : Int32)), (.int (97 : Int32)), (.int (110 : Int32)), (.int (115 : Int32)), (.int (108 : Int32)), (.int (117 : Int32)), (.int (99 : Int32)), (.int (101 : Int32)), (.int (110 : Int32)), (.int (116 : Int32))]) (by decide) rfl rfl (by decide) (by decide) (fun cl g => (hasc (g 0 _ (by decide) (eqv_i (Term.int_eval 116) ((and_e (and_e (and_e (and_e (and_e (and_e (and_e (and_e (and_e (and_e (and_e (and_e (and_e (and_e (and_e (and_e (and_e (and_e (and_e (and_e (and_e (and_e (and_e (and_e (and_e (and_e (and_e (and_e (and_e (and_e (and_e (and_e (and_e G.2.2.2.1).2).2).2).2).2).2).2).2).2).2).2).2).2).2).2).2).2).2).2).2).2).2).2).2).2).2).2).2).2).2).2).2).1))) rfl (hasc (g 1 _ (by decide) (eqv_i (Term.int_eval 114) ((and_e (and_e (and_e (and_e (and_e (and_e (and_e (and_e (and_e (and_e (and_e (and_e (and_e (and_e (and_e (and_e (and_e (and_e (and_e (and_e (and_e (and_e (and_e (and_e (and_e (and_e (and_e (and_e (and_e (and_e (and_e (and_e (and_e (and_e G.2.2.2.1).2).2).2).2).2).2).2).2).2).2).2).2).2).2).2).2).2).2).2).2).2).2).2).2).2).2).2).2).2).2).2).2).2).1))) rfl (hasc (g 2 _ (by decide) (eqv_i (Term.int_eval 97) ((and_e (and_e (and_e (and_e (and_e (and_e (and_e (and_e (and_e (and_e (and_e (and_e (and_e (and_e (and_e (and_e (and_e (and_e (and_e (and_e (and_e (and_e (and_e (and_e (and_e (and_e (and_e (and_e (and_e (and_e (and_e (and_e (and_e (and_e (and_e G.2.2.2.1).2).2).2).2).2).2).2).2).2).2).2).2).2).2).2).2).2).2).2).2).2).2).2).2).2).2).2).2).2).2).2).2).2).2).1))) rfl (hasc (g 3 _ (by decide) (eqv_i (Term.int_eval 110) ((and_e (and_e (and_e (and_e (and_e (and_e (and_e (and_e (and_e (and_e (and_e (and_e (and_e (and_e (and_e (and_e (and_e (and_e (and_e (and_e (and_e (and_e (and_e (and_e (and_e (and_e (and_e (and_e (and_e (and_e (and_e (and_e (and_e (and_e (and_e (and_e G.2.2.2.1).2).2).2).2).2).2).2).2).2).2).2).2).2).2).2).2).2).2).2).2).2).2).2).2).2).2).2).2).2).2).2).2).2).2).2).1))) rfl (hasc (g 4 _ (by decide) (eqv_i (Term.int_eval 115) ((and_e (and_e (and_e (and_e (and_e (and_e (and_e (and_e (and_e (and_e (and_e (and_e (and_e (and_e (and_e (and_e (and_e (and_e (and_e (and_e (and_e (and_e (and_e (and_e (and_e (and_e (and_e (and_e (and_e (and_e (and_e (and_e (and_e (and_e (and_e (and_e (and_e G.2.2.2.1).2).2).2).2).2).2).2).2).2).2).2).2).2).2).2).2).2).2).2).2).2).2).2).2).2).2).2).2).2).2).2).2).2).2).2).2).1))) rfl (hasc (g 5 _ (by decide) (eqv_i (Term.int_eval 108) ((and_e (and_e (and_e (and_e (and_e (and_e (and_e (and_e (and_e (and_e (and_e (and_e (and_e (and_e (and_e (and_e (and_e (and_e (and_e (and_e (and_e (and_e (and_e (and_e (and_e (and_e (and_e (and_e (and_e (and_e (and_e (and_e (and_e (and_e (and_e (and_e (and_e (and_e G.2.2.2.1).2).2).2).2).2).2).2).2).2).2).2).2).2).2).2).2).2).2).2).2).2).2).2).2).2).2).2).2).2).2).2).2).2).2).2).2).2).1))) rfl (hasc (g 6 _ (by decide) (eqv_i (Term.int_eval 117) ((and_e (and_e (and_e (and_e (and_e (and_e (and_e (and_e (and_e (and_e (and_e (and_e (and_e (and_e (and_e (and_e (and_e (and_e (and_e (and_e (and_e (and_e (and_e (and_e (and_e (and_e (and_e (and_e (and_e (and_e (and_e (and_e (and_e (and_e (and_e (and_e (and_e (and_e (and_e G.2.2.2.1).2).2).2).2).2).2).2).2).2).2).2).2).2).2).2).2).2).2).2).2).2).2).2).2).2).2).2).2).2).2).2).2).2).2).2).2).2).2).1))) rfl (hasc (g 7 _ (by decide) (eqv_i (Term.int_eval 99) ((and_e (and_e (and_e (and_e (and_e (and_e (and_e (and_e (and_e (and_e (and_e (and_e (and_e (and_e (and_e (and_e (and_e (and_e (and_e (and_e (and_e (and_e (and_e (and_e (and_e (and_e (and_e (and_e (and_e (and_e (and_e (and_e (and_e (and_e (and_e (and_e (and_e (and_e (and_e (and_e G.2.2.2.1).2).2).2).2).2).2).2).2).2).2).2).2).2).2).2).2).2).2).2).2).2).2).2).2).2).2).2).2).2).2).2).2).2).2).2).2).2).2).2).1))) rfl (hasc (g 8 _ (by decide) (eqv_i (Term.int_eval 101) ((and_e (and_e (and_e (and_e (and_e (and_e (and_e (and_e (and_e (and_e (and_e (and_e (and_e (and_e (and_e (and_e (and_e (and_e (and_e (and_e (and_e (and_e (and_e (and_e (and_e (and_e (and_e (and_e (and_e (and_e (and_e (and_e (and_e (and_e (and_e (and_e (and_e (and_e (and_e (and_e (and_e G.2.2.2.1).2).2).2).2).2).2).2).2).2).2).2).2).2).2).2).2).2).2).2).2).2).2).2).2).2).2).2).2).2).2).2).2).2).2).2).2).2).2).2).2).1))) rfl (hasc (g 9 _ (by decide) (eqv_i (Term.int_eval 110) ((and_e (and_e (and_e (and_e (and_e (and_e (and_e (and_e (and_e (and_e (and_e (and_e (and_e (and_e (and_e (and_e (and_e (and_e (and_e (and_e (and_e (and_e (and_e (and_e (and_e (and_e (and_e (and_e (and_e (and_e (and_e (and_e (and_e (and_e (and_e (and_e (and_e (and_e (and_e (and_e (and_e (and_e G.2.2.2.1).2).2).2).2).2).2).2).2).2).2).2).2).2).2).2).2).2).2).2).2).2).2).2).2).2).2).2).2).2).2).2).2).2).2).2).2).2).2).2).2).2).1))) rfl (hasc (g 10 _ (by decide) (eqv_i (Term.int_eval 116) ((and_e (and_e (and_e (and_e (and_e (and_e (and_e (and_e (and_e (and_e (and_e (and_e (and_e (and_e (and_e (and_e (and_e (and_e (and_e (and_e (and_e (and_e (and_e (and_e (and_e (and_e (and_e (and_e (and_e (and_e (and_e (and_e (and_e (and_e (and_e (and_e (and_e (and_e (and_e (and_e (and_e (and_e (and_e G.2.2.2.1).2).2).2).2).2).2).2).2).2).2).2).2).2).2).2).2).2).2).2).2).2).2).2).2).2).2).2).2).2).2).2).2).2).2).2).2).2).2).2).2).2).2).1))) rfl hasn))))))))))))⟩
  rw [fld_at hS] at e1
  exact e1
def w_OPAQUE (Z : State) : Addr := (((Term.field (Term.static "com/example/ispol/ispol/walls/Transparency" "OPAQUE" "Lcom/example/ispol/ispol/walls/Transparency;") "com/example/ispol/ispol/walls/Transparency" "word" "Ljava/lang/String;").eval #[] Z none [] Z).bind refO).getD 0
theorem wd_OPAQUE {Z : State} {a0 : Array Value} (G : GH Z a0) : Fld Z Z.heap (s_OPAQUE Z) "com/example/ispol/ispol/walls/Transparency" "word" "Ljava/lang/String;" (.ref (w_OPAQUE Z)) ∧ Str Z Z.heap (w_OPAQUE Z) [(111 : Int32), (112 : Int32), (97 : Int32), (113 : Int32), (117 : Int32), (101 : Int32)] := by
  have hS := ev_ref ((and_e (and_e (and_e (and_e (and_e (and_e (and_e (and_e G.2.2.2.1).2).2).2).2).2).2).2).1)
  obtain ⟨y, e1⟩ := exa_v ((and_e (and_e (and_e (and_e (and_e (and_e (and_e (and_e (and_e (and_e (and_e (and_e (and_e (and_e (and_e (and_e (and_e (and_e G.2.2.2.1).2).2).2).2).2).2).2).2).2).2).2).2).2).2).2).2).2).1)
  have r : w_OPAQUE Z = y := by
    unfold w_OPAQUE
    rw [show (Term.field (Term.static "com/example/ispol/ispol/walls/Transparency" "OPAQUE" "Lcom/example/ispol/ispol/walls/Transparency;") "com/example/ispol/ispol/walls/Transparency" "word" "Ljava/lang/String;").eval #[] Z none [] Z = some (.ref y) from e1]
    rfl
  rw [r]
  refine ⟨Fld.start ?_, str_pin G.2.2.2.2 e1 ((and_e (and_e (and_e (and_e (and_e (and_e (and_e (and_e (and_e (and_e (and_e (and_e (and_e (and_e (and_e (and_e (and_e (and_e G.2.2.2.1).2).2).2).2).2).2).2).2).2).2).2).2).2).2).2).2).2).1) ((and_e (and_e (and_e (and_e (and_e (and_e (and_e (and_e (and_e (and_e (and_e (and_e (and_e (and_e (and_e (and_e (and_e (and_e (and_e G.2.2.2.1).2).2).2).2).2).2).2).2).2).2).2).2).2).2).2).2).2).2).1) ((and_e (and_e (and_e (and_e (and_e (and_e (and_e (and_e (and_e (and_e (and_e (and_e (and_e (and_e (and_e (and_e (and_e (and_e (and_e (and_e G.2.2.2.1).2).2).2).2).2).2).2).2).2).2).2).2).2).2).2).2).2).2).2).1) ((and_e (and_e (and_e (and_e (and_e (and_e (and_e (and_e (and_e (and_e (and_e (and_e (and_e (and_e (and_e (and_e (and_e (and_e (and_e (and_e (and_e G.2.2.2.1).2).2).2).2).2).2).2).2).2).2).2).2).2).2).2).2).2).2).2).2).1) (by decide) (vs := [(.int (111 : Int32)), (.int (112 : Int32)), (.int (97 : Int32)), (.int (113 : Int32)), (.int (117 : Int32)), (.int (101 : Int32))]) (by decide) rfl rfl (by decide) (by decide) (fun cl g => (hasc (g 0 _ (by decide) (eqv_i (Term.int_eval 111) ((and_e (and_e (and_e (and_e (and_e (and_e (and_e (and_e (and_e (and_e (and_e (and_e (and_e (and_e (and_e (and_e (and_e (and_e (and_e (and_e (and_e (and_e (and_e (and_e (and_e (and_e (and_e (and_e (and_e (and_e (and_e (and_e (and_e (and_e (and_e (and_e (and_e (and_e (and_e (and_e (and_e (and_e (and_e (and_e G.2.2.2.1).2).2).2).2).2).2).2).2).2).2).2).2).2).2).2).2).2).2).2).2).2).2).2).2).2).2).2).2).2).2).2).2).2).2).2).2).2).2).2).2).2).2).2).1))) rfl (hasc (g 1 _ (by decide) (eqv_i (Term.int_eval 112) ((and_e (and_e (and_e (and_e (and_e (and_e (and_e (and_e (and_e (and_e (and_e (and_e (and_e (and_e (and_e (and_e (and_e (and_e (and_e (and_e (and_e (and_e (and_e (and_e (and_e (and_e (and_e (and_e (and_e (and_e (and_e (and_e (and_e (and_e (and_e (and_e (and_e (and_e (and_e (and_e (and_e (and_e (and_e (and_e (and_e G.2.2.2.1).2).2).2).2).2).2).2).2).2).2).2).2).2).2).2).2).2).2).2).2).2).2).2).2).2).2).2).2).2).2).2).2).2).2).2).2).2).2).2).2).2).2).2).2).1))) rfl (hasc (g 2 _ (by decide) (eqv_i (Term.int_eval 97) ((and_e (and_e (and_e (and_e (and_e (and_e (and_e (and_e (and_e (and_e (and_e (and_e (and_e (and_e (and_e (and_e (and_e (and_e (and_e (and_e (and_e (and_e (and_e (and_e (and_e (and_e (and_e (and_e (and_e (and_e (and_e (and_e (and_e (and_e (and_e (and_e (and_e (and_e (and_e (and_e (and_e (and_e (and_e (and_e (and_e (and_e G.2.2.2.1).2).2).2).2).2).2).2).2).2).2).2).2).2).2).2).2).2).2).2).2).2).2).2).2).2).2).2).2).2).2).2).2).2).2).2).2).2).2).2).2).2).2).2).2).2).1))) rfl (hasc (g 3 _ (by decide) (eqv_i (Term.int_eval 113) ((and_e (and_e (and_e (and_e (and_e (and_e (and_e (and_e (and_e (and_e (and_e (and_e (and_e (and_e (and_e (and_e (and_e (and_e (and_e (and_e (and_e (and_e (and_e (and_e (and_e (and_e (and_e (and_e (and_e (and_e (and_e (and_e (and_e (and_e (and_e (and_e (and_e (and_e (and_e (and_e (and_e (and_e (and_e (and_e (and_e (and_e (and_e G.2.2.2.1).2).2).2).2).2).2).2).2).2).2).2).2).2).2).2).2).2).2).2).2).2).2).2).2).2).2).2).2).2).2).2).2).2).2).2).2).2).2).2).2).2).2).2).2).2).2).1))) rfl (hasc (g 4 _ (by decide) (eqv_i (Term.int_eval 117) ((and_e (and_e (and_e (and_e (and_e (and_e (and_e (and_e (and_e (and_e (and_e (and_e (and_e (and_e (and_e (and_e (and_e (and_e (and_e (and_e (and_e (and_e (and_e (and_e (and_e (and_e (and_e (and_e (and_e (and_e (and_e (and_e (and_e (and_e (and_e (and_e (and_e (and_e (and_e (and_e (and_e (and_e (and_e (and_e (and_e (and_e (and_e (and_e G.2.2.2.1).2).2).2).2).2).2).2).2).2).2).2).2).2).2).2).2).2).2).2).2).2).2).2).2).2).2).2).2).2).2).2).2).2).2).2).2).2).2).2).2).2).2).2).2).2).2).2).1))) rfl (hasc (g 5 _ (by decide) (eqv_i (Term.int_eval 101) ((and_e (and_e (and_e (and_e (and_e (and_e (and_e (and_e (and_e (and_e (and_e (and_e (and_e (and_e (and_e (and_e (and_e (and_e (and_e (and_e (and_e (and_e (and_e (and_e (and_e (and_e (and_e (and_e (and_e (and_e (and_e (and_e (and_e (and_e (and_e (and_e (and_e (and_e (and_e (and_e (and_e (and_e (and_e (and_e (and_e (and_e (and_e (and_e G.2.2.2.1).2).2).2).2).2).2).2).2).2).2).2).2).2).2).2).2).2).2).2).2).2).2).2).2).2).2).2).2).2).2).2).2).2).2).2).2).2).2).2).2).2).2).2).2).2).2).2).2))) rfl hasn)))))))⟩
  rw [fld_at hS] at e1
  exact e1
theorem ar_VALUES {Z : State} {a0 : Array Value} (G : GH Z a0) : ∃ k, Arv Z Z.heap (s__VALUES Z) k (.object "com/example/ispol/ispol/walls/Transparency") (3 : Int32) [(.ref (s_TRANSPARENT Z)), (.ref (s_TRANSLUCENT Z)), (.ref (s_OPAQUE Z))] .null :=
  arr_pin G.2.2.2.2 (ev_ref ((and_e (and_e G.2.2.2.1).2).1)) ((and_e G.2.2.2.1).1) ((and_e (and_e (and_e G.2.2.2.1).2).2).1) (by decide) rfl (fun cl g => (hasc (g 0 _ (by decide) (eqv_r (ev_ref ((and_e (and_e (and_e (and_e G.2.2.2.1).2).2).2).1)) ((and_e (and_e (and_e (and_e (and_e G.2.2.2.1).2).2).2).2).1))) rfl (hasc (g 1 _ (by decide) (eqv_r (ev_ref ((and_e (and_e (and_e (and_e (and_e (and_e G.2.2.2.1).2).2).2).2).2).1)) ((and_e (and_e (and_e (and_e (and_e (and_e (and_e G.2.2.2.1).2).2).2).2).2).2).1))) rfl (hasc (g 2 _ (by decide) (eqv_r (ev_ref ((and_e (and_e (and_e (and_e (and_e (and_e (and_e (and_e G.2.2.2.1).2).2).2).2).2).2).2).1)) ((and_e (and_e (and_e (and_e (and_e (and_e (and_e (and_e (and_e G.2.2.2.1).2).2).2).2).2).2).2).2).1))) rfl hasn))))
theorem d1_0 : decode jdk_42_method_66_code 0 = .ok (.aload_n 0, 1) := by decide +kernel
theorem d1_1 : decode jdk_42_method_66_code 1 = .ok (.aload_n 1, 1) := by decide +kernel
theorem d1_2 : decode jdk_42_method_66_code 2 = .ok (.if_acmp .ne 5, 3) := by decide +kernel
theorem d1_5 : decode jdk_42_method_66_code 5 = .ok (.iconst 1, 1) := by decide +kernel
theorem d1_6 : decode jdk_42_method_66_code 6 = .ok (.ireturn, 1) := by decide +kernel
theorem pn1 : plainName "java/lang/String" = true := by first | (simp [plainName, overriddenIn]; done) | decide +kernel
theorem d1_7 : decode jdk_42_method_66_code 7 = .ok (.aload_n 1, 1) := by decide +kernel
theorem d1_8 : decode jdk_42_method_66_code 8 = .ok (.instanceof 10, 3) := by decide +kernel
theorem d1_11 : decode jdk_42_method_66_code 11 = .ok (.ifCond .eq 43, 3) := by decide +kernel
theorem d1_54 : decode jdk_42_method_66_code 54 = .ok (.iconst 0, 1) := by decide +kernel
theorem d1_55 : decode jdk_42_method_66_code 55 = .ok (.ireturn, 1) := by decide +kernel
theorem d2_0 : decode prog_21_method_1_code 0 = .ok (.getstatic 13, 3) := by decide +kernel
theorem d2_3 : decode prog_21_method_1_code 3 = .ok (.invokevirtual 17, 3) := by decide +kernel
theorem d2_6 : decode prog_21_method_1_code 6 = .ok (.checkcast 18, 3) := by decide +kernel
theorem d2_9 : decode prog_21_method_1_code 9 = .ok (.areturn, 1) := by decide +kernel
theorem pn2 : plainName "com/example/ispol/ispol/walls/Transparency" = true := by first | (simp [plainName, overriddenIn]; done) | decide +kernel
theorem d3_0 : decode prog_21_method_4_code 0 = .ok (.aconst_null, 1) := by decide +kernel
theorem d3_1 : decode prog_21_method_4_code 1 = .ok (.astore_n 1, 1) := by decide +kernel
theorem pd1 : parseMethodDescriptor "()[Lcom/example/ispol/ispol/walls/Transparency;" = some ⟨[], some (.array (.object "com/example/ispol/ispol/walls/Transparency"))⟩ := by decide +kernel
theorem d3_2 : decode prog_21_method_4_code 2 = .ok (.invokestatic 36, 3) := by decide +kernel
theorem d3_5 : decode prog_21_method_4_code 5 = .ok (.astore_n 2, 1) := by decide +kernel
theorem d3_6 : decode prog_21_method_4_code 6 = .ok (.aload_n 2, 1) := by decide +kernel
theorem d3_7 : decode prog_21_method_4_code 7 = .ok (.arraylength, 1) := by decide +kernel
theorem d3_8 : decode prog_21_method_4_code 8 = .ok (.istore_n 3, 1) := by decide +kernel
theorem d3_9 : decode prog_21_method_4_code 9 = .ok (.iconst 0, 1) := by decide +kernel
theorem d3_10 : decode prog_21_method_4_code 10 = .ok (.istore 4, 2) := by decide +kernel
theorem d3_12 : decode prog_21_method_4_code 12 = .ok (.iload 4, 2) := by decide +kernel
theorem d3_14 : decode prog_21_method_4_code 14 = .ok (.iload_n 3, 1) := by decide +kernel
theorem d3_15 : decode prog_21_method_4_code 15 = .ok (.if_icmp .ge 30, 3) := by decide +kernel
theorem d3_18 : decode prog_21_method_4_code 18 = .ok (.aload_n 2, 1) := by decide +kernel
theorem d3_19 : decode prog_21_method_4_code 19 = .ok (.iload 4, 2) := by decide +kernel
theorem d3_21 : decode prog_21_method_4_code 21 = .ok (.aaload, 1) := by decide +kernel
theorem d3_22 : decode prog_21_method_4_code 22 = .ok (.astore 5, 2) := by decide +kernel
theorem d3_24 : decode prog_21_method_4_code 24 = .ok (.aload 5, 2) := by decide +kernel
theorem d3_26 : decode prog_21_method_4_code 26 = .ok (.getfield 32, 3) := by decide +kernel
theorem d3_29 : decode prog_21_method_4_code 29 = .ok (.aload_n 0, 1) := by decide +kernel
theorem pd2 : parseMethodDescriptor "(Ljava/lang/Object;)Z" = some ⟨[(.object "java/lang/Object")], some .boolean⟩ := by decide +kernel
theorem d3_30 : decode prog_21_method_4_code 30 = .ok (.invokevirtual 40, 3) := by decide +kernel
theorem d3_33 : decode prog_21_method_4_code 33 = .ok (.ifCond .eq 6, 3) := by decide +kernel
theorem d3_36 : decode prog_21_method_4_code 36 = .ok (.aload 5, 2) := by decide +kernel
theorem d3_38 : decode prog_21_method_4_code 38 = .ok (.astore_n 1, 1) := by decide +kernel
theorem d3_39 : decode prog_21_method_4_code 39 = .ok (.iinc 4 1, 3) := by decide +kernel
theorem d3_42 : decode prog_21_method_4_code 42 = .ok (.goto (-30), 3) := by decide +kernel
theorem d3_45 : decode prog_21_method_4_code 45 = .ok (.aload_n 1, 1) := by decide +kernel
theorem d3_46 : decode prog_21_method_4_code 46 = .ok (.areturn, 1) := by decide +kernel
theorem d4_0 : decode jdk_43_method_3_code 0 = .ok (.iload_n 0, 1) := by decide +kernel
theorem d4_1 : decode jdk_43_method_3_code 1 = .ok (.sipush 255, 3) := by decide +kernel
theorem d4_4 : decode jdk_43_method_3_code 4 = .ok (.if_icmp .gt 7, 3) := by decide +kernel
theorem d4_7 : decode jdk_43_method_3_code 7 = .ok (.iconst 1, 1) := by decide +kernel
theorem d4_8 : decode jdk_43_method_3_code 8 = .ok (.goto 4, 3) := by decide +kernel
theorem d4_12 : decode jdk_43_method_3_code 12 = .ok (.ireturn, 1) := by decide +kernel
theorem pn3 : plainName "java/lang/StringLatin1" = true := by first | (simp [plainName, overriddenIn]; done) | decide +kernel
theorem d5_0 : decode jdk_43_method_46_code 0 = .ok (.iconst 1, 1) := by decide +kernel
theorem d5_1 : decode jdk_43_method_46_code 1 = .ok (.newarray .byte, 2) := by decide +kernel
theorem d5_3 : decode jdk_43_method_46_code 3 = .ok (.dup, 1) := by decide +kernel
theorem d5_4 : decode jdk_43_method_46_code 4 = .ok (.iconst 0, 1) := by decide +kernel
theorem d5_5 : decode jdk_43_method_46_code 5 = .ok (.iload_n 0, 1) := by decide +kernel
theorem d5_6 : decode jdk_43_method_46_code 6 = .ok (.i2b, 1) := by decide +kernel
theorem d5_7 : decode jdk_43_method_46_code 7 = .ok (.bastore, 1) := by decide +kernel
theorem d5_8 : decode jdk_43_method_46_code 8 = .ok (.areturn, 1) := by decide +kernel
theorem d6_0 : decode jdk_42_method_151_code 0 = .ok (.aload_n 0, 1) := by decide +kernel
theorem d6_1 : decode jdk_42_method_151_code 1 = .ok (.invokespecial 1, 3) := by decide +kernel
theorem d6_4 : decode jdk_42_method_151_code 4 = .ok (.aload_n 0, 1) := by decide +kernel
theorem d6_5 : decode jdk_42_method_151_code 5 = .ok (.aload_n 1, 1) := by decide +kernel
theorem d6_6 : decode jdk_42_method_151_code 6 = .ok (.putfield 9, 3) := by decide +kernel
theorem d6_9 : decode jdk_42_method_151_code 9 = .ok (.aload_n 0, 1) := by decide +kernel
theorem d6_10 : decode jdk_42_method_151_code 10 = .ok (.iload_n 2, 1) := by decide +kernel
theorem d6_11 : decode jdk_42_method_151_code 11 = .ok (.putfield 15, 3) := by decide +kernel
theorem d6_14 : decode jdk_42_method_151_code 14 = .ok (.return_, 1) := by decide +kernel
theorem d7_0 : decode jdk_42_method_139_code 0 = .ok (.getstatic 38, 3) := by decide +kernel
theorem d7_3 : decode jdk_42_method_139_code 3 = .ok (.ifCond .eq 23, 3) := by decide +kernel
theorem d7_6 : decode jdk_42_method_139_code 6 = .ok (.iload_n 0, 1) := by decide +kernel
theorem pd3 : parseMethodDescriptor "(C)Z" = some ⟨[.char], some .boolean⟩ := by decide +kernel
theorem d7_7 : decode jdk_42_method_139_code 7 = .ok (.invokestatic 1015, 3) := by decide +kernel
theorem d7_10 : decode jdk_42_method_139_code 10 = .ok (.ifCond .eq 16, 3) := by decide +kernel
theorem d7_13 : decode jdk_42_method_139_code 13 = .ok (.new 10, 3) := by decide +kernel
theorem d7_16 : decode jdk_42_method_139_code 16 = .ok (.dup, 1) := by decide +kernel
theorem d7_17 : decode jdk_42_method_139_code 17 = .ok (.iload_n 0, 1) := by decide +kernel
theorem pd4 : parseMethodDescriptor "(C)[B" = some ⟨[.char], some (.array .byte)⟩ := by decide +kernel
theorem d7_18 : decode jdk_42_method_139_code 18 = .ok (.invokestatic 1018, 3) := by decide +kernel
theorem d7_21 : decode jdk_42_method_139_code 21 = .ok (.iconst 0, 1) := by decide +kernel
theorem pd5 : parseMethodDescriptor "([BB)V" = some ⟨[(.array .byte), .byte], none⟩ := by decide +kernel
theorem d7_22 : decode jdk_42_method_139_code 22 = .ok (.invokespecial 209, 3) := by decide +kernel
theorem d7_25 : decode jdk_42_method_139_code 25 = .ok (.areturn, 1) := by decide +kernel
theorem d8_0 : decode jdk_42_method_149_code 0 = .ok (.aload_n 0, 1) := by decide +kernel
theorem d8_1 : decode jdk_42_method_149_code 1 = .ok (.invokespecial 1, 3) := by decide +kernel
theorem d8_4 : decode jdk_42_method_149_code 4 = .ok (.iload_n 3, 1) := by decide +kernel
theorem d8_5 : decode jdk_42_method_149_code 5 = .ok (.ifCond .ne 22, 3) := by decide +kernel
theorem d8_8 : decode jdk_42_method_149_code 8 = .ok (.aload_n 0, 1) := by decide +kernel
theorem d8_9 : decode jdk_42_method_149_code 9 = .ok (.ldc 7, 2) := by decide +kernel
theorem d8_11 : decode jdk_42_method_149_code 11 = .ok (.getfield 9, 3) := by decide +kernel
theorem d8_14 : decode jdk_42_method_149_code 14 = .ok (.putfield 9, 3) := by decide +kernel
theorem d8_17 : decode jdk_42_method_149_code 17 = .ok (.aload_n 0, 1) := by decide +kernel
theorem d8_18 : decode jdk_42_method_149_code 18 = .ok (.ldc 7, 2) := by decide +kernel
theorem d8_20 : decode jdk_42_method_149_code 20 = .ok (.getfield 15, 3) := by decide +kernel
theorem d8_23 : decode jdk_42_method_149_code 23 = .ok (.putfield 15, 3) := by decide +kernel
theorem d8_26 : decode jdk_42_method_149_code 26 = .ok (.return_, 1) := by decide +kernel
theorem d9_0 : decode jdk_42_method_3_code 0 = .ok (.aload_n 0, 1) := by decide +kernel
theorem d9_1 : decode jdk_42_method_3_code 1 = .ok (.aload_n 1, 1) := by decide +kernel
theorem d9_2 : decode jdk_42_method_3_code 2 = .ok (.iconst 0, 1) := by decide +kernel
theorem d9_3 : decode jdk_42_method_3_code 3 = .ok (.aload_n 1, 1) := by decide +kernel
theorem d9_4 : decode jdk_42_method_3_code 4 = .ok (.arraylength, 1) := by decide +kernel
theorem d9_5 : decode jdk_42_method_3_code 5 = .ok (.aconst_null, 1) := by decide +kernel
theorem pd6 : parseMethodDescriptor "([CIILjava/lang/Void;)V" = some ⟨[(.array .char), .int, .int, (.object "java/lang/Void")], none⟩ := by decide +kernel
theorem d9_6 : decode jdk_42_method_3_code 6 = .ok (.invokespecial 27, 3) := by decide +kernel
theorem d9_9 : decode jdk_42_method_3_code 9 = .ok (.return_, 1) := by decide +kernel
theorem d10_0 : decode method_5_code 0 = .ok (.aload_n 0, 1) := by decide +kernel
theorem d10_1 : decode method_5_code 1 = .ok (.ifnonnull 5, 3) := by decide +kernel
theorem d10_6 : decode method_5_code 6 = .ok (.aload_n 0, 1) := by decide +kernel
theorem d10_7 : decode method_5_code 7 = .ok (.ldc 46, 2) := by decide +kernel
theorem d10_9 : decode method_5_code 9 = .ok (.invokevirtual 52, 3) := by decide +kernel
theorem d10_12 : decode method_5_code 12 = .ok (.ifCond .eq 7, 3) := by decide +kernel
theorem d10_15 : decode method_5_code 15 = .ok (.getstatic 56, 3) := by decide +kernel
theorem d10_18 : decode method_5_code 18 = .ok (.areturn, 1) := by decide +kernel
theorem d10_19 : decode method_5_code 19 = .ok (.aload_n 0, 1) := by decide +kernel
theorem d10_20 : decode method_5_code 20 = .ok (.ldc 48, 2) := by decide +kernel
theorem d10_22 : decode method_5_code 22 = .ok (.invokevirtual 52, 3) := by decide +kernel
theorem d10_25 : decode method_5_code 25 = .ok (.ifCond .eq 7, 3) := by decide +kernel
theorem d10_28 : decode method_5_code 28 = .ok (.getstatic 60, 3) := by decide +kernel
theorem d10_31 : decode method_5_code 31 = .ok (.areturn, 1) := by decide +kernel
theorem d10_32 : decode method_5_code 32 = .ok (.aload_n 0, 1) := by decide +kernel
theorem d10_33 : decode method_5_code 33 = .ok (.ldc 50, 2) := by decide +kernel
theorem d10_35 : decode method_5_code 35 = .ok (.invokevirtual 52, 3) := by decide +kernel
theorem d10_38 : decode method_5_code 38 = .ok (.ifCond .eq 7, 3) := by decide +kernel
theorem d10_41 : decode method_5_code 41 = .ok (.getstatic 63, 3) := by decide +kernel
theorem d10_44 : decode method_5_code 44 = .ok (.areturn, 1) := by decide +kernel
theorem d10_45 : decode method_5_code 45 = .ok (.aconst_null, 1) := by decide +kernel
theorem d10_46 : decode method_5_code 46 = .ok (.areturn, 1) := by decide +kernel
theorem pn4 : plainName "com/example/ispol/ispol/walls/TransparencyOfPinLaw" = true := by first | (simp [plainName, overriddenIn]; done) | decide +kernel
theorem d10_4 : decode method_5_code 4 = .ok (.aconst_null, 1) := by decide +kernel
theorem d10_5 : decode method_5_code 5 = .ok (.areturn, 1) := by decide +kernel
theorem d11_0 : decode method_4_code 0 = .ok (.iload_n 0, 1) := by decide +kernel
theorem d11_1 : decode method_4_code 1 = .ok (.ifCond .ne 6, 3) := by decide +kernel
theorem d11_4 : decode method_4_code 4 = .ok (.ldc 46, 2) := by decide +kernel
theorem d11_6 : decode method_4_code 6 = .ok (.areturn, 1) := by decide +kernel
theorem d11_7 : decode method_4_code 7 = .ok (.iload_n 0, 1) := by decide +kernel
theorem d11_8 : decode method_4_code 8 = .ok (.iconst 1, 1) := by decide +kernel
theorem d11_9 : decode method_4_code 9 = .ok (.if_icmp .ne 6, 3) := by decide +kernel
theorem d11_12 : decode method_4_code 12 = .ok (.ldc 48, 2) := by decide +kernel
theorem d11_14 : decode method_4_code 14 = .ok (.areturn, 1) := by decide +kernel
theorem d11_15 : decode method_4_code 15 = .ok (.ldc 50, 2) := by decide +kernel
theorem d11_17 : decode method_4_code 17 = .ok (.areturn, 1) := by decide +kernel
theorem d12_0 : decode method_3_code 0 = .ok (.lload_n 0, 1) := by decide +kernel
theorem d12_1 : decode method_3_code 1 = .ok (.bipush 8, 2) := by decide +kernel
theorem d12_3 : decode method_3_code 3 = .ok (.iload_n 2, 1) := by decide +kernel
theorem d12_4 : decode method_3_code 4 = .ok (.imul, 1) := by decide +kernel
theorem d12_5 : decode method_3_code 5 = .ok (.lushr, 1) := by decide +kernel
theorem d12_6 : decode method_3_code 6 = .ok (.ldc2_w 20, 3) := by decide +kernel
theorem d12_9 : decode method_3_code 9 = .ok (.land, 1) := by decide +kernel
theorem d12_10 : decode method_3_code 10 = .ok (.l2i, 1) := by decide +kernel
theorem d12_11 : decode method_3_code 11 = .ok (.i2c, 1) := by decide +kernel
theorem d12_12 : decode method_3_code 12 = .ok (.ireturn, 1) := by decide +kernel
theorem d13_0 : decode method_6_code 0 = .ok (.iload_n 1, 1) := by decide +kernel
theorem d13_1 : decode method_6_code 1 = .ok (.iload_n 2, 1) := by decide +kernel
theorem d13_2 : decode method_6_code 2 = .ok (.if_icmp .ne 5, 3) := by decide +kernel
theorem d13_5 : decode method_6_code 5 = .ok (.iload_n 3, 1) := by decide +kernel
theorem d13_6 : decode method_6_code 6 = .ok (.ireturn, 1) := by decide +kernel
theorem d13_7 : decode method_6_code 7 = .ok (.iload_n 1, 1) := by decide +kernel
theorem d13_8 : decode method_6_code 8 = .ok (.aload_n 0, 1) := by decide +kernel
theorem pd7 : parseMethodDescriptor "()I" = some ⟨[], some .int⟩ := by decide +kernel
theorem d13_9 : decode method_6_code 9 = .ok (.invokevirtual 14, 3) := by decide +kernel
theorem d13_12 : decode method_6_code 12 = .ok (.if_icmp .ge 9, 3) := by decide +kernel
theorem d13_15 : decode method_6_code 15 = .ok (.aload_n 0, 1) := by decide +kernel
theorem d13_16 : decode method_6_code 16 = .ok (.iload_n 1, 1) := by decide +kernel
theorem pd8 : parseMethodDescriptor "(I)C" = some ⟨[.int], some .char⟩ := by decide +kernel
theorem d13_17 : decode method_6_code 17 = .ok (.invokevirtual 66, 3) := by decide +kernel
theorem d13_20 : decode method_6_code 20 = .ok (.ireturn, 1) := by decide +kernel
theorem d13_21 : decode method_6_code 21 = .ok (.iload_n 3, 1) := by decide +kernel
theorem d13_22 : decode method_6_code 22 = .ok (.ireturn, 1) := by decide +kernel
theorem d14_0 : decode method_7_code 0 = .ok (.aload_n 0, 1) := by decide +kernel
theorem d14_1 : decode method_7_code 1 = .ok (.iconst 0, 1) := by decide +kernel
theorem d14_2 : decode method_7_code 2 = .ok (.iload_n 2, 1) := by decide +kernel
theorem d14_3 : decode method_7_code 3 = .ok (.iload_n 3, 1) := by decide +kernel
theorem pd9 : parseMethodDescriptor "(Ljava/lang/String;IIC)C" = some ⟨[(.object "java/lang/String"), .int, .int, .char], some .char⟩ := by decide +kernel
theorem d14_4 : decode method_7_code 4 = .ok (.invokestatic 70, 3) := by decide +kernel
theorem d14_7 : decode method_7_code 7 = .ok (.istore 4, 2) := by decide +kernel
theorem d14_9 : decode method_7_code 9 = .ok (.aload_n 0, 1) := by decide +kernel
theorem d14_10 : decode method_7_code 10 = .ok (.iconst 1, 1) := by decide +kernel
theorem d14_11 : decode method_7_code 11 = .ok (.iload_n 2, 1) := by decide +kernel
theorem d14_12 : decode method_7_code 12 = .ok (.iload_n 3, 1) := by decide +kernel
theorem d14_13 : decode method_7_code 13 = .ok (.invokestatic 70, 3) := by decide +kernel
theorem d14_16 : decode method_7_code 16 = .ok (.istore 5, 2) := by decide +kernel
theorem d14_18 : decode method_7_code 18 = .ok (.aload_n 0, 1) := by decide +kernel
theorem d14_19 : decode method_7_code 19 = .ok (.iconst 2, 1) := by decide +kernel
theorem d14_20 : decode method_7_code 20 = .ok (.iload_n 2, 1) := by decide +kernel
theorem d14_21 : decode method_7_code 21 = .ok (.iload_n 3, 1) := by decide +kernel
theorem d14_22 : decode method_7_code 22 = .ok (.invokestatic 70, 3) := by decide +kernel
theorem d14_25 : decode method_7_code 25 = .ok (.istore 6, 2) := by decide +kernel
theorem d14_27 : decode method_7_code 27 = .ok (.aload_n 0, 1) := by decide +kernel
theorem d14_28 : decode method_7_code 28 = .ok (.iconst 3, 1) := by decide +kernel
theorem d14_29 : decode method_7_code 29 = .ok (.iload_n 2, 1) := by decide +kernel
theorem d14_30 : decode method_7_code 30 = .ok (.iload_n 3, 1) := by decide +kernel
theorem d14_31 : decode method_7_code 31 = .ok (.invokestatic 70, 3) := by decide +kernel
theorem d14_34 : decode method_7_code 34 = .ok (.istore 7, 2) := by decide +kernel
theorem d14_36 : decode method_7_code 36 = .ok (.aload_n 0, 1) := by decide +kernel
theorem d14_37 : decode method_7_code 37 = .ok (.iconst 4, 1) := by decide +kernel
theorem d14_38 : decode method_7_code 38 = .ok (.iload_n 2, 1) := by decide +kernel
theorem d14_39 : decode method_7_code 39 = .ok (.iload_n 3, 1) := by decide +kernel
theorem d14_40 : decode method_7_code 40 = .ok (.invokestatic 70, 3) := by decide +kernel
theorem d14_43 : decode method_7_code 43 = .ok (.istore 8, 2) := by decide +kernel
theorem d14_45 : decode method_7_code 45 = .ok (.aload_n 0, 1) := by decide +kernel
theorem d14_46 : decode method_7_code 46 = .ok (.iconst 5, 1) := by decide +kernel
theorem d14_47 : decode method_7_code 47 = .ok (.iload_n 2, 1) := by decide +kernel
theorem d14_48 : decode method_7_code 48 = .ok (.iload_n 3, 1) := by decide +kernel
theorem d14_49 : decode method_7_code 49 = .ok (.invokestatic 70, 3) := by decide +kernel
theorem d14_52 : decode method_7_code 52 = .ok (.istore 9, 2) := by decide +kernel
theorem d14_54 : decode method_7_code 54 = .ok (.aload_n 0, 1) := by decide +kernel
theorem d14_55 : decode method_7_code 55 = .ok (.bipush 6, 2) := by decide +kernel
theorem d14_57 : decode method_7_code 57 = .ok (.iload_n 2, 1) := by decide +kernel
theorem d14_58 : decode method_7_code 58 = .ok (.iload_n 3, 1) := by decide +kernel
theorem d14_59 : decode method_7_code 59 = .ok (.invokestatic 70, 3) := by decide +kernel
theorem d14_62 : decode method_7_code 62 = .ok (.istore 10, 2) := by decide +kernel
theorem d14_64 : decode method_7_code 64 = .ok (.aload_n 0, 1) := by decide +kernel
theorem d14_65 : decode method_7_code 65 = .ok (.bipush 7, 2) := by decide +kernel
theorem d14_67 : decode method_7_code 67 = .ok (.iload_n 2, 1) := by decide +kernel
theorem d14_68 : decode method_7_code 68 = .ok (.iload_n 3, 1) := by decide +kernel
theorem d14_69 : decode method_7_code 69 = .ok (.invokestatic 70, 3) := by decide +kernel
theorem d14_72 : decode method_7_code 72 = .ok (.istore 11, 2) := by decide +kernel
theorem d14_74 : decode method_7_code 74 = .ok (.aload_n 0, 1) := by decide +kernel
theorem d14_75 : decode method_7_code 75 = .ok (.bipush 8, 2) := by decide +kernel
theorem d14_77 : decode method_7_code 77 = .ok (.iload_n 2, 1) := by decide +kernel
theorem d14_78 : decode method_7_code 78 = .ok (.iload_n 3, 1) := by decide +kernel
theorem d14_79 : decode method_7_code 79 = .ok (.invokestatic 70, 3) := by decide +kernel
theorem d14_82 : decode method_7_code 82 = .ok (.istore 12, 2) := by decide +kernel
theorem d14_84 : decode method_7_code 84 = .ok (.aload_n 0, 1) := by decide +kernel
theorem d14_85 : decode method_7_code 85 = .ok (.bipush 9, 2) := by decide +kernel
theorem d14_87 : decode method_7_code 87 = .ok (.iload_n 2, 1) := by decide +kernel
theorem d14_88 : decode method_7_code 88 = .ok (.iload_n 3, 1) := by decide +kernel
theorem d14_89 : decode method_7_code 89 = .ok (.invokestatic 70, 3) := by decide +kernel
theorem d14_92 : decode method_7_code 92 = .ok (.istore 13, 2) := by decide +kernel
theorem d14_94 : decode method_7_code 94 = .ok (.aload_n 0, 1) := by decide +kernel
theorem d14_95 : decode method_7_code 95 = .ok (.bipush 10, 2) := by decide +kernel
theorem d14_97 : decode method_7_code 97 = .ok (.iload_n 2, 1) := by decide +kernel
theorem d14_98 : decode method_7_code 98 = .ok (.iload_n 3, 1) := by decide +kernel
theorem d14_99 : decode method_7_code 99 = .ok (.invokestatic 70, 3) := by decide +kernel
theorem d14_102 : decode method_7_code 102 = .ok (.istore 14, 2) := by decide +kernel
theorem d14_104 : decode method_7_code 104 = .ok (.aload_n 0, 1) := by decide +kernel
theorem d14_105 : decode method_7_code 105 = .ok (.bipush 11, 2) := by decide +kernel
theorem d14_107 : decode method_7_code 107 = .ok (.iload_n 2, 1) := by decide +kernel
theorem d14_108 : decode method_7_code 108 = .ok (.iload_n 3, 1) := by decide +kernel
theorem d14_109 : decode method_7_code 109 = .ok (.invokestatic 70, 3) := by decide +kernel
theorem d14_112 : decode method_7_code 112 = .ok (.istore 15, 2) := by decide +kernel
theorem d14_114 : decode method_7_code 114 = .ok (.iload_n 1, 1) := by decide +kernel
theorem d14_115 : decode method_7_code 115 = .ok (.iconst 5, 1) := by decide +kernel
theorem d14_116 : decode method_7_code 116 = .ok (.if_icmp .ne 39, 3) := by decide +kernel
theorem d14_155 : decode method_7_code 155 = .ok (.iload_n 1, 1) := by decide +kernel
theorem d14_156 : decode method_7_code 156 = .ok (.bipush 6, 2) := by decide +kernel
theorem d14_158 : decode method_7_code 158 = .ok (.if_icmp .ne 45, 3) := by decide +kernel
theorem d14_203 : decode method_7_code 203 = .ok (.iload_n 1, 1) := by decide +kernel
theorem d14_204 : decode method_7_code 204 = .ok (.bipush 7, 2) := by decide +kernel
theorem d14_206 : decode method_7_code 206 = .ok (.if_icmp .ne 51, 3) := by decide +kernel
theorem d14_257 : decode method_7_code 257 = .ok (.iload_n 1, 1) := by decide +kernel
theorem d14_258 : decode method_7_code 258 = .ok (.bipush 10, 2) := by decide +kernel
theorem d14_260 : decode method_7_code 260 = .ok (.if_icmp .ne 69, 3) := by decide +kernel
theorem d14_263 : decode method_7_code 263 = .ok (.new 15, 3) := by decide +kernel
theorem d14_266 : decode method_7_code 266 = .ok (.dup, 1) := by decide +kernel
theorem d14_267 : decode method_7_code 267 = .ok (.bipush 10, 2) := by decide +kernel
theorem d14_269 : decode method_7_code 269 = .ok (.newarray .char, 2) := by decide +kernel
theorem d14_271 : decode method_7_code 271 = .ok (.dup, 1) := by decide +kernel
theorem d14_272 : decode method_7_code 272 = .ok (.iconst 0, 1) := by decide +kernel
theorem d14_273 : decode method_7_code 273 = .ok (.iload 4, 2) := by decide +kernel
theorem d14_275 : decode method_7_code 275 = .ok (.castore, 1) := by decide +kernel
theorem d14_276 : decode method_7_code 276 = .ok (.dup, 1) := by decide +kernel
theorem d14_277 : decode method_7_code 277 = .ok (.iconst 1, 1) := by decide +kernel
theorem d14_278 : decode method_7_code 278 = .ok (.iload 5, 2) := by decide +kernel
theorem d14_280 : decode method_7_code 280 = .ok (.castore, 1) := by decide +kernel
theorem d14_281 : decode method_7_code 281 = .ok (.dup, 1) := by decide +kernel
theorem d14_282 : decode method_7_code 282 = .ok (.iconst 2, 1) := by decide +kernel
theorem d14_283 : decode method_7_code 283 = .ok (.iload 6, 2) := by decide +kernel
theorem d14_285 : decode method_7_code 285 = .ok (.castore, 1) := by decide +kernel
theorem d14_286 : decode method_7_code 286 = .ok (.dup, 1) := by decide +kernel
theorem d14_287 : decode method_7_code 287 = .ok (.iconst 3, 1) := by decide +kernel
theorem d14_288 : decode method_7_code 288 = .ok (.iload 7, 2) := by decide +kernel
theorem d14_290 : decode method_7_code 290 = .ok (.castore, 1) := by decide +kernel
theorem d14_291 : decode method_7_code 291 = .ok (.dup, 1) := by decide +kernel
theorem d14_292 : decode method_7_code 292 = .ok (.iconst 4, 1) := by decide +kernel
theorem d14_293 : decode method_7_code 293 = .ok (.iload 8, 2) := by decide +kernel
theorem d14_295 : decode method_7_code 295 = .ok (.castore, 1) := by decide +kernel
theorem d14_296 : decode method_7_code 296 = .ok (.dup, 1) := by decide +kernel
theorem d14_297 : decode method_7_code 297 = .ok (.iconst 5, 1) := by decide +kernel
theorem d14_298 : decode method_7_code 298 = .ok (.iload 9, 2) := by decide +kernel
theorem d14_300 : decode method_7_code 300 = .ok (.castore, 1) := by decide +kernel
theorem d14_301 : decode method_7_code 301 = .ok (.dup, 1) := by decide +kernel
theorem d14_302 : decode method_7_code 302 = .ok (.bipush 6, 2) := by decide +kernel
theorem d14_304 : decode method_7_code 304 = .ok (.iload 10, 2) := by decide +kernel
theorem d14_306 : decode method_7_code 306 = .ok (.castore, 1) := by decide +kernel
theorem d14_307 : decode method_7_code 307 = .ok (.dup, 1) := by decide +kernel
theorem d14_308 : decode method_7_code 308 = .ok (.bipush 7, 2) := by decide +kernel
theorem d14_310 : decode method_7_code 310 = .ok (.iload 11, 2) := by decide +kernel
theorem d14_312 : decode method_7_code 312 = .ok (.castore, 1) := by decide +kernel
theorem d14_313 : decode method_7_code 313 = .ok (.dup, 1) := by decide +kernel
theorem d14_314 : decode method_7_code 314 = .ok (.bipush 8, 2) := by decide +kernel
theorem d14_316 : decode method_7_code 316 = .ok (.iload 12, 2) := by decide +kernel
theorem d14_318 : decode method_7_code 318 = .ok (.castore, 1) := by decide +kernel
theorem d14_319 : decode method_7_code 319 = .ok (.dup, 1) := by decide +kernel
theorem d14_320 : decode method_7_code 320 = .ok (.bipush 9, 2) := by decide +kernel
theorem d14_322 : decode method_7_code 322 = .ok (.iload 13, 2) := by decide +kernel
theorem d14_324 : decode method_7_code 324 = .ok (.castore, 1) := by decide +kernel
theorem pd10 : parseMethodDescriptor "([C)V" = some ⟨[(.array .char)], none⟩ := by decide +kernel
theorem d14_325 : decode method_7_code 325 = .ok (.invokespecial 30, 3) := by decide +kernel
theorem d14_328 : decode method_7_code 328 = .ok (.areturn, 1) := by decide +kernel
theorem d14_329 : decode method_7_code 329 = .ok (.iload_n 1, 1) := by decide +kernel
theorem d14_330 : decode method_7_code 330 = .ok (.bipush 11, 2) := by decide +kernel
theorem d14_332 : decode method_7_code 332 = .ok (.if_icmp .ne 75, 3) := by decide +kernel
theorem d14_335 : decode method_7_code 335 = .ok (.new 15, 3) := by decide +kernel
theorem d14_338 : decode method_7_code 338 = .ok (.dup, 1) := by decide +kernel
theorem d14_339 : decode method_7_code 339 = .ok (.bipush 11, 2) := by decide +kernel
theorem d14_341 : decode method_7_code 341 = .ok (.newarray .char, 2) := by decide +kernel
theorem d14_343 : decode method_7_code 343 = .ok (.dup, 1) := by decide +kernel
theorem d14_344 : decode method_7_code 344 = .ok (.iconst 0, 1) := by decide +kernel
theorem d14_345 : decode method_7_code 345 = .ok (.iload 4, 2) := by decide +kernel
theorem d14_347 : decode method_7_code 347 = .ok (.castore, 1) := by decide +kernel
theorem d14_348 : decode method_7_code 348 = .ok (.dup, 1) := by decide +kernel
theorem d14_349 : decode method_7_code 349 = .ok (.iconst 1, 1) := by decide +kernel
theorem d14_350 : decode method_7_code 350 = .ok (.iload 5, 2) := by decide +kernel
theorem d14_352 : decode method_7_code 352 = .ok (.castore, 1) := by decide +kernel
theorem d14_353 : decode method_7_code 353 = .ok (.dup, 1) := by decide +kernel
theorem d14_354 : decode method_7_code 354 = .ok (.iconst 2, 1) := by decide +kernel
theorem d14_355 : decode method_7_code 355 = .ok (.iload 6, 2) := by decide +kernel
theorem d14_357 : decode method_7_code 357 = .ok (.castore, 1) := by decide +kernel
theorem d14_358 : decode method_7_code 358 = .ok (.dup, 1) := by decide +kernel
theorem d14_359 : decode method_7_code 359 = .ok (.iconst 3, 1) := by decide +kernel
theorem d14_360 : decode method_7_code 360 = .ok (.iload 7, 2) := by decide +kernel
theorem d14_362 : decode method_7_code 362 = .ok (.castore, 1) := by decide +kernel
theorem d14_363 : decode method_7_code 363 = .ok (.dup, 1) := by decide +kernel
theorem d14_364 : decode method_7_code 364 = .ok (.iconst 4, 1) := by decide +kernel
theorem d14_365 : decode method_7_code 365 = .ok (.iload 8, 2) := by decide +kernel
theorem d14_367 : decode method_7_code 367 = .ok (.castore, 1) := by decide +kernel
theorem d14_368 : decode method_7_code 368 = .ok (.dup, 1) := by decide +kernel
theorem d14_369 : decode method_7_code 369 = .ok (.iconst 5, 1) := by decide +kernel
theorem d14_370 : decode method_7_code 370 = .ok (.iload 9, 2) := by decide +kernel
theorem d14_372 : decode method_7_code 372 = .ok (.castore, 1) := by decide +kernel
theorem d14_373 : decode method_7_code 373 = .ok (.dup, 1) := by decide +kernel
theorem d14_374 : decode method_7_code 374 = .ok (.bipush 6, 2) := by decide +kernel
theorem d14_376 : decode method_7_code 376 = .ok (.iload 10, 2) := by decide +kernel
theorem d14_378 : decode method_7_code 378 = .ok (.castore, 1) := by decide +kernel
theorem d14_379 : decode method_7_code 379 = .ok (.dup, 1) := by decide +kernel
theorem d14_380 : decode method_7_code 380 = .ok (.bipush 7, 2) := by decide +kernel
theorem d14_382 : decode method_7_code 382 = .ok (.iload 11, 2) := by decide +kernel
theorem d14_384 : decode method_7_code 384 = .ok (.castore, 1) := by decide +kernel
theorem d14_385 : decode method_7_code 385 = .ok (.dup, 1) := by decide +kernel
theorem d14_386 : decode method_7_code 386 = .ok (.bipush 8, 2) := by decide +kernel
theorem d14_388 : decode method_7_code 388 = .ok (.iload 12, 2) := by decide +kernel
theorem d14_390 : decode method_7_code 390 = .ok (.castore, 1) := by decide +kernel
theorem d14_391 : decode method_7_code 391 = .ok (.dup, 1) := by decide +kernel
theorem d14_392 : decode method_7_code 392 = .ok (.bipush 9, 2) := by decide +kernel
theorem d14_394 : decode method_7_code 394 = .ok (.iload 13, 2) := by decide +kernel
theorem d14_396 : decode method_7_code 396 = .ok (.castore, 1) := by decide +kernel
theorem d14_397 : decode method_7_code 397 = .ok (.dup, 1) := by decide +kernel
theorem d14_398 : decode method_7_code 398 = .ok (.bipush 10, 2) := by decide +kernel
theorem d14_400 : decode method_7_code 400 = .ok (.iload 14, 2) := by decide +kernel
theorem d14_402 : decode method_7_code 402 = .ok (.castore, 1) := by decide +kernel
theorem d14_403 : decode method_7_code 403 = .ok (.invokespecial 30, 3) := by decide +kernel
theorem d14_406 : decode method_7_code 406 = .ok (.areturn, 1) := by decide +kernel
theorem d14_407 : decode method_7_code 407 = .ok (.new 15, 3) := by decide +kernel
theorem d14_410 : decode method_7_code 410 = .ok (.dup, 1) := by decide +kernel
theorem d14_411 : decode method_7_code 411 = .ok (.bipush 12, 2) := by decide +kernel
theorem d14_413 : decode method_7_code 413 = .ok (.newarray .char, 2) := by decide +kernel
theorem d14_415 : decode method_7_code 415 = .ok (.dup, 1) := by decide +kernel
theorem d14_416 : decode method_7_code 416 = .ok (.iconst 0, 1) := by decide +kernel
theorem d14_417 : decode method_7_code 417 = .ok (.iload 4, 2) := by decide +kernel
theorem d14_419 : decode method_7_code 419 = .ok (.castore, 1) := by decide +kernel
theorem d14_420 : decode method_7_code 420 = .ok (.dup, 1) := by decide +kernel
theorem d14_421 : decode method_7_code 421 = .ok (.iconst 1, 1) := by decide +kernel
theorem d14_422 : decode method_7_code 422 = .ok (.iload 5, 2) := by decide +kernel
theorem d14_424 : decode method_7_code 424 = .ok (.castore, 1) := by decide +kernel
theorem d14_425 : decode method_7_code 425 = .ok (.dup, 1) := by decide +kernel
theorem d14_426 : decode method_7_code 426 = .ok (.iconst 2, 1) := by decide +kernel
theorem d14_427 : decode method_7_code 427 = .ok (.iload 6, 2) := by decide +kernel
theorem d14_429 : decode method_7_code 429 = .ok (.castore, 1) := by decide +kernel
theorem d14_430 : decode method_7_code 430 = .ok (.dup, 1) := by decide +kernel
theorem d14_431 : decode method_7_code 431 = .ok (.iconst 3, 1) := by decide +kernel
theorem d14_432 : decode method_7_code 432 = .ok (.iload 7, 2) := by decide +kernel
theorem d14_434 : decode method_7_code 434 = .ok (.castore, 1) := by decide +kernel
theorem d14_435 : decode method_7_code 435 = .ok (.dup, 1) := by decide +kernel
theorem d14_436 : decode method_7_code 436 = .ok (.iconst 4, 1) := by decide +kernel
theorem d14_437 : decode method_7_code 437 = .ok (.iload 8, 2) := by decide +kernel
theorem d14_439 : decode method_7_code 439 = .ok (.castore, 1) := by decide +kernel
theorem d14_440 : decode method_7_code 440 = .ok (.dup, 1) := by decide +kernel
theorem d14_441 : decode method_7_code 441 = .ok (.iconst 5, 1) := by decide +kernel
theorem d14_442 : decode method_7_code 442 = .ok (.iload 9, 2) := by decide +kernel
theorem d14_444 : decode method_7_code 444 = .ok (.castore, 1) := by decide +kernel
theorem d14_445 : decode method_7_code 445 = .ok (.dup, 1) := by decide +kernel
theorem d14_446 : decode method_7_code 446 = .ok (.bipush 6, 2) := by decide +kernel
theorem d14_448 : decode method_7_code 448 = .ok (.iload 10, 2) := by decide +kernel
theorem d14_450 : decode method_7_code 450 = .ok (.castore, 1) := by decide +kernel
theorem d14_451 : decode method_7_code 451 = .ok (.dup, 1) := by decide +kernel
theorem d14_452 : decode method_7_code 452 = .ok (.bipush 7, 2) := by decide +kernel
theorem d14_454 : decode method_7_code 454 = .ok (.iload 11, 2) := by decide +kernel
theorem d14_456 : decode method_7_code 456 = .ok (.castore, 1) := by decide +kernel
theorem d14_457 : decode method_7_code 457 = .ok (.dup, 1) := by decide +kernel
theorem d14_458 : decode method_7_code 458 = .ok (.bipush 8, 2) := by decide +kernel
theorem d14_460 : decode method_7_code 460 = .ok (.iload 12, 2) := by decide +kernel
theorem d14_462 : decode method_7_code 462 = .ok (.castore, 1) := by decide +kernel
theorem d14_463 : decode method_7_code 463 = .ok (.dup, 1) := by decide +kernel
theorem d14_464 : decode method_7_code 464 = .ok (.bipush 9, 2) := by decide +kernel
theorem d14_466 : decode method_7_code 466 = .ok (.iload 13, 2) := by decide +kernel
theorem d14_468 : decode method_7_code 468 = .ok (.castore, 1) := by decide +kernel
theorem d14_469 : decode method_7_code 469 = .ok (.dup, 1) := by decide +kernel
theorem d14_470 : decode method_7_code 470 = .ok (.bipush 10, 2) := by decide +kernel
theorem d14_472 : decode method_7_code 472 = .ok (.iload 14, 2) := by decide +kernel
theorem d14_474 : decode method_7_code 474 = .ok (.castore, 1) := by decide +kernel
theorem d14_475 : decode method_7_code 475 = .ok (.dup, 1) := by decide +kernel
theorem d14_476 : decode method_7_code 476 = .ok (.bipush 11, 2) := by decide +kernel
theorem d14_478 : decode method_7_code 478 = .ok (.iload 15, 2) := by decide +kernel
theorem d14_480 : decode method_7_code 480 = .ok (.castore, 1) := by decide +kernel
theorem d14_481 : decode method_7_code 481 = .ok (.invokespecial 30, 3) := by decide +kernel
theorem d14_484 : decode method_7_code 484 = .ok (.areturn, 1) := by decide +kernel
theorem d14_119 : decode method_7_code 119 = .ok (.new 15, 3) := by decide +kernel
theorem d14_122 : decode method_7_code 122 = .ok (.dup, 1) := by decide +kernel
theorem d14_123 : decode method_7_code 123 = .ok (.iconst 5, 1) := by decide +kernel
theorem d14_124 : decode method_7_code 124 = .ok (.newarray .char, 2) := by decide +kernel
theorem d14_126 : decode method_7_code 126 = .ok (.dup, 1) := by decide +kernel
theorem d14_127 : decode method_7_code 127 = .ok (.iconst 0, 1) := by decide +kernel
theorem d14_128 : decode method_7_code 128 = .ok (.iload 4, 2) := by decide +kernel
theorem d14_130 : decode method_7_code 130 = .ok (.castore, 1) := by decide +kernel
theorem d14_131 : decode method_7_code 131 = .ok (.dup, 1) := by decide +kernel
theorem d14_132 : decode method_7_code 132 = .ok (.iconst 1, 1) := by decide +kernel
theorem d14_133 : decode method_7_code 133 = .ok (.iload 5, 2) := by decide +kernel
theorem d14_135 : decode method_7_code 135 = .ok (.castore, 1) := by decide +kernel
theorem d14_136 : decode method_7_code 136 = .ok (.dup, 1) := by decide +kernel
theorem d14_137 : decode method_7_code 137 = .ok (.iconst 2, 1) := by decide +kernel
theorem d14_138 : decode method_7_code 138 = .ok (.iload 6, 2) := by decide +kernel
theorem d14_140 : decode method_7_code 140 = .ok (.castore, 1) := by decide +kernel
theorem d14_141 : decode method_7_code 141 = .ok (.dup, 1) := by decide +kernel
theorem d14_142 : decode method_7_code 142 = .ok (.iconst 3, 1) := by decide +kernel
theorem d14_143 : decode method_7_code 143 = .ok (.iload 7, 2) := by decide +kernel
theorem d14_145 : decode method_7_code 145 = .ok (.castore, 1) := by decide +kernel
theorem d14_146 : decode method_7_code 146 = .ok (.dup, 1) := by decide +kernel
theorem d14_147 : decode method_7_code 147 = .ok (.iconst 4, 1) := by decide +kernel
theorem d14_148 : decode method_7_code 148 = .ok (.iload 8, 2) := by decide +kernel
theorem d14_150 : decode method_7_code 150 = .ok (.castore, 1) := by decide +kernel
theorem d14_151 : decode method_7_code 151 = .ok (.invokespecial 30, 3) := by decide +kernel
theorem d14_154 : decode method_7_code 154 = .ok (.areturn, 1) := by decide +kernel
theorem d14_161 : decode method_7_code 161 = .ok (.new 15, 3) := by decide +kernel
theorem d14_164 : decode method_7_code 164 = .ok (.dup, 1) := by decide +kernel
theorem d14_165 : decode method_7_code 165 = .ok (.bipush 6, 2) := by decide +kernel
theorem d14_167 : decode method_7_code 167 = .ok (.newarray .char, 2) := by decide +kernel
theorem d14_169 : decode method_7_code 169 = .ok (.dup, 1) := by decide +kernel
theorem d14_170 : decode method_7_code 170 = .ok (.iconst 0, 1) := by decide +kernel
theorem d14_171 : decode method_7_code 171 = .ok (.iload 4, 2) := by decide +kernel
theorem d14_173 : decode method_7_code 173 = .ok (.castore, 1) := by decide +kernel
theorem d14_174 : decode method_7_code 174 = .ok (.dup, 1) := by decide +kernel
theorem d14_175 : decode method_7_code 175 = .ok (.iconst 1, 1) := by decide +kernel
theorem d14_176 : decode method_7_code 176 = .ok (.iload 5, 2) := by decide +kernel
theorem d14_178 : decode method_7_code 178 = .ok (.castore, 1) := by decide +kernel
theorem d14_179 : decode method_7_code 179 = .ok (.dup, 1) := by decide +kernel
theorem d14_180 : decode method_7_code 180 = .ok (.iconst 2, 1) := by decide +kernel
theorem d14_181 : decode method_7_code 181 = .ok (.iload 6, 2) := by decide +kernel
theorem d14_183 : decode method_7_code 183 = .ok (.castore, 1) := by decide +kernel
theorem d14_184 : decode method_7_code 184 = .ok (.dup, 1) := by decide +kernel
theorem d14_185 : decode method_7_code 185 = .ok (.iconst 3, 1) := by decide +kernel
theorem d14_186 : decode method_7_code 186 = .ok (.iload 7, 2) := by decide +kernel
theorem d14_188 : decode method_7_code 188 = .ok (.castore, 1) := by decide +kernel
theorem d14_189 : decode method_7_code 189 = .ok (.dup, 1) := by decide +kernel
theorem d14_190 : decode method_7_code 190 = .ok (.iconst 4, 1) := by decide +kernel
theorem d14_191 : decode method_7_code 191 = .ok (.iload 8, 2) := by decide +kernel
theorem d14_193 : decode method_7_code 193 = .ok (.castore, 1) := by decide +kernel
theorem d14_194 : decode method_7_code 194 = .ok (.dup, 1) := by decide +kernel
theorem d14_195 : decode method_7_code 195 = .ok (.iconst 5, 1) := by decide +kernel
theorem d14_196 : decode method_7_code 196 = .ok (.iload 9, 2) := by decide +kernel
theorem d14_198 : decode method_7_code 198 = .ok (.castore, 1) := by decide +kernel
theorem d14_199 : decode method_7_code 199 = .ok (.invokespecial 30, 3) := by decide +kernel
theorem d14_202 : decode method_7_code 202 = .ok (.areturn, 1) := by decide +kernel
theorem d14_209 : decode method_7_code 209 = .ok (.new 15, 3) := by decide +kernel
theorem d14_212 : decode method_7_code 212 = .ok (.dup, 1) := by decide +kernel
theorem d14_213 : decode method_7_code 213 = .ok (.bipush 7, 2) := by decide +kernel
theorem d14_215 : decode method_7_code 215 = .ok (.newarray .char, 2) := by decide +kernel
theorem d14_217 : decode method_7_code 217 = .ok (.dup, 1) := by decide +kernel
theorem d14_218 : decode method_7_code 218 = .ok (.iconst 0, 1) := by decide +kernel
theorem d14_219 : decode method_7_code 219 = .ok (.iload 4, 2) := by decide +kernel
theorem d14_221 : decode method_7_code 221 = .ok (.castore, 1) := by decide +kernel
theorem d14_222 : decode method_7_code 222 = .ok (.dup, 1) := by decide +kernel
theorem d14_223 : decode method_7_code 223 = .ok (.iconst 1, 1) := by decide +kernel
theorem d14_224 : decode method_7_code 224 = .ok (.iload 5, 2) := by decide +kernel
theorem d14_226 : decode method_7_code 226 = .ok (.castore, 1) := by decide +kernel
theorem d14_227 : decode method_7_code 227 = .ok (.dup, 1) := by decide +kernel
theorem d14_228 : decode method_7_code 228 = .ok (.iconst 2, 1) := by decide +kernel
theorem d14_229 : decode method_7_code 229 = .ok (.iload 6, 2) := by decide +kernel
theorem d14_231 : decode method_7_code 231 = .ok (.castore, 1) := by decide +kernel
theorem d14_232 : decode method_7_code 232 = .ok (.dup, 1) := by decide +kernel
theorem d14_233 : decode method_7_code 233 = .ok (.iconst 3, 1) := by decide +kernel
theorem d14_234 : decode method_7_code 234 = .ok (.iload 7, 2) := by decide +kernel
theorem d14_236 : decode method_7_code 236 = .ok (.castore, 1) := by decide +kernel
theorem d14_237 : decode method_7_code 237 = .ok (.dup, 1) := by decide +kernel
theorem d14_238 : decode method_7_code 238 = .ok (.iconst 4, 1) := by decide +kernel
theorem d14_239 : decode method_7_code 239 = .ok (.iload 8, 2) := by decide +kernel
theorem d14_241 : decode method_7_code 241 = .ok (.castore, 1) := by decide +kernel
theorem d14_242 : decode method_7_code 242 = .ok (.dup, 1) := by decide +kernel
theorem d14_243 : decode method_7_code 243 = .ok (.iconst 5, 1) := by decide +kernel
theorem d14_244 : decode method_7_code 244 = .ok (.iload 9, 2) := by decide +kernel
theorem d14_246 : decode method_7_code 246 = .ok (.castore, 1) := by decide +kernel
theorem d14_247 : decode method_7_code 247 = .ok (.dup, 1) := by decide +kernel
theorem d14_248 : decode method_7_code 248 = .ok (.bipush 6, 2) := by decide +kernel
theorem d14_250 : decode method_7_code 250 = .ok (.iload 10, 2) := by decide +kernel
theorem d14_252 : decode method_7_code 252 = .ok (.castore, 1) := by decide +kernel
theorem d14_253 : decode method_7_code 253 = .ok (.invokespecial 30, 3) := by decide +kernel
theorem d14_256 : decode method_7_code 256 = .ok (.areturn, 1) := by decide +kernel
theorem pd11 : parseMethodDescriptor "(I)Ljava/lang/String;" = some ⟨[.int], some (.object "java/lang/String")⟩ := by decide +kernel
theorem pd12 : parseMethodDescriptor "(Ljava/lang/String;)Lcom/example/ispol/ispol/walls/Transparency;" = some ⟨[(.object "java/lang/String")], some (.object "com/example/ispol/ispol/walls/Transparency")⟩ := by decide +kernel
theorem pd13 : parseMethodDescriptor "(Ljava/lang/String;IIC)Ljava/lang/String;" = some ⟨[(.object "java/lang/String"), .int, .int, .char], some (.object "java/lang/String")⟩ := by decide +kernel
theorem pd14 : parseMethodDescriptor "(C)Ljava/lang/String;" = some ⟨[.char], some (.object "java/lang/String")⟩ := by decide +kernel
theorem pd15 : parseMethodDescriptor "(JI)C" = some ⟨[.long, .int], some .char⟩ := by decide +kernel
theorem ef_eqsame (m : MethodId) (a : Addr)  : entryFrame m #[(.ref a), (.ref a)] 3 = mkF m 0 #[.val (.ref a), .val (.ref a), .unset] [] := by first | (simp [entryFrame, mkF, argsToLocals, Value.category]; done) | rfl
def Q_eqsame (Z : State) (a : Addr)  (h0 : Heap) (xv : Value) (h : Heap) : Prop := (.int (1 : Int32)) = xv ∧ h0 = h
set_option maxRecDepth 65536 in
set_option maxHeartbeats 40000000 in
theorem c_eqsame (l : Launch) {Z : State} {a0 : Array Value} (G : GH Z a0) (a : Addr)  (h0 : Heap) (O0 : Old Z Z.heap.size h0)  : Con false [] l Z (⟨"java/lang/String", "equals", "(Ljava/lang/Object;)Z"⟩ : MethodName) jdk_42_method_66_code 3 (some .boolean) [] ({ frames := 0, cells := 0, slots := 0, locals := 0 } : Room) #[(.ref a), (.ref a)] h0 [] (rvl (Q_eqsame Z a h0)) := by
  refine con_of (a0 := a0) (plainFor_of_name pn1) (fun q => rfl) EW.nil O0 (fun m => ef_eqsame m a) ?_
  intro p_ e_ s_ m_ below_ meth_ c_ hby hml hret hlk hnm
  refine go_aload_n (pc' := 1) (hb hby d1_0) rfl rfl rfl ?_
  refine go_aload_n (pc' := 2) (hb hby d1_1) rfl rfl rfl ?_
  refine go_acF (pc' := 5) (hb hby d1_2) rfl rfl rfl (XT.aa_ne_f rfl) ?_
  refine go_iconst (pc' := 6) (v := 1) (hb hby d1_5) rfl rfl ?_
  refine go_ireturn hret hlk rfl (by simp) (hb hby d1_6) (by decide) (by decide) ⟨_, rfl, ⟨rfl, rfl⟩⟩ (Keep.refl h0 [])
theorem ef_eqnull (m : MethodId) (a : Addr)  : entryFrame m #[(.ref a), .null] 3 = mkF m 0 #[.val (.ref a), .val .null, .unset] [] := by first | (simp [entryFrame, mkF, argsToLocals, Value.category]; done) | rfl
def Q_eqnull (Z : State) (a : Addr)  (h0 : Heap) (xv : Value) (h : Heap) : Prop := (.int (0 : Int32)) = xv ∧ h0 = h
set_option maxRecDepth 65536 in
set_option maxHeartbeats 40000000 in
theorem c_eqnull (l : Launch) {Z : State} {a0 : Array Value} (G : GH Z a0) (a : Addr)  (h0 : Heap) (O0 : Old Z Z.heap.size h0)  : Con false [] l Z (⟨"java/lang/String", "equals", "(Ljava/lang/Object;)Z"⟩ : MethodName) jdk_42_method_66_code 3 (some .boolean) [] ({ frames := 0, cells := 0, slots := 0, locals := 0 } : Room) #[(.ref a), .null] h0 [] (rvl (Q_eqnull Z a h0)) := by
  refine con_of (a0 := a0) (plainFor_of_name pn1) (fun q => rfl) EW.nil O0 (fun m => ef_eqnull m a) ?_
  intro p_ e_ s_ m_ below_ meth_ c_ hby hml hret hlk hnm
  refine go_aload_n (pc' := 1) (hb hby d1_0) rfl rfl rfl ?_
  refine go_aload_n (pc' := 2) (hb hby d1_1) rfl rfl rfl ?_
  refine go_acT (pc' := 7) (hb hby d1_2) (by decide) rfl rfl rfl (XT.aa_ne_t (by simp)) ?_
  refine go_aload_n (pc' := 8) (hb hby d1_7) rfl rfl rfl ?_
  refine go_instNull (pc' := 11) (hb hby d1_8) rfl ?_
  refine go_ifT (pc' := 54) (hb hby d1_11) (by decide) rfl (by decide) ?_
  refine go_iconst (pc' := 55) (v := 0) (hb hby d1_54) rfl rfl ?_
  refine go_ireturn hret hlk rfl (by simp) (hb hby d1_55) (by decide) (by decide) ⟨_, rfl, ⟨rfl, rfl⟩⟩ (Keep.refl h0 [])
theorem ef_values (m : MethodId)   : entryFrame m #[] 0 = mkF m 0 #[] [] := by first | (simp [entryFrame, mkF, argsToLocals, Value.category]; done) | rfl
def Q_values (Z : State)   (h0 : Heap) (xv : Value) (h : Heap) : Prop := ∃ (r : Addr) (k : ClassId), (.ref r) = xv ∧ h0.size ≤ r ∧ Arv Z h r k (.object "com/example/ispol/ispol/walls/Transparency") (3 : Int32) [(.ref (s_TRANSPARENT Z)), (.ref (s_TRANSLUCENT Z)), (.ref (s_OPAQUE Z))] (.null)
set_option maxRecDepth 65536 in
set_option maxHeartbeats 40000000 in
theorem c_values (l : Launch) {Z : State} {a0 : Array Value} (G : GH Z a0)   (h0 : Heap) (O0 : Old Z Z.heap.size h0)  : Con false [] l Z (⟨"com/example/ispol/ispol/walls/Transparency", "values", "()[Lcom/example/ispol/ispol/walls/Transparency;"⟩ : MethodName) prog_21_method_1_code 0 (some (.array (.object "com/example/ispol/ispol/walls/Transparency"))) [] ({ frames := 1, cells := 1, slots := 3, locals := 14 } : Room) #[] h0 [] (rvl (Q_values Z h0)) := by
  refine con_of (a0 := a0) (plainFor_of_name pn2) (fun q => rfl) EW.nil O0 (fun m => ef_values m ) ?_
  intro p_ e_ s_ m_ below_ meth_ c_ hby hml hret hlk hnm
  obtain ⟨k1, A2⟩ := ar_VALUES G
  refine go_getS (pc' := 3) (wk G 34 rfl) ((se__VALUES G).1.ext O0.2) (hb hby d2_0) rfl ?_
  have Z3 := A2.ext O0.2
  have Z4 := (se__VALUES G).2.ext O0.2
  refine go_clone (ad := "[Lcom/example/ispol/ispol/walls/Transparency;") (pc' := 6) (cells' := 1) (slots' := 3) (Wd := 0) (cap := 3) (wk G 36 rfl) (wk G 37 rfl) (wk G 41 rfl) (wk G 39 rfl) (wk G 40 rfl) (wk G 42 rfl) Z3 Z4 (by rw [hml]; rfl) (by decide) (by decide) (by decide) rfl (hb hby d2_3) rfl rfl rfl (by decide) (by decide) (fun h5 a6 g7 X8 A9 E10 => ?_)
  refine go_cast (pc' := 9) (wk G 47 rfl) (Ins.self E10) (hb hby d2_6) rfl ?_
  have K11 : Keep h0 h5 [] := ((Keep.refl h0 []).ext X8)
  refine go_areturn hret hlk rfl rfl (hb hby d2_9) (by decide) (by decide) ⟨_, rfl, ⟨a6, k1, rfl, (Nat.le_of_eq g7), A9⟩⟩ K11
theorem ef_of (m : MethodId) (a : Addr)  : entryFrame m #[(.ref a)] 6 = mkF m 0 #[.val (.ref a), .unset, .unset, .unset, .unset, .unset] [] := by first | (simp [entryFrame, mkF, argsToLocals, Value.category]; done) | rfl
def Q_of (Z : State) (a : Addr) (cs : List Int32) (h0 : Heap) (xv : Value) (h : Heap) : Prop := ((.ref (s_TRANSPARENT Z)) = xv ∧ [(116 : Int32), (114 : Int32), (97 : Int32), (110 : Int32), (115 : Int32), (112 : Int32), (97 : Int32), (114 : Int32), (101 : Int32), (110 : Int32), (116 : Int32)] = cs) ∨ ((.ref (s_TRANSLUCENT Z)) = xv ∧ [(116 : Int32), (114 : Int32), (97 : Int32), (110 : Int32), (115 : Int32), (108 : Int32), (117 : Int32), (99 : Int32), (101 : Int32), (110 : Int32), (116 : Int32)] = cs) ∨ ((.ref (s_OPAQUE Z)) = xv ∧ [(111 : Int32), (112 : Int32), (97 : Int32), (113 : Int32), (117 : Int32), (101 : Int32)] = cs) ∨ (.null = xv ∧ ¬ [(116 : Int32), (114 : Int32), (97 : Int32), (110 : Int32), (115 : Int32), (112 : Int32), (97 : Int32), (114 : Int32), (101 : Int32), (110 : Int32), (116 : Int32)] = cs ∧ ¬ [(116 : Int32), (114 : Int32), (97 : Int32), (110 : Int32), (115 : Int32), (108 : Int32), (117 : Int32), (99 : Int32), (101 : Int32), (110 : Int32), (116 : Int32)] = cs ∧ ¬ [(111 : Int32), (112 : Int32), (97 : Int32), (113 : Int32), (117 : Int32), (101 : Int32)] = cs)
set_option maxRecDepth 65536 in
set_option maxHeartbeats 40000000 in
theorem c_of (l : Launch) {Z : State} {a0 : Array Value} (G : GH Z a0) (a : Addr) (cs : List Int32) (h0 : Heap) (O0 : Old Z Z.heap.size h0) (p1 : Str Z h0 a cs) : Con false [] l Z (⟨"com/example/ispol/ispol/walls/Transparency", "of", "(Ljava/lang/String;)Lcom/example/ispol/ispol/walls/Transparency;"⟩ : MethodName) prog_21_method_4_code 6 (some (.object "com/example/ispol/ispol/walls/Transparency")) [] ({ frames := 2, cells := 1, slots := 3, locals := 28 } : Room) #[(.ref a)] h0 [] (rvl (Q_of Z a cs h0)) := by
  refine con_of (a0 := a0) (plainFor_of_name pn2) (fun q => rfl) EW.nil O0 (fun m => ef_of m a) ?_
  intro p_ e_ s_ m_ below_ meth_ c_ hby hml hret hlk hnm
  refine go_aconst_null (pc' := 1) (hb hby d3_0) rfl ?_
  refine go_astore_n (pc' := 2) (ls' := #[.val (.ref a), .val .null, .unset, .unset, .unset, .unset]) (hb hby d3_1) rfl rfl rfl ?_
  refine callS0 (cells' := 1) (slots' := 3) (Wd := 0) (argsL := []) (rest := []) (pay_of (a0 := a0) (c_values l G  h0 O0 ) (wk G 33 rfl) (wk G 29 rfl) (by decide) (by decide)) (wk G 31 rfl) (wk G 32 rfl) (wk G 29 rfl) (wk G 33 rfl) (by decide) pd1 rfl rfl (by rw [hml]; rfl) (Nat.le_of_ble_eq_true rfl) rfl rfl (by decide) (by decide) all0 (fun _ _ => sf0) (hb hby d3_2) (k_v (pc' := 5) rfl ?_)
  rintro _ h1 ⟨r3, r4, rfl, f5, f6⟩ K2
  refine go_astore_n (pc' := 6) (ls' := #[.val (.ref a), .val .null, .val (.ref r3), .unset, .unset, .unset]) (hb hby d3_5) rfl rfl rfl ?_
  refine go_aload_n (pc' := 7) (hb hby d3_6) rfl rfl rfl ?_
  refine go_arraylength (pc' := 8) f6 (hb hby d3_7) rfl ?_
  refine go_istore_n (pc' := 9) (ls' := #[.val (.ref a), .val .null, .val (.ref r3), .val (.int (3 : Int32)), .unset, .unset]) (hb hby d3_8) rfl rfl ?_
  refine go_iconst (pc' := 10) (v := 0) (hb hby d3_9) rfl rfl ?_
  refine go_istore (pc' := 12) (ls' := #[.val (.ref a), .val .null, .val (.ref r3), .val (.int (3 : Int32)), .val (.int (0 : Int32)), .unset]) (hb hby d3_10) rfl rfl ?_
  refine go_iload (pc' := 14) (hb hby d3_12) rfl rfl ?_
  refine go_iload_n (pc' := 15) (hb hby d3_14) rfl rfl ?_
  refine go_icF (pc' := 18) (hb hby d3_15) rfl (by decide) ?_
  refine go_aload_n (pc' := 19) (hb hby d3_18) rfl rfl rfl ?_
  refine go_iload (pc' := 21) (hb hby d3_19) rfl rfl ?_
  refine go_aaload (pc' := 22) (i := 0) (v := (.ref (s_TRANSPARENT Z))) f6 rfl (by decide) (by decide) rfl rfl (hb hby d3_21) rfl ?_
  refine go_astore (pc' := 24) (ls' := #[.val (.ref a), .val .null, .val (.ref r3), .val (.int (3 : Int32)), .val (.int (0 : Int32)), .val (.ref (s_TRANSPARENT Z))]) (hb hby d3_22) rfl rfl rfl ?_
  refine go_aload (pc' := 26) (hb hby d3_24) rfl rfl rfl ?_
  refine go_old (fun O8 => ?_)
  have Z7 := (wd_TRANSPARENT G).1.ext O8.2
  refine go_getF (pc' := 29) (wk G 49 rfl) Via.refl Z7 (hb hby d3_26) rfl ?_
  refine go_aload_n (pc' := 30) (hb hby d3_29) rfl rfl rfl ?_
  have Z9 := (wd_TRANSPARENT G).2.ext O8.2
  have K10 : Keep h0 h1 [] := ((Keep.refl h0 []).trans K2 all0)
  have S11 := (p1.keep K10)
  have Z12 := (wd_TRANSPARENT G).2.exa.ext O8.2
  refine callV0 (cells' := 1) (slots' := 3) (Wd := 0) (argsL := [(.ref a)]) (rest := []) (pay_eq G O8 Z9 S11 (by decide) (by decide)) Z12 (wk G 51 rfl) (wk G 52 rfl) (wk G 54 rfl) (wk G 54 rfl) (wk G 53 rfl) (by decide) pd2 rfl rfl (by rw [hml]; rfl) (Nat.le_of_ble_eq_true rfl) rfl rfl (by decide) (by decide) all0 (fun _ _ => sf0) (hb hby d3_30) (k_v (pc' := 33) rfl ?_)
  rintro _ _ (⟨rfl, q13, rfl⟩ | ⟨rfl, q13, rfl⟩) -
  · refine go_ifF (pc' := 36) (hb hby d3_33) rfl (by decide) ?_
    refine go_aload (pc' := 38) (hb hby d3_36) rfl rfl rfl ?_
    refine go_astore_n (pc' := 39) (ls' := #[.val (.ref a), .val (.ref (s_TRANSPARENT Z)), .val (.ref r3), .val (.int (3 : Int32)), .val (.int (0 : Int32)), .val (.ref (s_TRANSPARENT Z))]) (hb hby d3_38) rfl rfl rfl ?_
    refine go_iinc (pc' := 42) (ls' := #[.val (.ref a), .val (.ref (s_TRANSPARENT Z)), .val (.ref r3), .val (.int (3 : Int32)), .val (.int (1 : Int32)), .val (.ref (s_TRANSPARENT Z))]) (y := (1 : Int32)) (hb hby d3_39) rfl rfl rfl rfl ?_
    refine go_goto (pc' := 12) (hb hby d3_42) (by decide) rfl ?_
    refine go_iload (pc' := 14) (hb hby d3_12) rfl rfl ?_
    refine go_iload_n (pc' := 15) (hb hby d3_14) rfl rfl ?_
    refine go_icF (pc' := 18) (hb hby d3_15) rfl (by decide) ?_
    refine go_aload_n (pc' := 19) (hb hby d3_18) rfl rfl rfl ?_
    refine go_iload (pc' := 21) (hb hby d3_19) rfl rfl ?_
    refine go_aaload (pc' := 22) (i := 1) (v := (.ref (s_TRANSLUCENT Z))) f6 rfl (by decide) (by decide) rfl rfl (hb hby d3_21) rfl ?_
    refine go_astore (pc' := 24) (ls' := #[.val (.ref a), .val (.ref (s_TRANSPARENT Z)), .val (.ref r3), .val (.int (3 : Int32)), .val (.int (1 : Int32)), .val (.ref (s_TRANSLUCENT Z))]) (hb hby d3_22) rfl rfl rfl ?_
    refine go_aload (pc' := 26) (hb hby d3_24) rfl rfl rfl ?_
    have Z14 := (wd_TRANSLUCENT G).1.ext O8.2
    refine go_getF (pc' := 29) (wk G 49 rfl) Via.refl Z14 (hb hby d3_26) rfl ?_
    refine go_aload_n (pc' := 30) (hb hby d3_29) rfl rfl rfl ?_
    have Z15 := (wd_TRANSLUCENT G).2.ext O8.2
    have Z16 := (wd_TRANSLUCENT G).2.exa.ext O8.2
    refine callV0 (cells' := 1) (slots' := 3) (Wd := 0) (argsL := [(.ref a)]) (rest := []) (pay_eq G O8 Z15 S11 (by decide) (by decide)) Z16 (wk G 51 rfl) (wk G 52 rfl) (wk G 54 rfl) (wk G 54 rfl) (wk G 53 rfl) (by decide) pd2 rfl rfl (by rw [hml]; rfl) (Nat.le_of_ble_eq_true rfl) rfl rfl (by decide) (by decide) all0 (fun _ _ => sf0) (hb hby d3_30) (k_v (pc' := 33) rfl ?_)
    rintro _ _ (⟨rfl, q17, rfl⟩ | ⟨rfl, q17, rfl⟩) -
    · exact absurd (q13.trans q17.symm) (by decide)
    · refine go_ifT (pc' := 39) (hb hby d3_33) (by decide) rfl (by decide) ?_
      refine go_iinc (pc' := 42) (ls' := #[.val (.ref a), .val (.ref (s_TRANSPARENT Z)), .val (.ref r3), .val (.int (3 : Int32)), .val (.int (2 : Int32)), .val (.ref (s_TRANSLUCENT Z))]) (y := (2 : Int32)) (hb hby d3_39) rfl rfl rfl rfl ?_
      refine go_goto (pc' := 12) (hb hby d3_42) (by decide) rfl ?_
      refine go_iload (pc' := 14) (hb hby d3_12) rfl rfl ?_
      refine go_iload_n (pc' := 15) (hb hby d3_14) rfl rfl ?_
      refine go_icF (pc' := 18) (hb hby d3_15) rfl (by decide) ?_
      refine go_aload_n (pc' := 19) (hb hby d3_18) rfl rfl rfl ?_
      refine go_iload (pc' := 21) (hb hby d3_19) rfl rfl ?_
      refine go_aaload (pc' := 22) (i := 2) (v := (.ref (s_OPAQUE Z))) f6 rfl (by decide) (by decide) rfl rfl (hb hby d3_21) rfl ?_
      refine go_astore (pc' := 24) (ls' := #[.val (.ref a), .val (.ref (s_TRANSPARENT Z)), .val (.ref r3), .val (.int (3 : Int32)), .val (.int (2 : Int32)), .val (.ref (s_OPAQUE Z))]) (hb hby d3_22) rfl rfl rfl ?_
      refine go_aload (pc' := 26) (hb hby d3_24) rfl rfl rfl ?_
      have Z18 := (wd_OPAQUE G).1.ext O8.2
      refine go_getF (pc' := 29) (wk G 49 rfl) Via.refl Z18 (hb hby d3_26) rfl ?_
      refine go_aload_n (pc' := 30) (hb hby d3_29) rfl rfl rfl ?_
      have Z19 := (wd_OPAQUE G).2.ext O8.2
      have Z20 := (wd_OPAQUE G).2.exa.ext O8.2
      refine callV0 (cells' := 1) (slots' := 3) (Wd := 0) (argsL := [(.ref a)]) (rest := []) (pay_eq G O8 Z19 S11 (by decide) (by decide)) Z20 (wk G 51 rfl) (wk G 52 rfl) (wk G 54 rfl) (wk G 54 rfl) (wk G 53 rfl) (by decide) pd2 rfl rfl (by rw [hml]; rfl) (Nat.le_of_ble_eq_true rfl) rfl rfl (by decide) (by decide) all0 (fun _ _ => sf0) (hb hby d3_30) (k_v (pc' := 33) rfl ?_)
      rintro _ _ (⟨rfl, q21, rfl⟩ | ⟨rfl, q21, rfl⟩) -
      · exact absurd (q13.trans q21.symm) (by decide)
      · refine go_ifT (pc' := 39) (hb hby d3_33) (by decide) rfl (by decide) ?_
        refine go_iinc (pc' := 42) (ls' := #[.val (.ref a), .val (.ref (s_TRANSPARENT Z)), .val (.ref r3), .val (.int (3 : Int32)), .val (.int (3 : Int32)), .val (.ref (s_OPAQUE Z))]) (y := (3 : Int32)) (hb hby d3_39) rfl rfl rfl rfl ?_
        refine go_goto (pc' := 12) (hb hby d3_42) (by decide) rfl ?_
        refine go_iload (pc' := 14) (hb hby d3_12) rfl rfl ?_
        refine go_iload_n (pc' := 15) (hb hby d3_14) rfl rfl ?_
        refine go_icT (pc' := 45) (hb hby d3_15) (by decide) rfl (by decide) ?_
        refine go_aload_n (pc' := 46) (hb hby d3_45) rfl rfl rfl ?_
        refine go_areturn hret hlk rfl rfl (hb hby d3_46) (by decide) (by decide) ⟨_, rfl, (Or.inl ⟨rfl, q13⟩)⟩ K10
  · refine go_ifT (pc' := 39) (hb hby d3_33) (by decide) rfl (by decide) ?_
    refine go_iinc (pc' := 42) (ls' := #[.val (.ref a), .val .null, .val (.ref r3), .val (.int (3 : Int32)), .val (.int (1 : Int32)), .val (.ref (s_TRANSPARENT Z))]) (y := (1 : Int32)) (hb hby d3_39) rfl rfl rfl rfl ?_
    refine go_goto (pc' := 12) (hb hby d3_42) (by decide) rfl ?_
    refine go_iload (pc' := 14) (hb hby d3_12) rfl rfl ?_
    refine go_iload_n (pc' := 15) (hb hby d3_14) rfl rfl ?_
    refine go_icF (pc' := 18) (hb hby d3_15) rfl (by decide) ?_
    refine go_aload_n (pc' := 19) (hb hby d3_18) rfl rfl rfl ?_
    refine go_iload (pc' := 21) (hb hby d3_19) rfl rfl ?_
    refine go_aaload (pc' := 22) (i := 1) (v := (.ref (s_TRANSLUCENT Z))) f6 rfl (by decide) (by decide) rfl rfl (hb hby d3_21) rfl ?_
    refine go_astore (pc' := 24) (ls' := #[.val (.ref a), .val .null, .val (.ref r3), .val (.int (3 : Int32)), .val (.int (1 : Int32)), .val (.ref (s_TRANSLUCENT Z))]) (hb hby d3_22) rfl rfl rfl ?_
    refine go_aload (pc' := 26) (hb hby d3_24) rfl rfl rfl ?_
    have Z22 := (wd_TRANSLUCENT G).1.ext O8.2
    refine go_getF (pc' := 29) (wk G 49 rfl) Via.refl Z22 (hb hby d3_26) rfl ?_
    refine go_aload_n (pc' := 30) (hb hby d3_29) rfl rfl rfl ?_
    have Z23 := (wd_TRANSLUCENT G).2.ext O8.2
    have Z24 := (wd_TRANSLUCENT G).2.exa.ext O8.2
    refine callV0 (cells' := 1) (slots' := 3) (Wd := 0) (argsL := [(.ref a)]) (rest := []) (pay_eq G O8 Z23 S11 (by decide) (by decide)) Z24 (wk G 51 rfl) (wk G 52 rfl) (wk G 54 rfl) (wk G 54 rfl) (wk G 53 rfl) (by decide) pd2 rfl rfl (by rw [hml]; rfl) (Nat.le_of_ble_eq_true rfl) rfl rfl (by decide) (by decide) all0 (fun _ _ => sf0) (hb hby d3_30) (k_v (pc' := 33) rfl ?_)
    rintro _ _ (⟨rfl, q25, rfl⟩ | ⟨rfl, q25, rfl⟩) -
    · refine go_ifF (pc' := 36) (hb hby d3_33) rfl (by decide) ?_
      refine go_aload (pc' := 38) (hb hby d3_36) rfl rfl rfl ?_
      refine go_astore_n (pc' := 39) (ls' := #[.val (.ref a), .val (.ref (s_TRANSLUCENT Z)), .val (.ref r3), .val (.int (3 : Int32)), .val (.int (1 : Int32)), .val (.ref (s_TRANSLUCENT Z))]) (hb hby d3_38) rfl rfl rfl ?_
      refine go_iinc (pc' := 42) (ls' := #[.val (.ref a), .val (.ref (s_TRANSLUCENT Z)), .val (.ref r3), .val (.int (3 : Int32)), .val (.int (2 : Int32)), .val (.ref (s_TRANSLUCENT Z))]) (y := (2 : Int32)) (hb hby d3_39) rfl rfl rfl rfl ?_
      refine go_goto (pc' := 12) (hb hby d3_42) (by decide) rfl ?_
      refine go_iload (pc' := 14) (hb hby d3_12) rfl rfl ?_
      refine go_iload_n (pc' := 15) (hb hby d3_14) rfl rfl ?_
      refine go_icF (pc' := 18) (hb hby d3_15) rfl (by decide) ?_
      refine go_aload_n (pc' := 19) (hb hby d3_18) rfl rfl rfl ?_
      refine go_iload (pc' := 21) (hb hby d3_19) rfl rfl ?_
      refine go_aaload (pc' := 22) (i := 2) (v := (.ref (s_OPAQUE Z))) f6 rfl (by decide) (by decide) rfl rfl (hb hby d3_21) rfl ?_
      refine go_astore (pc' := 24) (ls' := #[.val (.ref a), .val (.ref (s_TRANSLUCENT Z)), .val (.ref r3), .val (.int (3 : Int32)), .val (.int (2 : Int32)), .val (.ref (s_OPAQUE Z))]) (hb hby d3_22) rfl rfl rfl ?_
      refine go_aload (pc' := 26) (hb hby d3_24) rfl rfl rfl ?_
      have Z26 := (wd_OPAQUE G).1.ext O8.2
      refine go_getF (pc' := 29) (wk G 49 rfl) Via.refl Z26 (hb hby d3_26) rfl ?_
      refine go_aload_n (pc' := 30) (hb hby d3_29) rfl rfl rfl ?_
      have Z27 := (wd_OPAQUE G).2.ext O8.2
      have Z28 := (wd_OPAQUE G).2.exa.ext O8.2
      refine callV0 (cells' := 1) (slots' := 3) (Wd := 0) (argsL := [(.ref a)]) (rest := []) (pay_eq G O8 Z27 S11 (by decide) (by decide)) Z28 (wk G 51 rfl) (wk G 52 rfl) (wk G 54 rfl) (wk G 54 rfl) (wk G 53 rfl) (by decide) pd2 rfl rfl (by rw [hml]; rfl) (Nat.le_of_ble_eq_true rfl) rfl rfl (by decide) (by decide) all0 (fun _ _ => sf0) (hb hby d3_30) (k_v (pc' := 33) rfl ?_)
      rintro _ _ (⟨rfl, q29, rfl⟩ | ⟨rfl, q29, rfl⟩) -
      · exact absurd (q25.trans q29.symm) (by decide)
      · refine go_ifT (pc' := 39) (hb hby d3_33) (by decide) rfl (by decide) ?_
        refine go_iinc (pc' := 42) (ls' := #[.val (.ref a), .val (.ref (s_TRANSLUCENT Z)), .val (.ref r3), .val (.int (3 : Int32)), .val (.int (3 : Int32)), .val (.ref (s_OPAQUE Z))]) (y := (3 : Int32)) (hb hby d3_39) rfl rfl rfl rfl ?_
        refine go_goto (pc' := 12) (hb hby d3_42) (by decide) rfl ?_
        refine go_iload (pc' := 14) (hb hby d3_12) rfl rfl ?_
        refine go_iload_n (pc' := 15) (hb hby d3_14) rfl rfl ?_
        refine go_icT (pc' := 45) (hb hby d3_15) (by decide) rfl (by decide) ?_
        refine go_aload_n (pc' := 46) (hb hby d3_45) rfl rfl rfl ?_
        refine go_areturn hret hlk rfl rfl (hb hby d3_46) (by decide) (by decide) ⟨_, rfl, (Or.inr (Or.inl ⟨rfl, q25⟩))⟩ K10
    · refine go_ifT (pc' := 39) (hb hby d3_33) (by decide) rfl (by decide) ?_
      refine go_iinc (pc' := 42) (ls' := #[.val (.ref a), .val .null, .val (.ref r3), .val (.int (3 : Int32)), .val (.int (2 : Int32)), .val (.ref (s_TRANSLUCENT Z))]) (y := (2 : Int32)) (hb hby d3_39) rfl rfl rfl rfl ?_
      refine go_goto (pc' := 12) (hb hby d3_42) (by decide) rfl ?_
      refine go_iload (pc' := 14) (hb hby d3_12) rfl rfl ?_
      refine go_iload_n (pc' := 15) (hb hby d3_14) rfl rfl ?_
      refine go_icF (pc' := 18) (hb hby d3_15) rfl (by decide) ?_
      refine go_aload_n (pc' := 19) (hb hby d3_18) rfl rfl rfl ?_
      refine go_iload (pc' := 21) (hb hby d3_19) rfl rfl ?_
      refine go_aaload (pc' := 22) (i := 2) (v := (.ref (s_OPAQUE Z))) f6 rfl (by decide) (by decide) rfl rfl (hb hby d3_21) rfl ?_
      refine go_astore (pc' := 24) (ls' := #[.val (.ref a), .val .null, .val (.ref r3), .val (.int (3 : Int32)), .val (.int (2 : Int32)), .val (.ref (s_OPAQUE Z))]) (hb hby d3_22) rfl rfl rfl ?_
      refine go_aload (pc' := 26) (hb hby d3_24) rfl rfl rfl ?_
      have Z30 := (wd_OPAQUE G).1.ext O8.2
      refine go_getF (pc' := 29) (wk G 49 rfl) Via.refl Z30 (hb hby d3_26) rfl ?_
      refine go_aload_n (pc' := 30) (hb hby d3_29) rfl rfl rfl ?_
      have Z31 := (wd_OPAQUE G).2.ext O8.2
      have Z32 := (wd_OPAQUE G).2.exa.ext O8.2
      refine callV0 (cells' := 1) (slots' := 3) (Wd := 0) (argsL := [(.ref a)]) (rest := []) (pay_eq G O8 Z31 S11 (by decide) (by decide)) Z32 (wk G 51 rfl) (wk G 52 rfl) (wk G 54 rfl) (wk G 54 rfl) (wk G 53 rfl) (by decide) pd2 rfl rfl (by rw [hml]; rfl) (Nat.le_of_ble_eq_true rfl) rfl rfl (by decide) (by decide) all0 (fun _ _ => sf0) (hb hby d3_30) (k_v (pc' := 33) rfl ?_)
      rintro _ _ (⟨rfl, q33, rfl⟩ | ⟨rfl, q33, rfl⟩) -
      · refine go_ifF (pc' := 36) (hb hby d3_33) rfl (by decide) ?_
        refine go_aload (pc' := 38) (hb hby d3_36) rfl rfl rfl ?_
        refine go_astore_n (pc' := 39) (ls' := #[.val (.ref a), .val (.ref (s_OPAQUE Z)), .val (.ref r3), .val (.int (3 : Int32)), .val (.int (2 : Int32)), .val (.ref (s_OPAQUE Z))]) (hb hby d3_38) rfl rfl rfl ?_
        refine go_iinc (pc' := 42) (ls' := #[.val (.ref a), .val (.ref (s_OPAQUE Z)), .val (.ref r3), .val (.int (3 : Int32)), .val (.int (3 : Int32)), .val (.ref (s_OPAQUE Z))]) (y := (3 : Int32)) (hb hby d3_39) rfl rfl rfl rfl ?_
        refine go_goto (pc' := 12) (hb hby d3_42) (by decide) rfl ?_
        refine go_iload (pc' := 14) (hb hby d3_12) rfl rfl ?_
        refine go_iload_n (pc' := 15) (hb hby d3_14) rfl rfl ?_
        refine go_icT (pc' := 45) (hb hby d3_15) (by decide) rfl (by decide) ?_
        refine go_aload_n (pc' := 46) (hb hby d3_45) rfl rfl rfl ?_
        refine go_areturn hret hlk rfl rfl (hb hby d3_46) (by decide) (by decide) ⟨_, rfl, (Or.inr (Or.inr (Or.inl ⟨rfl, q33⟩)))⟩ K10
      · refine go_ifT (pc' := 39) (hb hby d3_33) (by decide) rfl (by decide) ?_
        refine go_iinc (pc' := 42) (ls' := #[.val (.ref a), .val .null, .val (.ref r3), .val (.int (3 : Int32)), .val (.int (3 : Int32)), .val (.ref (s_OPAQUE Z))]) (y := (3 : Int32)) (hb hby d3_39) rfl rfl rfl rfl ?_
        refine go_goto (pc' := 12) (hb hby d3_42) (by decide) rfl ?_
        refine go_iload (pc' := 14) (hb hby d3_12) rfl rfl ?_
        refine go_iload_n (pc' := 15) (hb hby d3_14) rfl rfl ?_
        refine go_icT (pc' := 45) (hb hby d3_15) (by decide) rfl (by decide) ?_
        refine go_aload_n (pc' := 46) (hb hby d3_45) rfl rfl rfl ?_
        refine go_areturn hret hlk rfl rfl (hb hby d3_46) (by decide) (by decide) ⟨_, rfl, (Or.inr (Or.inr (Or.inr (⟨rfl, q13, q25, q33⟩))))⟩ K10
theorem ef_ofnull (m : MethodId)   : entryFrame m #[.null] 6 = mkF m 0 #[.val .null, .unset, .unset, .unset, .unset, .unset] [] := by first | (simp [entryFrame, mkF, argsToLocals, Value.category]; done) | rfl
def Q_ofnull (Z : State)   (h0 : Heap) (xv : Value) (h : Heap) : Prop := .null = xv
set_option maxRecDepth 65536 in
set_option maxHeartbeats 40000000 in
theorem c_ofnull (l : Launch) {Z : State} {a0 : Array Value} (G : GH Z a0)   (h0 : Heap) (O0 : Old Z Z.heap.size h0)  : Con false [] l Z (⟨"com/example/ispol/ispol/walls/Transparency", "of", "(Ljava/lang/String;)Lcom/example/ispol/ispol/walls/Transparency;"⟩ : MethodName) prog_21_method_4_code 6 (some (.object "com/example/ispol/ispol/walls/Transparency")) [] ({ frames := 2, cells := 1, slots := 3, locals := 25 } : Room) #[.null] h0 [] (rvl (Q_ofnull Z h0)) := by
  refine con_of (a0 := a0) (plainFor_of_name pn2) (fun q => rfl) EW.nil O0 (fun m => ef_ofnull m ) ?_
  intro p_ e_ s_ m_ below_ meth_ c_ hby hml hret hlk hnm
  refine go_aconst_null (pc' := 1) (hb hby d3_0) rfl ?_
  refine go_astore_n (pc' := 2) (ls' := #[.val .null, .val .null, .unset, .unset, .unset, .unset]) (hb hby d3_1) rfl rfl rfl ?_
  refine callS0 (cells' := 1) (slots' := 3) (Wd := 0) (argsL := []) (rest := []) (pay_of (a0 := a0) (c_values l G  h0 O0 ) (wk G 33 rfl) (wk G 29 rfl) (by decide) (by decide)) (wk G 31 rfl) (wk G 32 rfl) (wk G 29 rfl) (wk G 33 rfl) (by decide) pd1 rfl rfl (by rw [hml]; rfl) (Nat.le_of_ble_eq_true rfl) rfl rfl (by decide) (by decide) all0 (fun _ _ => sf0) (hb hby d3_2) (k_v (pc' := 5) rfl ?_)
  rintro _ h1 ⟨r3, r4, rfl, f5, f6⟩ K2
  refine go_astore_n (pc' := 6) (ls' := #[.val .null, .val .null, .val (.ref r3), .unset, .unset, .unset]) (hb hby d3_5) rfl rfl rfl ?_
  refine go_aload_n (pc' := 7) (hb hby d3_6) rfl rfl rfl ?_
  refine go_arraylength (pc' := 8) f6 (hb hby d3_7) rfl ?_
  refine go_istore_n (pc' := 9) (ls' := #[.val .null, .val .null, .val (.ref r3), .val (.int (3 : Int32)), .unset, .unset]) (hb hby d3_8) rfl rfl ?_
  refine go_iconst (pc' := 10) (v := 0) (hb hby d3_9) rfl rfl ?_
  refine go_istore (pc' := 12) (ls' := #[.val .null, .val .null, .val (.ref r3), .val (.int (3 : Int32)), .val (.int (0 : Int32)), .unset]) (hb hby d3_10) rfl rfl ?_
  refine go_iload (pc' := 14) (hb hby d3_12) rfl rfl ?_
  refine go_iload_n (pc' := 15) (hb hby d3_14) rfl rfl ?_
  refine go_icF (pc' := 18) (hb hby d3_15) rfl (by decide) ?_
  refine go_aload_n (pc' := 19) (hb hby d3_18) rfl rfl rfl ?_
  refine go_iload (pc' := 21) (hb hby d3_19) rfl rfl ?_
  refine go_aaload (pc' := 22) (i := 0) (v := (.ref (s_TRANSPARENT Z))) f6 rfl (by decide) (by decide) rfl rfl (hb hby d3_21) rfl ?_
  refine go_astore (pc' := 24) (ls' := #[.val .null, .val .null, .val (.ref r3), .val (.int (3 : Int32)), .val (.int (0 : Int32)), .val (.ref (s_TRANSPARENT Z))]) (hb hby d3_22) rfl rfl rfl ?_
  refine go_aload (pc' := 26) (hb hby d3_24) rfl rfl rfl ?_
  refine go_old (fun O8 => ?_)
  have Z7 := (wd_TRANSPARENT G).1.ext O8.2
  refine go_getF (pc' := 29) (wk G 49 rfl) Via.refl Z7 (hb hby d3_26) rfl ?_
  refine go_aload_n (pc' := 30) (hb hby d3_29) rfl rfl rfl ?_
  have Z9 := (wd_TRANSPARENT G).2.exa.ext O8.2
  refine callV0 (cells' := 1) (slots' := 3) (Wd := 0) (argsL := [.null]) (rest := []) (pay_of (a0 := a0) (c_eqnull l G (w_TRANSPARENT Z) h1 O8 ) (wk G 55 rfl) (wk G 6 rfl) (by decide) (by decide)) Z9 (wk G 51 rfl) (wk G 52 rfl) (wk G 54 rfl) (wk G 54 rfl) (wk G 53 rfl) (by decide) pd2 rfl rfl (by rw [hml]; rfl) (Nat.le_of_ble_eq_true rfl) rfl rfl (by decide) (by decide) all0 (fun _ _ => sf0) (hb hby d3_30) (k_v (pc' := 33) rfl ?_)
  rintro _ h10 ⟨rfl, rfl⟩ K11
  refine go_ifT (pc' := 39) (hb hby d3_33) (by decide) rfl (by decide) ?_
  refine go_iinc (pc' := 42) (ls' := #[.val .null, .val .null, .val (.ref r3), .val (.int (3 : Int32)), .val (.int (1 : Int32)), .val (.ref (s_TRANSPARENT Z))]) (y := (1 : Int32)) (hb hby d3_39) rfl rfl rfl rfl ?_
  refine go_goto (pc' := 12) (hb hby d3_42) (by decide) rfl ?_
  refine go_iload (pc' := 14) (hb hby d3_12) rfl rfl ?_
  refine go_iload_n (pc' := 15) (hb hby d3_14) rfl rfl ?_
  refine go_icF (pc' := 18) (hb hby d3_15) rfl (by decide) ?_
  refine go_aload_n (pc' := 19) (hb hby d3_18) rfl rfl rfl ?_
  refine go_iload (pc' := 21) (hb hby d3_19) rfl rfl ?_
  refine go_aaload (pc' := 22) (i := 1) (v := (.ref (s_TRANSLUCENT Z))) f6 rfl (by decide) (by decide) rfl rfl (hb hby d3_21) rfl ?_
  refine go_astore (pc' := 24) (ls' := #[.val .null, .val .null, .val (.ref r3), .val (.int (3 : Int32)), .val (.int (1 : Int32)), .val (.ref (s_TRANSLUCENT Z))]) (hb hby d3_22) rfl rfl rfl ?_
  refine go_aload (pc' := 26) (hb hby d3_24) rfl rfl rfl ?_
  have Z12 := (wd_TRANSLUCENT G).1.ext O8.2
  refine go_getF (pc' := 29) (wk G 49 rfl) Via.refl Z12 (hb hby d3_26) rfl ?_
  refine go_aload_n (pc' := 30) (hb hby d3_29) rfl rfl rfl ?_
  have Z13 := (wd_TRANSLUCENT G).2.exa.ext O8.2
  refine callV0 (cells' := 1) (slots' := 3) (Wd := 0) (argsL := [.null]) (rest := []) (pay_of (a0 := a0) (c_eqnull l G (w_TRANSLUCENT Z) h1 O8 ) (wk G 55 rfl) (wk G 6 rfl) (by decide) (by decide)) Z13 (wk G 51 rfl) (wk G 52 rfl) (wk G 54 rfl) (wk G 54 rfl) (wk G 53 rfl) (by decide) pd2 rfl rfl (by rw [hml]; rfl) (Nat.le_of_ble_eq_true rfl) rfl rfl (by decide) (by decide) all0 (fun _ _ => sf0) (hb hby d3_30) (k_v (pc' := 33) rfl ?_)
  rintro _ h14 ⟨rfl, rfl⟩ K15
  refine go_ifT (pc' := 39) (hb hby d3_33) (by decide) rfl (by decide) ?_
  refine go_iinc (pc' := 42) (ls' := #[.val .null, .val .null, .val (.ref r3), .val (.int (3 : Int32)), .val (.int (2 : Int32)), .val (.ref (s_TRANSLUCENT Z))]) (y := (2 : Int32)) (hb hby d3_39) rfl rfl rfl rfl ?_
  refine go_goto (pc' := 12) (hb hby d3_42) (by decide) rfl ?_
  refine go_iload (pc' := 14) (hb hby d3_12) rfl rfl ?_
  refine go_iload_n (pc' := 15) (hb hby d3_14) rfl rfl ?_
  refine go_icF (pc' := 18) (hb hby d3_15) rfl (by decide) ?_
  refine go_aload_n (pc' := 19) (hb hby d3_18) rfl rfl rfl ?_
  refine go_iload (pc' := 21) (hb hby d3_19) rfl rfl ?_
  refine go_aaload (pc' := 22) (i := 2) (v := (.ref (s_OPAQUE Z))) f6 rfl (by decide) (by decide) rfl rfl (hb hby d3_21) rfl ?_
  refine go_astore (pc' := 24) (ls' := #[.val .null, .val .null, .val (.ref r3), .val (.int (3 : Int32)), .val (.int (2 : Int32)), .val (.ref (s_OPAQUE Z))]) (hb hby d3_22) rfl rfl rfl ?_
  refine go_aload (pc' := 26) (hb hby d3_24) rfl rfl rfl ?_
  have Z16 := (wd_OPAQUE G).1.ext O8.2
  refine go_getF (pc' := 29) (wk G 49 rfl) Via.refl Z16 (hb hby d3_26) rfl ?_
  refine go_aload_n (pc' := 30) (hb hby d3_29) rfl rfl rfl ?_
  have Z17 := (wd_OPAQUE G).2.exa.ext O8.2
  refine callV0 (cells' := 1) (slots' := 3) (Wd := 0) (argsL := [.null]) (rest := []) (pay_of (a0 := a0) (c_eqnull l G (w_OPAQUE Z) h1 O8 ) (wk G 55 rfl) (wk G 6 rfl) (by decide) (by decide)) Z17 (wk G 51 rfl) (wk G 52 rfl) (wk G 54 rfl) (wk G 54 rfl) (wk G 53 rfl) (by decide) pd2 rfl rfl (by rw [hml]; rfl) (Nat.le_of_ble_eq_true rfl) rfl rfl (by decide) (by decide) all0 (fun _ _ => sf0) (hb hby d3_30) (k_v (pc' := 33) rfl ?_)
  rintro _ h18 ⟨rfl, rfl⟩ K19
  refine go_ifT (pc' := 39) (hb hby d3_33) (by decide) rfl (by decide) ?_
  refine go_iinc (pc' := 42) (ls' := #[.val .null, .val .null, .val (.ref r3), .val (.int (3 : Int32)), .val (.int (3 : Int32)), .val (.ref (s_OPAQUE Z))]) (y := (3 : Int32)) (hb hby d3_39) rfl rfl rfl rfl ?_
  refine go_goto (pc' := 12) (hb hby d3_42) (by decide) rfl ?_
  refine go_iload (pc' := 14) (hb hby d3_12) rfl rfl ?_
  refine go_iload_n (pc' := 15) (hb hby d3_14) rfl rfl ?_
  refine go_icT (pc' := 45) (hb hby d3_15) (by decide) rfl (by decide) ?_
  refine go_aload_n (pc' := 46) (hb hby d3_45) rfl rfl rfl ?_
  have K20 : Keep h0 h1 [] := ((Keep.refl h0 []).trans K2 all0)
  refine go_areturn hret hlk rfl rfl (hb hby d3_46) (by decide) (by decide) ⟨_, rfl, rfl⟩ K20
theorem ef_canenc (m : MethodId) (c : Int32)  : entryFrame m #[(.int c)] 1 = mkF m 0 #[.val (.int c)] [] := by first | (simp [entryFrame, mkF, argsToLocals, Value.category]; done) | rfl
def Q_canenc (Z : State) (c : Int32)  (h0 : Heap) (xv : Value) (h : Heap) : Prop := (.int (1 : Int32)) = xv ∧ h0 = h
set_option maxRecDepth 65536 in
set_option maxHeartbeats 40000000 in
theorem c_canenc (l : Launch) {Z : State} {a0 : Array Value} (G : GH Z a0) (c : Int32)  (h0 : Heap) (O0 : Old Z Z.heap.size h0) (p1 : C8 c) : Con false [] l Z (⟨"java/lang/StringLatin1", "canEncode", "(C)Z"⟩ : MethodName) jdk_43_method_3_code 1 (some .boolean) [] ({ frames := 0, cells := 0, slots := 0, locals := 0 } : Room) #[(.int c)] h0 [] (rvl (Q_canenc Z c h0)) := by
  refine con_of (a0 := a0) (plainFor_of_name pn3) (fun q => rfl) EW.nil O0 (fun m => ef_canenc m c) ?_
  intro p_ e_ s_ m_ below_ meth_ c_ hby hml hret hlk hnm
  refine go_iload_n (pc' := 1) (hb hby d4_0) rfl rfl ?_
  refine go_sipush (pc' := 4) (v := 255) (hb hby d4_1) rfl rfl ?_
  refine go_icF (pc' := 7) (hb hby d4_4) rfl (XT.ii_gt_f p1.2) ?_
  refine go_iconst (pc' := 8) (v := 1) (hb hby d4_7) rfl rfl ?_
  refine go_goto (pc' := 12) (hb hby d4_8) (by decide) rfl ?_
  refine go_ireturn hret hlk rfl (by simp) (hb hby d4_12) (by decide) (by decide) ⟨_, rfl, ⟨rfl, rfl⟩⟩ (Keep.refl h0 [])
theorem ef_tobytes (m : MethodId) (c : Int32)  : entryFrame m #[(.int c)] 1 = mkF m 0 #[.val (.int c)] [] := by first | (simp [entryFrame, mkF, argsToLocals, Value.category]; done) | rfl
def Q_tobytes (Z : State) (c : Int32)  (h0 : Heap) (xv : Value) (h : Heap) : Prop := ∃ (r : Addr) (k : ClassId), (.ref r) = xv ∧ h0.size ≤ r ∧ Arv Z h r k (.byte) (1 : Int32) [(.int (c).toInt8.toInt32)] (.int 0)
set_option maxRecDepth 65536 in
set_option maxHeartbeats 40000000 in
theorem c_tobytes (l : Launch) {Z : State} {a0 : Array Value} (G : GH Z a0) (c : Int32)  (h0 : Heap) (O0 : Old Z Z.heap.size h0)  : Con false [] l Z (⟨"java/lang/StringLatin1", "toBytes", "(C)[B"⟩ : MethodName) jdk_43_method_46_code 1 (some (.array .byte)) [] ({ frames := 0, cells := 1, slots := 1, locals := 0 } : Room) #[(.int c)] h0 [] (rvl (Q_tobytes Z c h0)) := by
  refine con_of (a0 := a0) (plainFor_of_name pn3) (fun q => rfl) EW.nil O0 (fun m => ef_tobytes m c) ?_
  intro p_ e_ s_ m_ below_ meth_ c_ hby hml hret hlk hnm
  refine go_iconst (pc' := 1) (v := 1) (hb hby d5_0) rfl rfl ?_
  refine go_newP (pc' := 3) (cells' := 1) (slots' := 1) (cap := 1) (vs := [(.int (0 : Int32))]) (ty := .byte) (dv := .int 0) (wk G 8 rfl) rfl rfl (hb hby d5_1) rfl (by decide) rfl (by decide) rfl rfl rfl (by decide) (by decide) (fun h1 a2 k6 g3 X4 A5 => ?_)
  refine go_dup (pc' := 4) (hb hby d5_3) rfl rfl ?_
  refine go_iconst (pc' := 5) (v := 0) (hb hby d5_4) rfl rfl ?_
  refine go_iload_n (pc' := 6) (hb hby d5_5) rfl rfl ?_
  refine go_i2b (pc' := 7) (z := (c).toInt8.toInt32) (hb hby d5_6) rfl rfl ?_
  refine go_stB (pc' := 8) (i := 0) (x' := (c).toInt8.toInt32) (vs' := [(.int (c).toInt8.toInt32)]) rfl A5 (Nat.le_trans O0.2.1 (Nat.le_of_eq g3)) (by decide) (by decide) rfl (Nat.le_of_ble_eq_true rfl) (i2b_i2b _) rfl (hb hby d5_7) rfl (fun h7 W8 A9 => ?_)
  have K10 : Keep h0 h1 [] := ((Keep.refl h0 []).ext X4)
  have K11 : Keep h0 h7 [] := (K10.wr W8 (Or.inr (Nat.le_of_eq g3)))
  refine go_areturn hret hlk rfl rfl (hb hby d5_8) (by decide) (by decide) ⟨_, rfl, ⟨a2, k6, rfl, (Nat.le_of_eq g3), A9⟩⟩ K11
theorem ef_strbb (m : MethodId) (a : Addr) (t : Addr)  : entryFrame m #[(.ref a), (.ref t), (.int (0 : Int32))] 3 = mkF m 0 #[.val (.ref a), .val (.ref t), .val (.int (0 : Int32))] [] := by first | (simp [entryFrame, mkF, argsToLocals, Value.category]; done) | rfl
def Q_strbb (Z : State) (a : Addr) (t : Addr)  (h0 : Heap) (h : Heap) : Prop := Fld Z h a "java/lang/String" "value" "[B" (.ref t) ∧ Fld Z h a "java/lang/String" "coder" "B" (.int (0 : Int32))
set_option maxRecDepth 65536 in
set_option maxHeartbeats 40000000 in
theorem c_strbb (l : Launch) {Z : State} {a0 : Array Value} (G : GH Z a0) (a : Addr) (t : Addr)  (h0 : Heap) (O0 : Old Z Z.heap.size h0) (p1 : Exa Z h0 a "java/lang/String") (p2 : Z.heap.size ≤ a) (p3 : Fld Z h0 a "java/lang/String" "value" "[B" .null) (p4 : Fld Z h0 a "java/lang/String" "coder" "B" (.int (0 : Int32))) : Con false [] l Z (⟨"java/lang/String", "<init>", "([BB)V"⟩ : MethodName) jdk_42_method_151_code 3 none [] ({ frames := 1, cells := 0, slots := 0, locals := 12 } : Room) #[(.ref a), (.ref t), (.int (0 : Int32))] h0 [a] (rno (Q_strbb Z a t h0)) := by
  refine con_of (a0 := a0) (plainFor_of_name pn1) (fun q => rfl) EW.nil O0 (fun m => ef_strbb m a t) ?_
  intro p_ e_ s_ m_ below_ meth_ c_ hby hml hret hlk hnm
  refine go_aload_n (pc' := 1) (hb hby d6_0) rfl rfl rfl ?_
  refine go_initO (pc' := 4) (Wd := 0) (wk G 80 rfl) (wk G 81 rfl) (wk G 82 rfl) (by rw [hml]; rfl) (by decide) (by decide) (by decide) (hb hby d6_1) rfl ?_
  refine go_aload_n (pc' := 5) (hb hby d6_4) rfl rfl rfl ?_
  refine go_aload_n (pc' := 6) (hb hby d6_5) rfl rfl rfl ?_
  refine go_putF (pc' := 9) (wk G 18 rfl) Via.refl p3 p1 (Or.inr ⟨(wk G 9 rfl), rfl, hnm⟩) (wk G 7 rfl) (ty := (.array .byte)) (v' := (.ref t)) (by decide) rfl rfl p2 (Or.inr rfl) (hb hby d6_6) rfl (fun h1 W2 => ?_)
  have F3 := Fld.same W2 p3
  refine go_aload_n (pc' := 10) (hb hby d6_9) rfl rfl rfl ?_
  refine go_iload_n (pc' := 11) (hb hby d6_10) rfl rfl ?_
  have F4 := (p4.other W2 (Or.inr (slot_ne (t := .byte) (t' := (.array .byte)) (Or.inr (wk G 10 rfl)) (Or.inr (wk G 9 rfl)) (by decide) (by decide) (by decide))))
  have E5 := (p1.wr W2)
  refine go_putF (pc' := 14) (wk G 25 rfl) Via.refl F4 E5 (Or.inr ⟨(wk G 10 rfl), rfl, hnm⟩) (wk G 7 rfl) (ty := .byte) (v' := (.int (0 : Int32))) (by decide) rfl (by decide) p2 (Or.inr rfl) (hb hby d6_11) rfl (fun h6 W7 => ?_)
  have F8 := Fld.same W7 F4
  have K9 : Keep h0 h1 [a] := ((Keep.refl h0 [a]).wr W2 (Or.inl (by simp)))
  have K10 : Keep h0 h6 [a] := (K9.wr W7 (Or.inl (by simp)))
  have F11 := (F3.other W7 (Or.inr (slot_ne (t := (.array .byte)) (t' := .byte) (Or.inr (wk G 9 rfl)) (Or.inr (wk G 10 rfl)) (by decide) (by decide) (by decide))))
  refine go_return hret hlk (hb hby d6_14) (by decide) (by decide) ⟨rfl, ⟨F11, F8⟩⟩ K10
theorem ef_valueof (m : MethodId) (c : Int32)  : entryFrame m #[(.int c)] 1 = mkF m 0 #[.val (.int c)] [] := by first | (simp [entryFrame, mkF, argsToLocals, Value.category]; done) | rfl
def Q_valueof (Z : State) (c : Int32)  (h0 : Heap) (xv : Value) (h : Heap) : Prop := ∃ (r : Addr), (.ref r) = xv ∧ h0.size ≤ r ∧ Str Z h r [c]
set_option maxRecDepth 65536 in
set_option maxHeartbeats 40000000 in
theorem c_valueof (l : Launch) {Z : State} {a0 : Array Value} (G : GH Z a0) (c : Int32)  (h0 : Heap) (O0 : Old Z Z.heap.size h0) (p1 : C8 c) : Con false [] l Z (⟨"java/lang/String", "valueOf", "(C)Ljava/lang/String;"⟩ : MethodName) jdk_42_method_139_code 1 (some (.object "java/lang/String")) [] ({ frames := 2, cells := 2, slots := 5, locals := 27 } : Room) #[(.int c)] h0 [] (rvl (Q_valueof Z c h0)) := by
  refine con_of (a0 := a0) (plainFor_of_name pn1) (fun q => rfl) EW.nil O0 (fun m => ef_valueof m c) ?_
  intro p_ e_ s_ m_ below_ meth_ c_ hby hml hret hlk hnm
  obtain ⟨z1, s2, q3⟩ := cs_of G
  refine go_getS (pc' := 3) (wk G 24 rfl) (s2.ext O0.2) (hb hby d7_0) rfl ?_
  refine go_ifF (pc' := 6) (hb hby d7_3) rfl (XT.i0_eq_f q3) ?_
  refine go_iload_n (pc' := 7) (hb hby d7_6) rfl rfl ?_
  refine callS0 (cells' := 0) (slots' := 0) (Wd := 0) (argsL := [(.int c)]) (rest := []) (pay_of (a0 := a0) (c_canenc l G c h0 O0 p1) (wk G 73 rfl) (wk G 60 rfl) (by decide) (by decide)) (wk G 71 rfl) (wk G 72 rfl) (wk G 60 rfl) (wk G 73 rfl) (by decide) pd3 rfl rfl (by rw [hml]; rfl) (Nat.le_of_ble_eq_true rfl) rfl rfl (by decide) (by decide) all0 (fun _ _ => sf0) (hb hby d7_7) (k_v (pc' := 10) rfl ?_)
  rintro _ h4 ⟨rfl, rfl⟩ K5
  refine go_ifF (pc' := 13) (hb hby d7_10) rfl (by decide) ?_
  refine go_newO (pc' := 16) (cells' := 1) (slots' := 4) (wk G 56 rfl) (wk G 7 rfl) (wk G 6 rfl) (hb hby d7_13) rfl rfl rfl (by decide) (by decide) (fun h6 a7 g8 X9 E10 D11 U12 => ?_)
  refine go_dup (pc' := 17) (hb hby d7_16) rfl rfl ?_
  refine go_iload_n (pc' := 18) (hb hby d7_17) rfl rfl ?_
  refine go_old (fun O13 => ?_)
  refine callS0 (cells' := 2) (slots' := 5) (Wd := 2) (argsL := [(.int c)]) (rest := [(.ref a7), (.ref a7)]) (pay_of (a0 := a0) (c_tobytes l G c h6 O13 ) (wk G 76 rfl) (wk G 60 rfl) (by decide) (by decide)) (wk G 74 rfl) (wk G 75 rfl) (wk G 60 rfl) (wk G 76 rfl) (by decide) pd4 rfl rfl (by rw [hml]; rfl) (Nat.le_of_ble_eq_true rfl) rfl rfl (by decide) (by decide) all0 (fun _ _ => sf0) (hb hby d7_18) (k_v (pc' := 21) rfl ?_)
  rintro _ h14 ⟨r16, r17, rfl, f18, f19⟩ K15
  refine go_iconst (pc' := 22) (v := 0) (hb hby d7_21) rfl rfl ?_
  have K20 : Keep h6 h14 [] := ((Keep.refl h6 []).trans K15 all0)
  have E21 := (E10.keep K20)
  have F22 := D11 (Or.inr (wk G 9 rfl)) (ty := (.array .byte)) (by decide)
  have F23 := (F22.keep K20 nin0)
  have F24 := D11 (Or.inr (wk G 10 rfl)) (ty := .byte) (by decide)
  have F25 := (F24.keep K20 nin0)
  refine go_old (fun O26 => ?_)
  refine callI0 (cells' := 2) (slots' := 5) (Wd := 1) (argsL := [(.ref r16), (.int (0 : Int32))]) (rest := [(.ref a7)]) (pay_of (a0 := a0) (c_strbb l G a7 r16 h14 O26 E21 (Nat.le_trans O0.2.1 (Nat.le_of_eq g8)) F23 F25) (wk G 79 rfl) (wk G 6 rfl) (by decide) (by decide)) rfl (wk G 77 rfl) (wk G 78 rfl) (wk G 79 rfl) (by decide) pd5 rfl rfl (by rw [hml]; rfl) (Nat.le_of_ble_eq_true rfl) rfl rfl (by decide) (by decide) (allS (Nat.le_trans O0.2.1 (Nat.le_of_eq g8)) all0) (fun _ hal => (sfS safe_nil sf0)) (hb hby d7_22) (k_n (pc' := 25) rfl ?_)
  rintro  h27 ⟨f29, f30⟩ K28
  have K31 : Keep h0 h6 [] := ((Keep.refl h0 []).ext X9)
  have K32 : Keep h0 h14 [] := (K31.trans K15 all0)
  have K33 : Keep h0 h27 [] := (K32.trans K28 (allS (Or.inr (Nat.le_of_eq g8)) all0))
  have E34 := (E21.keep K28)
  have A35 := (f19.keep K28 (ninS (Nat.ne_of_gt (Nat.lt_of_lt_of_le E10.lt f18)) nin0))
  have S36 : Str Z h27 a7 [c] := ⟨r16, r17, E34, f29, f30, A35, (c8c p1 c8n), Nat.le_of_ble_eq_true rfl⟩
  refine go_areturn hret hlk rfl rfl (hb hby d7_25) (by decide) (by decide) ⟨_, rfl, ⟨a7, rfl, (Nat.le_of_eq g8), S36⟩⟩ K33
theorem ef_new0in (m : MethodId) (a : Addr) (b : Addr)  : entryFrame m #[(.ref a), (.ref b), (.int (0 : Int32)), (.int (0 : Int32)), .null] 6 = mkF m 0 #[.val (.ref a), .val (.ref b), .val (.int (0 : Int32)), .val (.int (0 : Int32)), .val .null, .unset] [] := by first | (simp [entryFrame, mkF, argsToLocals, Value.category]; done) | rfl
def Q_new0in (Z : State) (a : Addr) (b : Addr)  (h0 : Heap) (h : Heap) : Prop := Str Z h a []
set_option maxRecDepth 65536 in
set_option maxHeartbeats 40000000 in
theorem c_new0in (l : Launch) {Z : State} {a0 : Array Value} (G : GH Z a0) (a : Addr) (b : Addr)  (h0 : Heap) (O0 : Old Z Z.heap.size h0) (p1 : Exa Z h0 a "java/lang/String") (p2 : Z.heap.size ≤ a) (p3 : Fld Z h0 a "java/lang/String" "value" "[B" .null) (p4 : Fld Z h0 a "java/lang/String" "coder" "B" (.int (0 : Int32))) : Con true EL1 l Z (⟨"java/lang/String", "<init>", "([CIILjava/lang/Void;)V"⟩ : MethodName) jdk_42_method_149_code 6 none [] ({ frames := 1, cells := 4, slots := 8, locals := 12 } : Room) #[(.ref a), (.ref b), (.int (0 : Int32)), (.int (0 : Int32)), .null] h0 [a] (rno (Q_new0in Z a b h0)) := by
  refine con_of (a0 := a0) (plainFor_of_name pn1) (fun q => nomatch q) (ew1 G) O0 (fun m => ef_new0in m a b) ?_
  intro p_ e_ s_ m_ below_ meth_ c_ hby hml hret hlk hnm
  refine go_aload_n (pc' := 1) (hb hby d8_0) rfl rfl rfl ?_
  refine go_initO (pc' := 4) (Wd := 0) (wk G 80 rfl) (wk G 81 rfl) (wk G 82 rfl) (by rw [hml]; rfl) (by decide) (by decide) (by decide) (hb hby d8_1) rfl ?_
  refine go_iload_n (pc' := 5) (hb hby d8_4) rfl rfl ?_
  refine go_ifF (pc' := 8) (hb hby d8_5) rfl (by decide) ?_
  refine go_empty G rfl (by decide) hnm rfl (wk G 134 rfl) (wk G 18 rfl) (wk G 25 rfl) (wk G 9 rfl) (wk G 10 rfl) (wk G 7 rfl) p1 p3 p4 p2 (hb hby d8_8) (hb hby d8_9) (hb hby d8_11) (hb hby d8_14) (hb hby d8_17) (hb hby d8_18) (hb hby d8_20) (hb hby d8_23) (by decide) (by decide) (fun h1 S2 K3 => ?_)
  have K4 : Keep h0 h1 [a] := ((Keep.refl h0 [a]).trans K3 (allS (Or.inl (by simp)) all0))
  refine go_return hret hlk (hb hby d8_26) (by decide) (by decide) ⟨rfl, S2⟩ K4
theorem ef_new0 (m : MethodId) (a : Addr) (b : Addr)  : entryFrame m #[(.ref a), (.ref b)] 2 = mkF m 0 #[.val (.ref a), .val (.ref b)] [] := by first | (simp [entryFrame, mkF, argsToLocals, Value.category]; done) | rfl
def Q_new0 (Z : State) (a : Addr) (b : Addr) (k : ClassId) (h0 : Heap) (h : Heap) : Prop := Str Z h a []
set_option maxRecDepth 65536 in
set_option maxHeartbeats 40000000 in
theorem c_new0 (l : Launch) {Z : State} {a0 : Array Value} (G : GH Z a0) (a : Addr) (b : Addr) (k : ClassId) (h0 : Heap) (O0 : Old Z Z.heap.size h0) (p1 : Exa Z h0 a "java/lang/String") (p2 : Z.heap.size ≤ a) (p3 : Fld Z h0 a "java/lang/String" "value" "[B" .null) (p4 : Fld Z h0 a "java/lang/String" "coder" "B" (.int (0 : Int32))) (p5 : Arv Z h0 b k (.char) (0 : Int32) [] (.int 0)) : Con true EL1 l Z (⟨"java/lang/String", "<init>", "([C)V"⟩ : MethodName) jdk_42_method_3_code 2 none [] ({ frames := 2, cells := 4, slots := 8, locals := 29 } : Room) #[(.ref a), (.ref b)] h0 [a] (rno (Q_new0 Z a b k h0)) := by
  refine con_of (a0 := a0) (plainFor_of_name pn1) (fun q => nomatch q) (ew1 G) O0 (fun m => ef_new0 m a b) ?_
  intro p_ e_ s_ m_ below_ meth_ c_ hby hml hret hlk hnm
  refine go_aload_n (pc' := 1) (hb hby d9_0) rfl rfl rfl ?_
  refine go_aload_n (pc' := 2) (hb hby d9_1) rfl rfl rfl ?_
  refine go_iconst (pc' := 3) (v := 0) (hb hby d9_2) rfl rfl ?_
  refine go_aload_n (pc' := 4) (hb hby d9_3) rfl rfl rfl ?_
  refine go_arraylength (pc' := 5) p5 (hb hby d9_4) rfl ?_
  refine go_aconst_null (pc' := 6) (hb hby d9_5) rfl ?_
  refine callIW0 rfl (cells' := 4) (slots' := 8) (Wd := 0) (argsL := [(.ref b), (.int (0 : Int32)), (.int (0 : Int32)), .null]) (rest := []) (payW_of (a0 := a0) (c_new0in l G a b h0 O0 p1 p2 p3 p4) (wk G 118 rfl) (wk G 6 rfl) (by decide) (by decide) (ew1 G)) rfl (wk G 116 rfl) (wk G 117 rfl) (wk G 118 rfl) (by decide) pd6 rfl rfl (by rw [hml]; rfl) (Nat.le_of_ble_eq_true rfl) rfl rfl (by decide) (by decide) (allS p2 all0) (hb hby d9_6) (k_n (pc' := 9) rfl ?_)
  rintro  h1 f3 K2
  have K4 : Keep h0 h1 [a] := ((Keep.refl h0 [a]).trans K2 (allS (Or.inl (by simp)) all0))
  refine go_return hret hlk (hb hby d9_9) (by decide) (by decide) ⟨rfl, f3⟩ K4
theorem ef_expd (m : MethodId) (a : Addr)  : entryFrame m #[(.ref a)] 1 = mkF m 0 #[.val (.ref a)] [] := by first | (simp [entryFrame, mkF, argsToLocals, Value.category]; done) | rfl
def Q_expd (Z : State) (a : Addr) (cs : List Int32) (h0 : Heap) (xv : Value) (h : Heap) : Prop := ((.ref (s_TRANSPARENT Z)) = xv ∧ cs = [(116 : Int32), (114 : Int32), (97 : Int32), (110 : Int32), (115 : Int32), (112 : Int32), (97 : Int32), (114 : Int32), (101 : Int32), (110 : Int32), (116 : Int32)]) ∨ ((.ref (s_TRANSLUCENT Z)) = xv ∧ cs = [(116 : Int32), (114 : Int32), (97 : Int32), (110 : Int32), (115 : Int32), (108 : Int32), (117 : Int32), (99 : Int32), (101 : Int32), (110 : Int32), (116 : Int32)]) ∨ ((.ref (s_OPAQUE Z)) = xv ∧ cs = [(111 : Int32), (112 : Int32), (97 : Int32), (113 : Int32), (117 : Int32), (101 : Int32)]) ∨ (.null = xv ∧ ¬ cs = [(116 : Int32), (114 : Int32), (97 : Int32), (110 : Int32), (115 : Int32), (112 : Int32), (97 : Int32), (114 : Int32), (101 : Int32), (110 : Int32), (116 : Int32)] ∧ ¬ cs = [(116 : Int32), (114 : Int32), (97 : Int32), (110 : Int32), (115 : Int32), (108 : Int32), (117 : Int32), (99 : Int32), (101 : Int32), (110 : Int32), (116 : Int32)] ∧ ¬ cs = [(111 : Int32), (112 : Int32), (97 : Int32), (113 : Int32), (117 : Int32), (101 : Int32)])
set_option maxRecDepth 65536 in
set_option maxHeartbeats 40000000 in
theorem c_expd (l : Launch) {Z : State} {a0 : Array Value} (G : GH Z a0) (a : Addr) (cs : List Int32) (h0 : Heap) (O0 : Old Z Z.heap.size h0) (p1 : Str Z h0 a cs) : Con true EL1 l Z (⟨"com/example/ispol/ispol/walls/TransparencyOfPinLaw", "expected", "(Ljava/lang/String;)Lcom/example/ispol/ispol/walls/Transparency;"⟩ : MethodName) method_5_code 1 (some (.object "com/example/ispol/ispol/walls/Transparency")) [] ({ frames := 2, cells := 6, slots := 124, locals := 28 } : Room) #[(.ref a)] h0 [] (rvl (Q_expd Z a cs h0)) := by
  refine con_of (a0 := a0) (plainFor_of_name pn4) (fun q => nomatch q) (ew1 G) O0 (fun m => ef_expd m a) ?_
  intro p_ e_ s_ m_ below_ meth_ c_ hby hml hret hlk hnm
  refine go_aload_n (pc' := 1) (hb hby d10_0) rfl rfl rfl ?_
  refine go_nnT (pc' := 6) (hb hby d10_1) (by decide) rfl ?_
  refine go_aload_n (pc' := 7) (hb hby d10_6) rfl rfl rfl ?_
  refine go_ldcH (pc' := 9) (cells' := 2) (slots' := 48) (n := 44) (vs := (([(116 : Int32), (114 : Int32), (97 : Int32), (110 : Int32), (115 : Int32), (112 : Int32), (97 : Int32), (114 : Int32), (101 : Int32), (110 : Int32), (116 : Int32)] : List Int32).map fun c => c.toInt8.toInt32).map Value.int) (z := (11 : Int32)) rfl (by decide) (wk G 5 rfl) (wS G) (by decide +kernel) (by decide) (by decide) (by decide) (by decide) (hb hby d10_7) rfl rfl rfl (by decide) (by decide) (fun h1 a2 t4 k5 X3 E6 F7 F8 A9 => ?_)
  have S10 : Str Z h1 a2 [(116 : Int32), (114 : Int32), (97 : Int32), (110 : Int32), (115 : Int32), (112 : Int32), (97 : Int32), (114 : Int32), (101 : Int32), (110 : Int32), (116 : Int32)] := ⟨t4, k5, E6, F8, F7, A9, by decide, by decide⟩
  have K11 : Keep h0 h1 [] := ((Keep.refl h0 []).ext X3)
  have S12 := (p1.keep K11)
  refine go_old (fun O13 => ?_)
  have E14 := (p1.exa.keep K11)
  refine callV0 (cells' := 2) (slots' := 48) (Wd := 0) (argsL := [(.ref a2)]) (rest := []) (pay_eq G O13 S12 S10 (by decide) (by decide)) E14 (wk G 65 rfl) (wk G 52 rfl) (wk G 54 rfl) (wk G 54 rfl) (wk G 53 rfl) (by decide) pd2 rfl rfl (by rw [hml]; rfl) (Nat.le_of_ble_eq_true rfl) rfl rfl (by decide) (by decide) all0 (fun _ _ => sf0) (hb hby d10_9) (k_v (pc' := 12) rfl ?_)
  rintro _ _ (⟨rfl, q15, rfl⟩ | ⟨rfl, q15, rfl⟩) -
  · refine go_ifF (pc' := 15) (hb hby d10_12) rfl (by decide) ?_
    refine go_getS (pc' := 18) (wk G 66 rfl) ((se_TRANSPARENT G).1.ext O13.2) (hb hby d10_15) rfl ?_
    refine go_areturn hret hlk rfl rfl (hb hby d10_18) (by decide) (by decide) ⟨_, rfl, (Or.inl ⟨rfl, q15⟩)⟩ K11
  · refine go_ifT (pc' := 19) (hb hby d10_12) (by decide) rfl (by decide) ?_
    refine go_aload_n (pc' := 20) (hb hby d10_19) rfl rfl rfl ?_
    refine go_ldcH (pc' := 22) (cells' := 4) (slots' := 96) (n := 44) (vs := (([(116 : Int32), (114 : Int32), (97 : Int32), (110 : Int32), (115 : Int32), (108 : Int32), (117 : Int32), (99 : Int32), (101 : Int32), (110 : Int32), (116 : Int32)] : List Int32).map fun c => c.toInt8.toInt32).map Value.int) (z := (11 : Int32)) rfl (by decide) (wk G 67 rfl) (wS G) (by decide +kernel) (by decide) (by decide) (by decide) (by decide) (hb hby d10_20) rfl rfl rfl (by decide) (by decide) (fun h16 a17 t19 k20 X18 E21 F22 F23 A24 => ?_)
    have S25 : Str Z h16 a17 [(116 : Int32), (114 : Int32), (97 : Int32), (110 : Int32), (115 : Int32), (108 : Int32), (117 : Int32), (99 : Int32), (101 : Int32), (110 : Int32), (116 : Int32)] := ⟨t19, k20, E21, F23, F22, A24, by decide, by decide⟩
    have K26 : Keep h1 h16 [] := ((Keep.refl h1 []).ext X18)
    have S27 := (S12.keep K26)
    refine go_old (fun O28 => ?_)
    have E29 := (E14.keep K26)
    refine callV0 (cells' := 4) (slots' := 96) (Wd := 0) (argsL := [(.ref a17)]) (rest := []) (pay_eq G O28 S27 S25 (by decide) (by decide)) E29 (wk G 65 rfl) (wk G 52 rfl) (wk G 54 rfl) (wk G 54 rfl) (wk G 53 rfl) (by decide) pd2 rfl rfl (by rw [hml]; rfl) (Nat.le_of_ble_eq_true rfl) rfl rfl (by decide) (by decide) all0 (fun _ _ => sf0) (hb hby d10_22) (k_v (pc' := 25) rfl ?_)
    rintro _ _ (⟨rfl, q30, rfl⟩ | ⟨rfl, q30, rfl⟩) -
    · refine go_ifF (pc' := 28) (hb hby d10_25) rfl (by decide) ?_
      refine go_getS (pc' := 31) (wk G 133 rfl) ((se_TRANSLUCENT G).1.ext O28.2) (hb hby d10_28) rfl ?_
      have K31 : Keep h0 h16 [] := (K11.ext X18)
      refine go_areturn hret hlk rfl rfl (hb hby d10_31) (by decide) (by decide) ⟨_, rfl, (Or.inr (Or.inl ⟨rfl, q30⟩))⟩ K31
    · refine go_ifT (pc' := 32) (hb hby d10_25) (by decide) rfl (by decide) ?_
      refine go_aload_n (pc' := 33) (hb hby d10_32) rfl rfl rfl ?_
      refine go_ldcH (pc' := 35) (cells' := 6) (slots' := 124) (n := 24) (vs := (([(111 : Int32), (112 : Int32), (97 : Int32), (113 : Int32), (117 : Int32), (101 : Int32)] : List Int32).map fun c => c.toInt8.toInt32).map Value.int) (z := (6 : Int32)) rfl (by decide) (wk G 83 rfl) (wS G) (by decide +kernel) (by decide) (by decide) (by decide) (by decide) (hb hby d10_33) rfl rfl rfl (by decide) (by decide) (fun h32 a33 t35 k36 X34 E37 F38 F39 A40 => ?_)
      have S41 : Str Z h32 a33 [(111 : Int32), (112 : Int32), (97 : Int32), (113 : Int32), (117 : Int32), (101 : Int32)] := ⟨t35, k36, E37, F39, F38, A40, by decide, by decide⟩
      have K42 : Keep h16 h32 [] := ((Keep.refl h16 []).ext X34)
      have S43 := (S27.keep K42)
      refine go_old (fun O44 => ?_)
      have E45 := (E29.keep K42)
      refine callV0 (cells' := 6) (slots' := 124) (Wd := 0) (argsL := [(.ref a33)]) (rest := []) (pay_eq G O44 S43 S41 (by decide) (by decide)) E45 (wk G 65 rfl) (wk G 52 rfl) (wk G 54 rfl) (wk G 54 rfl) (wk G 53 rfl) (by decide) pd2 rfl rfl (by rw [hml]; rfl) (Nat.le_of_ble_eq_true rfl) rfl rfl (by decide) (by decide) all0 (fun _ _ => sf0) (hb hby d10_35) (k_v (pc' := 38) rfl ?_)
      rintro _ _ (⟨rfl, q46, rfl⟩ | ⟨rfl, q46, rfl⟩) -
      · refine go_ifF (pc' := 41) (hb hby d10_38) rfl (by decide) ?_
        refine go_getS (pc' := 44) (wk G 132 rfl) ((se_OPAQUE G).1.ext O44.2) (hb hby d10_41) rfl ?_
        have K47 : Keep h0 h16 [] := (K11.ext X18)
        have K48 : Keep h0 h32 [] := (K47.ext X34)
        refine go_areturn hret hlk rfl rfl (hb hby d10_44) (by decide) (by decide) ⟨_, rfl, (Or.inr (Or.inr (Or.inl ⟨rfl, q46⟩)))⟩ K48
      · refine go_ifT (pc' := 45) (hb hby d10_38) (by decide) rfl (by decide) ?_
        refine go_aconst_null (pc' := 46) (hb hby d10_45) rfl ?_
        have K49 : Keep h0 h16 [] := (K11.ext X18)
        have K50 : Keep h0 h32 [] := (K49.ext X34)
        refine go_areturn hret hlk rfl rfl (hb hby d10_46) (by decide) (by decide) ⟨_, rfl, (Or.inr (Or.inr (Or.inr (⟨rfl, q15, q30, q46⟩))))⟩ K50
theorem ef_expdN (m : MethodId)   : entryFrame m #[.null] 1 = mkF m 0 #[.val .null] [] := by first | (simp [entryFrame, mkF, argsToLocals, Value.category]; done) | rfl
def Q_expdN (Z : State)   (h0 : Heap) (xv : Value) (h : Heap) : Prop := .null = xv ∧ h0 = h
set_option maxRecDepth 65536 in
set_option maxHeartbeats 40000000 in
theorem c_expdN (l : Launch) {Z : State} {a0 : Array Value} (G : GH Z a0)   (h0 : Heap) (O0 : Old Z Z.heap.size h0)  : Con true EL1 l Z (⟨"com/example/ispol/ispol/walls/TransparencyOfPinLaw", "expected", "(Ljava/lang/String;)Lcom/example/ispol/ispol/walls/Transparency;"⟩ : MethodName) method_5_code 1 (some (.object "com/example/ispol/ispol/walls/Transparency")) [] ({ frames := 0, cells := 0, slots := 0, locals := 0 } : Room) #[.null] h0 [] (rvl (Q_expdN Z h0)) := by
  refine con_of (a0 := a0) (plainFor_of_name pn4) (fun q => nomatch q) (ew1 G) O0 (fun m => ef_expdN m ) ?_
  intro p_ e_ s_ m_ below_ meth_ c_ hby hml hret hlk hnm
  refine go_aload_n (pc' := 1) (hb hby d10_0) rfl rfl rfl ?_
  refine go_nnF (pc' := 4) (hb hby d10_1) rfl ?_
  refine go_aconst_null (pc' := 5) (hb hby d10_4) rfl ?_
  refine go_areturn hret hlk rfl rfl (hb hby d10_5) (by decide) (by decide) ⟨_, rfl, ⟨rfl, rfl⟩⟩ (Keep.refl h0 [])
theorem ef_word (m : MethodId) (y : Int32)  : entryFrame m #[(.int y)] 1 = mkF m 0 #[.val (.int y)] [] := by first | (simp [entryFrame, mkF, argsToLocals, Value.category]; done) | rfl
def Q_word (Z : State) (y : Int32)  (h0 : Heap) (xv : Value) (h : Heap) : Prop := (∃ (r : Addr), (.ref r) = xv ∧ Str Z h r [(116 : Int32), (114 : Int32), (97 : Int32), (110 : Int32), (115 : Int32), (112 : Int32), (97 : Int32), (114 : Int32), (101 : Int32), (110 : Int32), (116 : Int32)]) ∨ (∃ (r : Addr), (.ref r) = xv ∧ Str Z h r [(116 : Int32), (114 : Int32), (97 : Int32), (110 : Int32), (115 : Int32), (108 : Int32), (117 : Int32), (99 : Int32), (101 : Int32), (110 : Int32), (116 : Int32)]) ∨ (∃ (r : Addr), (.ref r) = xv ∧ Str Z h r [(111 : Int32), (112 : Int32), (97 : Int32), (113 : Int32), (117 : Int32), (101 : Int32)])
set_option maxRecDepth 65536 in
set_option maxHeartbeats 40000000 in
theorem c_word (l : Launch) {Z : State} {a0 : Array Value} (G : GH Z a0) (y : Int32)  (h0 : Heap) (O0 : Old Z Z.heap.size h0)  : Con true EL1 l Z (⟨"com/example/ispol/ispol/walls/TransparencyOfPinLaw", "word", "(I)Ljava/lang/String;"⟩ : MethodName) method_4_code 1 (some (.object "java/lang/String")) [] ({ frames := 0, cells := 2, slots := 48, locals := 0 } : Room) #[(.int y)] h0 [] (rvl (Q_word Z y h0)) := by
  refine con_of (a0 := a0) (plainFor_of_name pn4) (fun q => nomatch q) (ew1 G) O0 (fun m => ef_word m y) ?_
  intro p_ e_ s_ m_ below_ meth_ c_ hby hml hret hlk hnm
  refine go_iload_n (pc' := 1) (hb hby d11_0) rfl rfl ?_
  by_cases cz1 : y = (0 : Int32)
  · refine go_ifF (pc' := 4) (hb hby d11_1) rfl (XT.i0_ne_f cz1) ?_
    refine go_ldcH (pc' := 6) (cells' := 2) (slots' := 48) (n := 44) (vs := (([(116 : Int32), (114 : Int32), (97 : Int32), (110 : Int32), (115 : Int32), (112 : Int32), (97 : Int32), (114 : Int32), (101 : Int32), (110 : Int32), (116 : Int32)] : List Int32).map fun c => c.toInt8.toInt32).map Value.int) (z := (11 : Int32)) rfl (by decide) (wk G 5 rfl) (wS G) (by decide +kernel) (by decide) (by decide) (by decide) (by decide) (hb hby d11_4) rfl rfl rfl (by decide) (by decide) (fun h2 a3 t5 k6 X4 E7 F8 F9 A10 => ?_)
    have S11 : Str Z h2 a3 [(116 : Int32), (114 : Int32), (97 : Int32), (110 : Int32), (115 : Int32), (112 : Int32), (97 : Int32), (114 : Int32), (101 : Int32), (110 : Int32), (116 : Int32)] := ⟨t5, k6, E7, F9, F8, A10, by decide, by decide⟩
    have K12 : Keep h0 h2 [] := ((Keep.refl h0 []).ext X4)
    refine go_areturn hret hlk rfl rfl (hb hby d11_6) (by decide) (by decide) ⟨_, rfl, (Or.inl ⟨a3, rfl, S11⟩)⟩ K12
  · refine go_ifT (pc' := 7) (hb hby d11_1) (by decide) rfl (XT.i0_ne_t cz1) ?_
    refine go_iload_n (pc' := 8) (hb hby d11_7) rfl rfl ?_
    refine go_iconst (pc' := 9) (v := 1) (hb hby d11_8) rfl rfl ?_
    by_cases cz13 : y = (1 : Int32)
    · refine go_icF (pc' := 12) (hb hby d11_9) rfl (XT.ii_ne_f cz13) ?_
      refine go_ldcH (pc' := 14) (cells' := 2) (slots' := 48) (n := 44) (vs := (([(116 : Int32), (114 : Int32), (97 : Int32), (110 : Int32), (115 : Int32), (108 : Int32), (117 : Int32), (99 : Int32), (101 : Int32), (110 : Int32), (116 : Int32)] : List Int32).map fun c => c.toInt8.toInt32).map Value.int) (z := (11 : Int32)) rfl (by decide) (wk G 67 rfl) (wS G) (by decide +kernel) (by decide) (by decide) (by decide) (by decide) (hb hby d11_12) rfl rfl rfl (by decide) (by decide) (fun h14 a15 t17 k18 X16 E19 F20 F21 A22 => ?_)
      have S23 : Str Z h14 a15 [(116 : Int32), (114 : Int32), (97 : Int32), (110 : Int32), (115 : Int32), (108 : Int32), (117 : Int32), (99 : Int32), (101 : Int32), (110 : Int32), (116 : Int32)] := ⟨t17, k18, E19, F21, F20, A22, by decide, by decide⟩
      have K24 : Keep h0 h14 [] := ((Keep.refl h0 []).ext X16)
      refine go_areturn hret hlk rfl rfl (hb hby d11_14) (by decide) (by decide) ⟨_, rfl, (Or.inr (Or.inl ⟨a15, rfl, S23⟩))⟩ K24
    · refine go_icT (pc' := 15) (hb hby d11_9) (by decide) rfl (XT.ii_ne_t cz13) ?_
      refine go_ldcH (pc' := 17) (cells' := 2) (slots' := 28) (n := 24) (vs := (([(111 : Int32), (112 : Int32), (97 : Int32), (113 : Int32), (117 : Int32), (101 : Int32)] : List Int32).map fun c => c.toInt8.toInt32).map Value.int) (z := (6 : Int32)) rfl (by decide) (wk G 83 rfl) (wS G) (by decide +kernel) (by decide) (by decide) (by decide) (by decide) (hb hby d11_15) rfl rfl rfl (by decide) (by decide) (fun h25 a26 t28 k29 X27 E30 F31 F32 A33 => ?_)
      have S34 : Str Z h25 a26 [(111 : Int32), (112 : Int32), (97 : Int32), (113 : Int32), (117 : Int32), (101 : Int32)] := ⟨t28, k29, E30, F32, F31, A33, by decide, by decide⟩
      have K35 : Keep h0 h25 [] := ((Keep.refl h0 []).ext X27)
      refine go_areturn hret hlk rfl rfl (hb hby d11_17) (by decide) (by decide) ⟨_, rfl, (Or.inr (Or.inr (⟨a26, rfl, S34⟩)))⟩ K35
theorem ef_byteat0 (m : MethodId) (y : Int64)  : entryFrame m #[(.long y), (.int (0 : Int32))] 3 = mkF m 0 #[.val (.long y), .second, .val (.int (0 : Int32))] [] := by first | (simp [entryFrame, mkF, argsToLocals, Value.category]; done) | rfl
def Q_byteat0 (Z : State) (y : Int64)  (h0 : Heap) (xv : Value) (h : Heap) : Prop := ∃ (c : Int32), (.int c) = xv ∧ h0 = h ∧ C8 c
set_option maxRecDepth 65536 in
set_option maxHeartbeats 40000000 in
theorem c_byteat0 (l : Launch) {Z : State} {a0 : Array Value} (G : GH Z a0) (y : Int64)  (h0 : Heap) (O0 : Old Z Z.heap.size h0)  : Con false [] l Z (⟨"com/example/ispol/ispol/walls/TransparencyOfPinLaw", "byteAt", "(JI)C"⟩ : MethodName) method_3_code 3 (some .char) [] ({ frames := 0, cells := 0, slots := 0, locals := 0 } : Room) #[(.long y), (.int (0 : Int32))] h0 [] (rvl (Q_byteat0 Z y h0)) := by
  refine con_of (a0 := a0) (plainFor_of_name pn4) (fun q => rfl) EW.nil O0 (fun m => ef_byteat0 m y) ?_
  intro p_ e_ s_ m_ below_ meth_ c_ hby hml hret hlk hnm
  refine go_lload_n (pc' := 1) (hb hby d12_0) rfl rfl ?_
  refine go_bipush (pc' := 3) (v := 8) (hb hby d12_1) rfl rfl ?_
  refine go_iload_n (pc' := 4) (hb hby d12_3) rfl rfl ?_
  refine go_imul (pc' := 5) (z := (0 : Int32)) (hb hby d12_4) rfl (by decide) ?_
  refine go_lushr (pc' := 6) (z := (XT.ushrL y (0 : Int32))) (hb hby d12_5) rfl rfl ?_
  refine go_ldcJ (pc' := 9) (v := (255 : Int64)) (wk G 26 rfl) (hb hby d12_6) rfl ?_
  refine go_land (pc' := 10) (z := ((XT.ushrL y (0 : Int32)) &&& (255 : Int64))) (hb hby d12_9) rfl rfl ?_
  refine go_l2i (pc' := 11) (z := (((XT.ushrL y (0 : Int32)) &&& (255 : Int64)).toInt32)) (hb hby d12_10) rfl rfl ?_
  refine go_i2c (pc' := 12) (z := (((XT.ushrL y (0 : Int32)) &&& (255 : Int64)).toInt32)) (hb hby d12_11) rfl (i2c_c8 (c8_l _)) ?_
  refine go_ireturn hret hlk (nar_c8 (c8_l _)) (by simp) (hb hby d12_12) (by decide) (by decide) ⟨_, rfl, ⟨(((XT.ushrL y (0 : Int32)) &&& (255 : Int64)).toInt32), rfl, rfl, (c8_l _)⟩⟩ (Keep.refl h0 [])
theorem ef_byteat1 (m : MethodId) (y : Int64)  : entryFrame m #[(.long y), (.int (1 : Int32))] 3 = mkF m 0 #[.val (.long y), .second, .val (.int (1 : Int32))] [] := by first | (simp [entryFrame, mkF, argsToLocals, Value.category]; done) | rfl
def Q_byteat1 (Z : State) (y : Int64)  (h0 : Heap) (xv : Value) (h : Heap) : Prop := ∃ (c : Int32), (.int c) = xv ∧ h0 = h ∧ C8 c
set_option maxRecDepth 65536 in
set_option maxHeartbeats 40000000 in
theorem c_byteat1 (l : Launch) {Z : State} {a0 : Array Value} (G : GH Z a0) (y : Int64)  (h0 : Heap) (O0 : Old Z Z.heap.size h0)  : Con false [] l Z (⟨"com/example/ispol/ispol/walls/TransparencyOfPinLaw", "byteAt", "(JI)C"⟩ : MethodName) method_3_code 3 (some .char) [] ({ frames := 0, cells := 0, slots := 0, locals := 0 } : Room) #[(.long y), (.int (1 : Int32))] h0 [] (rvl (Q_byteat1 Z y h0)) := by
  refine con_of (a0 := a0) (plainFor_of_name pn4) (fun q => rfl) EW.nil O0 (fun m => ef_byteat1 m y) ?_
  intro p_ e_ s_ m_ below_ meth_ c_ hby hml hret hlk hnm
  refine go_lload_n (pc' := 1) (hb hby d12_0) rfl rfl ?_
  refine go_bipush (pc' := 3) (v := 8) (hb hby d12_1) rfl rfl ?_
  refine go_iload_n (pc' := 4) (hb hby d12_3) rfl rfl ?_
  refine go_imul (pc' := 5) (z := (8 : Int32)) (hb hby d12_4) rfl (by decide) ?_
  refine go_lushr (pc' := 6) (z := (XT.ushrL y (8 : Int32))) (hb hby d12_5) rfl rfl ?_
  refine go_ldcJ (pc' := 9) (v := (255 : Int64)) (wk G 26 rfl) (hb hby d12_6) rfl ?_
  refine go_land (pc' := 10) (z := ((XT.ushrL y (8 : Int32)) &&& (255 : Int64))) (hb hby d12_9) rfl rfl ?_
  refine go_l2i (pc' := 11) (z := (((XT.ushrL y (8 : Int32)) &&& (255 : Int64)).toInt32)) (hb hby d12_10) rfl rfl ?_
  refine go_i2c (pc' := 12) (z := (((XT.ushrL y (8 : Int32)) &&& (255 : Int64)).toInt32)) (hb hby d12_11) rfl (i2c_c8 (c8_l _)) ?_
  refine go_ireturn hret hlk (nar_c8 (c8_l _)) (by simp) (hb hby d12_12) (by decide) (by decide) ⟨_, rfl, ⟨(((XT.ushrL y (8 : Int32)) &&& (255 : Int64)).toInt32), rfl, rfl, (c8_l _)⟩⟩ (Keep.refl h0 [])
theorem ef_byteat2 (m : MethodId) (y : Int64)  : entryFrame m #[(.long y), (.int (2 : Int32))] 3 = mkF m 0 #[.val (.long y), .second, .val (.int (2 : Int32))] [] := by first | (simp [entryFrame, mkF, argsToLocals, Value.category]; done) | rfl
def Q_byteat2 (Z : State) (y : Int64)  (h0 : Heap) (xv : Value) (h : Heap) : Prop := ∃ (c : Int32), (.int c) = xv ∧ h0 = h ∧ C8 c
set_option maxRecDepth 65536 in
set_option maxHeartbeats 40000000 in
theorem c_byteat2 (l : Launch) {Z : State} {a0 : Array Value} (G : GH Z a0) (y : Int64)  (h0 : Heap) (O0 : Old Z Z.heap.size h0)  : Con false [] l Z (⟨"com/example/ispol/ispol/walls/TransparencyOfPinLaw", "byteAt", "(JI)C"⟩ : MethodName) method_3_code 3 (some .char) [] ({ frames := 0, cells := 0, slots := 0, locals := 0 } : Room) #[(.long y), (.int (2 : Int32))] h0 [] (rvl (Q_byteat2 Z y h0)) := by
  refine con_of (a0 := a0) (plainFor_of_name pn4) (fun q => rfl) EW.nil O0 (fun m => ef_byteat2 m y) ?_
  intro p_ e_ s_ m_ below_ meth_ c_ hby hml hret hlk hnm
  refine go_lload_n (pc' := 1) (hb hby d12_0) rfl rfl ?_
  refine go_bipush (pc' := 3) (v := 8) (hb hby d12_1) rfl rfl ?_
  refine go_iload_n (pc' := 4) (hb hby d12_3) rfl rfl ?_
  refine go_imul (pc' := 5) (z := (16 : Int32)) (hb hby d12_4) rfl (by decide) ?_
  refine go_lushr (pc' := 6) (z := (XT.ushrL y (16 : Int32))) (hb hby d12_5) rfl rfl ?_
  refine go_ldcJ (pc' := 9) (v := (255 : Int64)) (wk G 26 rfl) (hb hby d12_6) rfl ?_
  refine go_land (pc' := 10) (z := ((XT.ushrL y (16 : Int32)) &&& (255 : Int64))) (hb hby d12_9) rfl rfl ?_
  refine go_l2i (pc' := 11) (z := (((XT.ushrL y (16 : Int32)) &&& (255 : Int64)).toInt32)) (hb hby d12_10) rfl rfl ?_
  refine go_i2c (pc' := 12) (z := (((XT.ushrL y (16 : Int32)) &&& (255 : Int64)).toInt32)) (hb hby d12_11) rfl (i2c_c8 (c8_l _)) ?_
  refine go_ireturn hret hlk (nar_c8 (c8_l _)) (by simp) (hb hby d12_12) (by decide) (by decide) ⟨_, rfl, ⟨(((XT.ushrL y (16 : Int32)) &&& (255 : Int64)).toInt32), rfl, rfl, (c8_l _)⟩⟩ (Keep.refl h0 [])
theorem ef_byteat3 (m : MethodId) (y : Int64)  : entryFrame m #[(.long y), (.int (3 : Int32))] 3 = mkF m 0 #[.val (.long y), .second, .val (.int (3 : Int32))] [] := by first | (simp [entryFrame, mkF, argsToLocals, Value.category]; done) | rfl
def Q_byteat3 (Z : State) (y : Int64)  (h0 : Heap) (xv : Value) (h : Heap) : Prop := ∃ (c : Int32), (.int c) = xv ∧ h0 = h ∧ C8 c
set_option maxRecDepth 65536 in
set_option maxHeartbeats 40000000 in
theorem c_byteat3 (l : Launch) {Z : State} {a0 : Array Value} (G : GH Z a0) (y : Int64)  (h0 : Heap) (O0 : Old Z Z.heap.size h0)  : Con false [] l Z (⟨"com/example/ispol/ispol/walls/TransparencyOfPinLaw", "byteAt", "(JI)C"⟩ : MethodName) method_3_code 3 (some .char) [] ({ frames := 0, cells := 0, slots := 0, locals := 0 } : Room) #[(.long y), (.int (3 : Int32))] h0 [] (rvl (Q_byteat3 Z y h0)) := by
  refine con_of (a0 := a0) (plainFor_of_name pn4) (fun q => rfl) EW.nil O0 (fun m => ef_byteat3 m y) ?_
  intro p_ e_ s_ m_ below_ meth_ c_ hby hml hret hlk hnm
  refine go_lload_n (pc' := 1) (hb hby d12_0) rfl rfl ?_
  refine go_bipush (pc' := 3) (v := 8) (hb hby d12_1) rfl rfl ?_
  refine go_iload_n (pc' := 4) (hb hby d12_3) rfl rfl ?_
  refine go_imul (pc' := 5) (z := (24 : Int32)) (hb hby d12_4) rfl (by decide) ?_
  refine go_lushr (pc' := 6) (z := (XT.ushrL y (24 : Int32))) (hb hby d12_5) rfl rfl ?_
  refine go_ldcJ (pc' := 9) (v := (255 : Int64)) (wk G 26 rfl) (hb hby d12_6) rfl ?_
  refine go_land (pc' := 10) (z := ((XT.ushrL y (24 : Int32)) &&& (255 : Int64))) (hb hby d12_9) rfl rfl ?_
  refine go_l2i (pc' := 11) (z := (((XT.ushrL y (24 : Int32)) &&& (255 : Int64)).toInt32)) (hb hby d12_10) rfl rfl ?_
  refine go_i2c (pc' := 12) (z := (((XT.ushrL y (24 : Int32)) &&& (255 : Int64)).toInt32)) (hb hby d12_11) rfl (i2c_c8 (c8_l _)) ?_
  refine go_ireturn hret hlk (nar_c8 (c8_l _)) (by simp) (hb hby d12_12) (by decide) (by decide) ⟨_, rfl, ⟨(((XT.ushrL y (24 : Int32)) &&& (255 : Int64)).toInt32), rfl, rfl, (c8_l _)⟩⟩ (Keep.refl h0 [])
theorem ef_byteat4 (m : MethodId) (y : Int64)  : entryFrame m #[(.long y), (.int (4 : Int32))] 3 = mkF m 0 #[.val (.long y), .second, .val (.int (4 : Int32))] [] := by first | (simp [entryFrame, mkF, argsToLocals, Value.category]; done) | rfl
def Q_byteat4 (Z : State) (y : Int64)  (h0 : Heap) (xv : Value) (h : Heap) : Prop := ∃ (c : Int32), (.int c) = xv ∧ h0 = h ∧ C8 c
set_option maxRecDepth 65536 in
set_option maxHeartbeats 40000000 in
theorem c_byteat4 (l : Launch) {Z : State} {a0 : Array Value} (G : GH Z a0) (y : Int64)  (h0 : Heap) (O0 : Old Z Z.heap.size h0)  : Con false [] l Z (⟨"com/example/ispol/ispol/walls/TransparencyOfPinLaw", "byteAt", "(JI)C"⟩ : MethodName) method_3_code 3 (some .char) [] ({ frames := 0, cells := 0, slots := 0, locals := 0 } : Room) #[(.long y), (.int (4 : Int32))] h0 [] (rvl (Q_byteat4 Z y h0)) := by
  refine con_of (a0 := a0) (plainFor_of_name pn4) (fun q => rfl) EW.nil O0 (fun m => ef_byteat4 m y) ?_
  intro p_ e_ s_ m_ below_ meth_ c_ hby hml hret hlk hnm
  refine go_lload_n (pc' := 1) (hb hby d12_0) rfl rfl ?_
  refine go_bipush (pc' := 3) (v := 8) (hb hby d12_1) rfl rfl ?_
  refine go_iload_n (pc' := 4) (hb hby d12_3) rfl rfl ?_
  refine go_imul (pc' := 5) (z := (32 : Int32)) (hb hby d12_4) rfl (by decide) ?_
  refine go_lushr (pc' := 6) (z := (XT.ushrL y (32 : Int32))) (hb hby d12_5) rfl rfl ?_
  refine go_ldcJ (pc' := 9) (v := (255 : Int64)) (wk G 26 rfl) (hb hby d12_6) rfl ?_
  refine go_land (pc' := 10) (z := ((XT.ushrL y (32 : Int32)) &&& (255 : Int64))) (hb hby d12_9) rfl rfl ?_
  refine go_l2i (pc' := 11) (z := (((XT.ushrL y (32 : Int32)) &&& (255 : Int64)).toInt32)) (hb hby d12_10) rfl rfl ?_
  refine go_i2c (pc' := 12) (z := (((XT.ushrL y (32 : Int32)) &&& (255 : Int64)).toInt32)) (hb hby d12_11) rfl (i2c_c8 (c8_l _)) ?_
  refine go_ireturn hret hlk (nar_c8 (c8_l _)) (by simp) (hb hby d12_12) (by decide) (by decide) ⟨_, rfl, ⟨(((XT.ushrL y (32 : Int32)) &&& (255 : Int64)).toInt32), rfl, rfl, (c8_l _)⟩⟩ (Keep.refl h0 [])
theorem ef_byteat5 (m : MethodId) (y : Int64)  : entryFrame m #[(.long y), (.int (5 : Int32))] 3 = mkF m 0 #[.val (.long y), .second, .val (.int (5 : Int32))] [] := by first | (simp [entryFrame, mkF, argsToLocals, Value.category]; done) | rfl
def Q_byteat5 (Z : State) (y : Int64)  (h0 : Heap) (xv : Value) (h : Heap) : Prop := ∃ (c : Int32), (.int c) = xv ∧ h0 = h ∧ C8 c
set_option maxRecDepth 65536 in
set_option maxHeartbeats 40000000 in
theorem c_byteat5 (l : Launch) {Z : State} {a0 : Array Value} (G : GH Z a0) (y : Int64)  (h0 : Heap) (O0 : Old Z Z.heap.size h0)  : Con false [] l Z (⟨"com/example/ispol/ispol/walls/TransparencyOfPinLaw", "byteAt", "(JI)C"⟩ : MethodName) method_3_code 3 (some .char) [] ({ frames := 0, cells := 0, slots := 0, locals := 0 } : Room) #[(.long y), (.int (5 : Int32))] h0 [] (rvl (Q_byteat5 Z y h0)) := by
  refine con_of (a0 := a0) (plainFor_of_name pn4) (fun q => rfl) EW.nil O0 (fun m => ef_byteat5 m y) ?_
  intro p_ e_ s_ m_ below_ meth_ c_ hby hml hret hlk hnm
  refine go_lload_n (pc' := 1) (hb hby d12_0) rfl rfl ?_
  refine go_bipush (pc' := 3) (v := 8) (hb hby d12_1) rfl rfl ?_
  refine go_iload_n (pc' := 4) (hb hby d12_3) rfl rfl ?_
  refine go_imul (pc' := 5) (z := (40 : Int32)) (hb hby d12_4) rfl (by decide) ?_
  refine go_lushr (pc' := 6) (z := (XT.ushrL y (40 : Int32))) (hb hby d12_5) rfl rfl ?_
  refine go_ldcJ (pc' := 9) (v := (255 : Int64)) (wk G 26 rfl) (hb hby d12_6) rfl ?_
  refine go_land (pc' := 10) (z := ((XT.ushrL y (40 : Int32)) &&& (255 : Int64))) (hb hby d12_9) rfl rfl ?_
  refine go_l2i (pc' := 11) (z := (((XT.ushrL y (40 : Int32)) &&& (255 : Int64)).toInt32)) (hb hby d12_10) rfl rfl ?_
  refine go_i2c (pc' := 12) (z := (((XT.ushrL y (40 : Int32)) &&& (255 : Int64)).toInt32)) (hb hby d12_11) rfl (i2c_c8 (c8_l _)) ?_
  refine go_ireturn hret hlk (nar_c8 (c8_l _)) (by simp) (hb hby d12_12) (by decide) (by decide) ⟨_, rfl, ⟨(((XT.ushrL y (40 : Int32)) &&& (255 : Int64)).toInt32), rfl, rfl, (c8_l _)⟩⟩ (Keep.refl h0 [])
theorem ef_at11_0 (m : MethodId) (a : Addr) (q : Int32) (u : Int32)  : entryFrame m #[(.ref a), (.int (0 : Int32)), (.int q), (.int u)] 4 = mkF m 0 #[.val (.ref a), .val (.int (0 : Int32)), .val (.int q), .val (.int u)] [] := by first | (simp [entryFrame, mkF, argsToLocals, Value.category]; done) | rfl
def Q_at11_0 (Z : State) (a : Addr) (q : Int32) (u : Int32) (c0 : Int32) (c1 : Int32) (c2 : Int32) (c3 : Int32) (c4 : Int32) (c5 : Int32) (c6 : Int32) (c7 : Int32) (c8 : Int32) (c9 : Int32) (c10 : Int32) (h0 : Heap) (xv : Value) (h : Heap) : Prop := ∃ (c : Int32), (.int c) = xv ∧ h0 = h ∧ C8 c
set_option maxRecDepth 65536 in
set_option maxHeartbeats 40000000 in
theorem c_at11_0 (l : Launch) {Z : State} {a0 : Array Value} (G : GH Z a0) (a : Addr) (q : Int32) (u : Int32) (c0 : Int32) (c1 : Int32) (c2 : Int32) (c3 : Int32) (c4 : Int32) (c5 : Int32) (c6 : Int32) (c7 : Int32) (c8 : Int32) (c9 : Int32) (c10 : Int32) (h0 : Heap) (O0 : Old Z Z.heap.size h0) (p1 : C8 u) (p2 : Str Z h0 a [c0, c1, c2, c3, c4, c5, c6, c7, c8, c9, c10]) : Con false [] l Z (⟨"com/example/ispol/ispol/walls/TransparencyOfPinLaw", "at", "(Ljava/lang/String;IIC)C"⟩ : MethodName) method_6_code 4 (some .char) [] ({ frames := 4, cells := 0, slots := 0, locals := 53 } : Room) #[(.ref a), (.int (0 : Int32)), (.int q), (.int u)] h0 [] (rvl (Q_at11_0 Z a q u c0 c1 c2 c3 c4 c5 c6 c7 c8 c9 c10 h0)) := by
  refine con_of (a0 := a0) (plainFor_of_name pn4) (fun q => rfl) EW.nil O0 (fun m => ef_at11_0 m a q u) ?_
  intro p_ e_ s_ m_ below_ meth_ c_ hby hml hret hlk hnm
  refine go_iload_n (pc' := 1) (hb hby d13_0) rfl rfl ?_
  refine go_iload_n (pc' := 2) (hb hby d13_1) rfl rfl ?_
  by_cases cz1 : (0 : Int32) = q
  · refine go_icF (pc' := 5) (hb hby d13_2) rfl (XT.ii_ne_f cz1) ?_
    refine go_iload_n (pc' := 6) (hb hby d13_5) rfl rfl ?_
    refine go_ireturn hret hlk (nar_c8 p1) (by simp) (hb hby d13_6) (by decide) (by decide) ⟨_, rfl, ⟨u, rfl, rfl, p1⟩⟩ (Keep.refl h0 [])
  · refine go_icT (pc' := 7) (hb hby d13_2) (by decide) rfl (XT.ii_ne_t cz1) ?_
    refine go_iload_n (pc' := 8) (hb hby d13_7) rfl rfl ?_
    refine go_aload_n (pc' := 9) (hb hby d13_8) rfl rfl rfl ?_
    refine callV0 (cells' := 0) (slots' := 0) (Wd := 1) (argsL := []) (rest := [(.int (0 : Int32))]) (pay_len G O0 (n := (11 : Int32)) p2 rfl (by decide) (by decide)) p2.exa (wk G 13 rfl) (wk G 14 rfl) (wk G 16 rfl) (wk G 16 rfl) (wk G 15 rfl) (by decide) pd7 rfl rfl (by rw [hml]; rfl) (Nat.le_of_ble_eq_true rfl) rfl rfl (by decide) (by decide) all0 (fun _ _ => sf0) (hb hby d13_9) (k_v (pc' := 12) rfl ?_)
    rintro _ _ ⟨rfl, rfl⟩ -
    refine go_icF (pc' := 15) (hb hby d13_12) rfl (by decide) ?_
    refine go_aload_n (pc' := 16) (hb hby d13_15) rfl rfl rfl ?_
    refine go_iload_n (pc' := 17) (hb hby d13_16) rfl rfl ?_
    have q2 : C8 c0 := by obtain ⟨_, _, _, _, _, _, q, _⟩ := id p2; exact q _ (by simp)
    refine callV0 (cells' := 0) (slots' := 0) (Wd := 0) (argsL := [(.int (0 : Int32))]) (rest := []) (pay_chr G O0 (i := 0) (c := c0) p2 rfl (Nat.le_of_ble_eq_true rfl) rfl (by decide) (by decide)) p2.exa (wk G 90 rfl) (wk G 91 rfl) (wk G 93 rfl) (wk G 93 rfl) (wk G 92 rfl) (by decide) pd8 rfl rfl (by rw [hml]; rfl) (Nat.le_of_ble_eq_true rfl) rfl rfl (by decide) (by decide) all0 (fun _ _ => sf0) (hb hby d13_17) (k_v (pc' := 20) rfl ?_)
    rintro _ _ ⟨rfl, rfl⟩ -
    refine go_ireturn hret hlk (nar_c8 q2) (by simp) (hb hby d13_20) (by decide) (by decide) ⟨_, rfl, ⟨c0, rfl, rfl, q2⟩⟩ (Keep.refl h0 [])
theorem ef_at11_1 (m : MethodId) (a : Addr) (q : Int32) (u : Int32)  : entryFrame m #[(.ref a), (.int (1 : Int32)), (.int q), (.int u)] 4 = mkF m 0 #[.val (.ref a), .val (.int (1 : Int32)), .val (.int q), .val (.int u)] [] := by first | (simp [entryFrame, mkF, argsToLocals, Value.category]; done) | rfl
def Q_at11_1 (Z : State) (a : Addr) (q : Int32) (u : Int32) (c0 : Int32) (c1 : Int32) (c2 : Int32) (c3 : Int32) (c4 : Int32) (c5 : Int32) (c6 : Int32) (c7 : Int32) (c8 : Int32) (c9 : Int32) (c10 : Int32) (h0 : Heap) (xv : Value) (h : Heap) : Prop := ∃ (c : Int32), (.int c) = xv ∧ h0 = h ∧ C8 c
set_option maxRecDepth 65536 in
set_option maxHeartbeats 40000000 in
theorem c_at11_1 (l : Launch) {Z : State} {a0 : Array Value} (G : GH Z a0) (a : Addr) (q : Int32) (u : Int32) (c0 : Int32) (c1 : Int32) (c2 : Int32) (c3 : Int32) (c4 : Int32) (c5 : Int32) (c6 : Int32) (c7 : Int32) (c8 : Int32) (c9 : Int32) (c10 : Int32) (h0 : Heap) (O0 : Old Z Z.heap.size h0) (p1 : C8 u) (p2 : Str Z h0 a [c0, c1, c2, c3, c4, c5, c6, c7, c8, c9, c10]) : Con false [] l Z (⟨"com/example/ispol/ispol/walls/TransparencyOfPinLaw", "at", "(Ljava/lang/String;IIC)C"⟩ : MethodName) method_6_code 4 (some .char) [] ({ frames := 4, cells := 0, slots := 0, locals := 53 } : Room) #[(.ref a), (.int (1 : Int32)), (.int q), (.int u)] h0 [] (rvl (Q_at11_1 Z a q u c0 c1 c2 c3 c4 c5 c6 c7 c8 c9 c10 h0)) := by
  refine con_of (a0 := a0) (plainFor_of_name pn4) (fun q => rfl) EW.nil O0 (fun m => ef_at11_1 m a q u) ?_
  intro p_ e_ s_ m_ below_ meth_ c_ hby hml hret hlk hnm
  refine go_iload_n (pc' := 1) (hb hby d13_0) rfl rfl ?_
  refine go_iload_n (pc' := 2) (hb hby d13_1) rfl rfl ?_
  by_cases cz1 : (1 : Int32) = q
  · refine go_icF (pc' := 5) (hb hby d13_2) rfl (XT.ii_ne_f cz1) ?_
    refine go_iload_n (pc' := 6) (hb hby d13_5) rfl rfl ?_
    refine go_ireturn hret hlk (nar_c8 p1) (by simp) (hb hby d13_6) (by decide) (by decide) ⟨_, rfl, ⟨u, rfl, rfl, p1⟩⟩ (Keep.refl h0 [])
  · refine go_icT (pc' := 7) (hb hby d13_2) (by decide) rfl (XT.ii_ne_t cz1) ?_
    refine go_iload_n (pc' := 8) (hb hby d13_7) rfl rfl ?_
    refine go_aload_n (pc' := 9) (hb hby d13_8) rfl rfl rfl ?_
    refine callV0 (cells' := 0) (slots' := 0) (Wd := 1) (argsL := []) (rest := [(.int (1 : Int32))]) (pay_len G O0 (n := (11 : Int32)) p2 rfl (by decide) (by decide)) p2.exa (wk G 13 rfl) (wk G 14 rfl) (wk G 16 rfl) (wk G 16 rfl) (wk G 15 rfl) (by decide) pd7 rfl rfl (by rw [hml]; rfl) (Nat.le_of_ble_eq_true rfl) rfl rfl (by decide) (by decide) all0 (fun _ _ => sf0) (hb hby d13_9) (k_v (pc' := 12) rfl ?_)
    rintro _ _ ⟨rfl, rfl⟩ -
    refine go_icF (pc' := 15) (hb hby d13_12) rfl (by decide) ?_
    refine go_aload_n (pc' := 16) (hb hby d13_15) rfl rfl rfl ?_
    refine go_iload_n (pc' := 17) (hb hby d13_16) rfl rfl ?_
    have q2 : C8 c1 := by obtain ⟨_, _, _, _, _, _, q, _⟩ := id p2; exact q _ (by simp)
    refine callV0 (cells' := 0) (slots' := 0) (Wd := 0) (argsL := [(.int (1 : Int32))]) (rest := []) (pay_chr G O0 (i := 1) (c := c1) p2 rfl (Nat.le_of_ble_eq_true rfl) rfl (by decide) (by decide)) p2.exa (wk G 90 rfl) (wk G 91 rfl) (wk G 93 rfl) (wk G 93 rfl) (wk G 92 rfl) (by decide) pd8 rfl rfl (by rw [hml]; rfl) (Nat.le_of_ble_eq_true rfl) rfl rfl (by decide) (by decide) all0 (fun _ _ => sf0) (hb hby d13_17) (k_v (pc' := 20) rfl ?_)
    rintro _ _ ⟨rfl, rfl⟩ -
    refine go_ireturn hret hlk (nar_c8 q2) (by simp) (hb hby d13_20) (by decide) (by decide) ⟨_, rfl, ⟨c1, rfl, rfl, q2⟩⟩ (Keep.refl h0 [])
theorem ef_at11_2 (m : MethodId) (a : Addr) (q : Int32) (u : Int32)  : entryFrame m #[(.ref a), (.int (2 : Int32)), (.int q), (.int u)] 4 = mkF m 0 #[.val (.ref a), .val (.int (2 : Int32)), .val (.int q), .val (.int u)] [] := by first | (simp [entryFrame, mkF, argsToLocals, Value.category]; done) | rfl
def Q_at11_2 (Z : State) (a : Addr) (q : Int32) (u : Int32) (c0 : Int32) (c1 : Int32) (c2 : Int32) (c3 : Int32) (c4 : Int32) (c5 : Int32) (c6 : Int32) (c7 : Int32) (c8 : Int32) (c9 : Int32) (c10 : Int32) (h0 : Heap) (xv : Value) (h : Heap) : Prop := ∃ (c : Int32), (.int c) = xv ∧ h0 = h ∧ C8 c
set_option maxRecDepth 65536 in
set_option maxHeartbeats 40000000 in
theorem c_at11_2 (l : Launch) {Z : State} {a0 : Array Value} (G : GH Z a0) (a : Addr) (q : Int32) (u : Int32) (c0 : Int32) (c1 : Int32) (c2 : Int32) (c3 : Int32) (c4 : Int32) (c5 : Int32) (c6 : Int32) (c7 : Int32) (c8 : Int32) (c9 : Int32) (c10 : Int32) (h0 : Heap) (O0 : Old Z Z.heap.size h0) (p1 : C8 u) (p2 : Str Z h0 a [c0, c1, c2, c3, c4, c5, c6, c7, c8, c9, c10]) : Con false [] l Z (⟨"com/example/ispol/ispol/walls/TransparencyOfPinLaw", "at", "(Ljava/lang/String;IIC)C"⟩ : MethodName) method_6_code 4 (some .char) [] ({ frames := 4, cells := 0, slots := 0, locals := 53 } : Room) #[(.ref a), (.int (2 : Int32)), (.int q), (.int u)] h0 [] (rvl (Q_at11_2 Z a q u c0 c1 c2 c3 c4 c5 c6 c7 c8 c9 c10 h0)) := by
  refine con_of (a0 := a0) (plainFor_of_name pn4) (fun q => rfl) EW.nil O0 (fun m => ef_at11_2 m a q u) ?_
  intro p_ e_ s_ m_ below_ meth_ c_ hby hml hret hlk hnm
  refine go_iload_n (pc' := 1) (hb hby d13_0) rfl rfl ?_
  refine go_iload_n (pc' := 2) (hb hby d13_1) rfl rfl ?_
  by_cases cz1 : (2 : Int32) = q
  · refine go_icF (pc' := 5) (hb hby d13_2) rfl (XT.ii_ne_f cz1) ?_
    refine go_iload_n (pc' := 6) (hb hby d13_5) rfl rfl ?_
    refine go_ireturn hret hlk (nar_c8 p1) (by simp) (hb hby d13_6) (by decide) (by decide) ⟨_, rfl, ⟨u, rfl, rfl, p1⟩⟩ (Keep.refl h0 [])
  · refine go_icT (pc' := 7) (hb hby d13_2) (by decide) rfl (XT.ii_ne_t cz1) ?_
    refine go_iload_n (pc' := 8) (hb hby d13_7) rfl rfl ?_
    refine go_aload_n (pc' := 9) (hb hby d13_8) rfl rfl rfl ?_
    refine callV0 (cells' := 0) (slots' := 0) (Wd := 1) (argsL := []) (rest := [(.int (2 : Int32))]) (pay_len G O0 (n := (11 : Int32)) p2 rfl (by decide) (by decide)) p2.exa (wk G 13 rfl) (wk G 14 rfl) (wk G 16 rfl) (wk G 16 rfl) (wk G 15 rfl) (by decide) pd7 rfl rfl (by rw [hml]; rfl) (Nat.le_of_ble_eq_true rfl) rfl rfl (by decide) (by decide) all0 (fun _ _ => sf0) (hb hby d13_9) (k_v (pc' := 12) rfl ?_)
    rintro _ _ ⟨rfl, rfl⟩ -
    refine go_icF (pc' := 15) (hb hby d13_12) rfl (by decide) ?_
    refine go_aload_n (pc' := 16) (hb hby d13_15) rfl rfl rfl ?_
    refine go_iload_n (pc' := 17) (hb hby d13_16) rfl rfl ?_
    have q2 : C8 c2 := by obtain ⟨_, _, _, _, _, _, q, _⟩ := id p2; exact q _ (by simp)
    refine callV0 (cells' := 0) (slots' := 0) (Wd := 0) (argsL := [(.int (2 : Int32))]) (rest := []) (pay_chr G O0 (i := 2) (c := c2) p2 rfl (Nat.le_of_ble_eq_true rfl) rfl (by decide) (by decide)) p2.exa (wk G 90 rfl) (wk G 91 rfl) (wk G 93 rfl) (wk G 93 rfl) (wk G 92 rfl) (by decide) pd8 rfl rfl (by rw [hml]; rfl) (Nat.le_of_ble_eq_true rfl) rfl rfl (by decide) (by decide) all0 (fun _ _ => sf0) (hb hby d13_17) (k_v (pc' := 20) rfl ?_)
    rintro _ _ ⟨rfl, rfl⟩ -
    refine go_ireturn hret hlk (nar_c8 q2) (by simp) (hb hby d13_20) (by decide) (by decide) ⟨_, rfl, ⟨c2, rfl, rfl, q2⟩⟩ (Keep.refl h0 [])
theorem ef_at11_3 (m : MethodId) (a : Addr) (q : Int32) (u : Int32)  : entryFrame m #[(.ref a), (.int (3 : Int32)), (.int q), (.int u)] 4 = mkF m 0 #[.val (.ref a), .val (.int (3 : Int32)), .val (.int q), .val (.int u)] [] := by first | (simp [entryFrame, mkF, argsToLocals, Value.category]; done) | rfl
def Q_at11_3 (Z : State) (a : Addr) (q : Int32) (u : Int32) (c0 : Int32) (c1 : Int32) (c2 : Int32) (c3 : Int32) (c4 : Int32) (c5 : Int32) (c6 : Int32) (c7 : Int32) (c8 : Int32) (c9 : Int32) (c10 : Int32) (h0 : Heap) (xv : Value) (h : Heap) : Prop := ∃ (c : Int32), (.int c) = xv ∧ h0 = h ∧ C8 c
set_option maxRecDepth 65536 in
set_option maxHeartbeats 40000000 in
theorem c_at11_3 (l : Launch) {Z : State} {a0 : Array Value} (G : GH Z a0) (a : Addr) (q : Int32) (u : Int32) (c0 : Int32) (c1 : Int32) (c2 : Int32) (c3 : Int32) (c4 : Int32) (c5 : Int32) (c6 : Int32) (c7 : Int32) (c8 : Int32) (c9 : Int32) (c10 : Int32) (h0 : Heap) (O0 : Old Z Z.heap.size h0) (p1 : C8 u) (p2 : Str Z h0 a [c0, c1, c2, c3, c4, c5, c6, c7, c8, c9, c10]) : Con false [] l Z (⟨"com/example/ispol/ispol/walls/TransparencyOfPinLaw", "at", "(Ljava/lang/String;IIC)C"⟩ : MethodName) method_6_code 4 (some .char) [] ({ frames := 4, cells := 0, slots := 0, locals := 53 } : Room) #[(.ref a), (.int (3 : Int32)), (.int q), (.int u)] h0 [] (rvl (Q_at11_3 Z a q u c0 c1 c2 c3 c4 c5 c6 c7 c8 c9 c10 h0)) := by
  refine con_of (a0 := a0) (plainFor_of_name pn4) (fun q => rfl) EW.nil O0 (fun m => ef_at11_3 m a q u) ?_
  intro p_ e_ s_ m_ below_ meth_ c_ hby hml hret hlk hnm
  refine go_iload_n (pc' := 1) (hb hby d13_0) rfl rfl ?_
  refine go_iload_n (pc' := 2) (hb hby d13_1) rfl rfl ?_
  by_cases cz1 : (3 : Int32) = q
  · refine go_icF (pc' := 5) (hb hby d13_2) rfl (XT.ii_ne_f cz1) ?_
    refine go_iload_n (pc' := 6) (hb hby d13_5) rfl rfl ?_
    refine go_ireturn hret hlk (nar_c8 p1) (by simp) (hb hby d13_6) (by decide) (by decide) ⟨_, rfl, ⟨u, rfl, rfl, p1⟩⟩ (Keep.refl h0 [])
  · refine go_icT (pc' := 7) (hb hby d13_2) (by decide) rfl (XT.ii_ne_t cz1) ?_
    refine go_iload_n (pc' := 8) (hb hby d13_7) rfl rfl ?_
    refine go_aload_n (pc' := 9) (hb hby d13_8) rfl rfl rfl ?_
    refine callV0 (cells' := 0) (slots' := 0) (Wd := 1) (argsL := []) (rest := [(.int (3 : Int32))]) (pay_len G O0 (n := (11 : Int32)) p2 rfl (by decide) (by decide)) p2.exa (wk G 13 rfl) (wk G 14 rfl) (wk G 16 rfl) (wk G 16 rfl) (wk G 15 rfl) (by decide) pd7 rfl rfl (by rw [hml]; rfl) (Nat.le_of_ble_eq_true rfl) rfl rfl (by decide) (by decide) all0 (fun _ _ => sf0) (hb hby d13_9) (k_v (pc' := 12) rfl ?_)
    rintro _ _ ⟨rfl, rfl⟩ -
    refine go_icF (pc' := 15) (hb hby d13_12) rfl (by decide) ?_
    refine go_aload_n (pc' := 16) (hb hby d13_15) rfl rfl rfl ?_
    refine go_iload_n (pc' := 17) (hb hby d13_16) rfl rfl ?_
    have q2 : C8 c3 := by obtain ⟨_, _, _, _, _, _, q, _⟩ := id p2; exact q _ (by simp)
    refine callV0 (cells' := 0) (slots' := 0) (Wd := 0) (argsL := [(.int (3 : Int32))]) (rest := []) (pay_chr G O0 (i := 3) (c := c3) p2 rfl (Nat.le_of_ble_eq_true rfl) rfl (by decide) (by decide)) p2.exa (wk G 90 rfl) (wk G 91 rfl) (wk G 93 rfl) (wk G 93 rfl) (wk G 92 rfl) (by decide) pd8 rfl rfl (by rw [hml]; rfl) (Nat.le_of_ble_eq_true rfl) rfl rfl (by decide) (by decide) all0 (fun _ _ => sf0) (hb hby d13_17) (k_v (pc' := 20) rfl ?_)
    rintro _ _ ⟨rfl, rfl⟩ -
    refine go_ireturn hret hlk (nar_c8 q2) (by simp) (hb hby d13_20) (by decide) (by decide) ⟨_, rfl, ⟨c3, rfl, rfl, q2⟩⟩ (Keep.refl h0 [])
theorem ef_at11_4 (m : MethodId) (a : Addr) (q : Int32) (u : Int32)  : entryFrame m #[(.ref a), (.int (4 : Int32)), (.int q), (.int u)] 4 = mkF m 0 #[.val (.ref a), .val (.int (4 : Int32)), .val (.int q), .val (.int u)] [] := by first | (simp [entryFrame, mkF, argsToLocals, Value.category]; done) | rfl
def Q_at11_4 (Z : State) (a : Addr) (q : Int32) (u : Int32) (c0 : Int32) (c1 : Int32) (c2 : Int32) (c3 : Int32) (c4 : Int32) (c5 : Int32) (c6 : Int32) (c7 : Int32) (c8 : Int32) (c9 : Int32) (c10 : Int32) (h0 : Heap) (xv : Value) (h : Heap) : Prop := ∃ (c : Int32), (.int c) = xv ∧ h0 = h ∧ C8 c
set_option maxRecDepth 65536 in
set_option maxHeartbeats 40000000 in
theorem c_at11_4 (l : Launch) {Z : State} {a0 : Array Value} (G : GH Z a0) (a : Addr) (q : Int32) (u : Int32) (c0 : Int32) (c1 : Int32) (c2 : Int32) (c3 : Int32) (c4 : Int32) (c5 : Int32) (c6 : Int32) (c7 : Int32) (c8 : Int32) (c9 : Int32) (c10 : Int32) (h0 : Heap) (O0 : Old Z Z.heap.size h0) (p1 : C8 u) (p2 : Str Z h0 a [c0, c1, c2, c3, c4, c5, c6, c7, c8, c9, c10]) : Con false [] l Z (⟨"com/example/ispol/ispol/walls/TransparencyOfPinLaw", "at", "(Ljava/lang/String;IIC)C"⟩ : MethodName) method_6_code 4 (some .char) [] ({ frames := 4, cells := 0, slots := 0, locals := 53 } : Room) #[(.ref a), (.int (4 : Int32)), (.int q), (.int u)] h0 [] (rvl (Q_at11_4 Z a q u c0 c1 c2 c3 c4 c5 c6 c7 c8 c9 c10 h0)) := by
  refine con_of (a0 := a0) (plainFor_of_name pn4) (fun q => rfl) EW.nil O0 (fun m => ef_at11_4 m a q u) ?_
  intro p_ e_ s_ m_ below_ meth_ c_ hby hml hret hlk hnm
  refine go_iload_n (pc' := 1) (hb hby d13_0) rfl rfl ?_
  refine go_iload_n (pc' := 2) (hb hby d13_1) rfl rfl ?_
  by_cases cz1 : (4 : Int32) = q
  · refine go_icF (pc' := 5) (hb hby d13_2) rfl (XT.ii_ne_f cz1) ?_
    refine go_iload_n (pc' := 6) (hb hby d13_5) rfl rfl ?_
    refine go_ireturn hret hlk (nar_c8 p1) (by simp) (hb hby d13_6) (by decide) (by decide) ⟨_, rfl, ⟨u, rfl, rfl, p1⟩⟩ (Keep.refl h0 [])
  · refine go_icT (pc' := 7) (hb hby d13_2) (by decide) rfl (XT.ii_ne_t cz1) ?_
    refine go_iload_n (pc' := 8) (hb hby d13_7) rfl rfl ?_
    refine go_aload_n (pc' := 9) (hb hby d13_8) rfl rfl rfl ?_
    refine callV0 (cells' := 0) (slots' := 0) (Wd := 1) (argsL := []) (rest := [(.int (4 : Int32))]) (pay_len G O0 (n := (11 : Int32)) p2 rfl (by decide) (by decide)) p2.exa (wk G 13 rfl) (wk G 14 rfl) (wk G 16 rfl) (wk G 16 rfl) (wk G 15 rfl) (by decide) pd7 rfl rfl (by rw [hml]; rfl) (Nat.le_of_ble_eq_true rfl) rfl rfl (by decide) (by decide) all0 (fun _ _ => sf0) (hb hby d13_9) (k_v (pc' := 12) rfl ?_)
    rintro _ _ ⟨rfl, rfl⟩ -
    refine go_icF (pc' := 15) (hb hby d13_12) rfl (by decide) ?_
    refine go_aload_n (pc' := 16) (hb hby d13_15) rfl rfl rfl ?_
    refine go_iload_n (pc' := 17) (hb hby d13_16) rfl rfl ?_
    have q2 : C8 c4 := by obtain ⟨_, _, _, _, _, _, q, _⟩ := id p2; exact q _ (by simp)
    refine callV0 (cells' := 0) (slots' := 0) (Wd := 0) (argsL := [(.int (4 : Int32))]) (rest := []) (pay_chr G O0 (i := 4) (c := c4) p2 rfl (Nat.le_of_ble_eq_true rfl) rfl (by decide) (by decide)) p2.exa (wk G 90 rfl) (wk G 91 rfl) (wk G 93 rfl) (wk G 93 rfl) (wk G 92 rfl) (by decide) pd8 rfl rfl (by rw [hml]; rfl) (Nat.le_of_ble_eq_true rfl) rfl rfl (by decide) (by decide) all0 (fun _ _ => sf0) (hb hby d13_17) (k_v (pc' := 20) rfl ?_)
    rintro _ _ ⟨rfl, rfl⟩ -
    refine go_ireturn hret hlk (nar_c8 q2) (by simp) (hb hby d13_20) (by decide) (by decide) ⟨_, rfl, ⟨c4, rfl, rfl, q2⟩⟩ (Keep.refl h0 [])
theorem ef_at11_5 (m : MethodId) (a : Addr) (q : Int32) (u : Int32)  : entryFrame m #[(.ref a), (.int (5 : Int32)), (.int q), (.int u)] 4 = mkF m 0 #[.val (.ref a), .val (.int (5 : Int32)), .val (.int q), .val (.int u)] [] := by first | (simp [entryFrame, mkF, argsToLocals, Value.category]; done) | rfl
def Q_at11_5 (Z : State) (a : Addr) (q : Int32) (u : Int32) (c0 : Int32) (c1 : Int32) (c2 : Int32) (c3 : Int32) (c4 : Int32) (c5 : Int32) (c6 : Int32) (c7 : Int32) (c8 : Int32) (c9 : Int32) (c10 : Int32) (h0 : Heap) (xv : Value) (h : Heap) : Prop := ∃ (c : Int32), (.int c) = xv ∧ h0 = h ∧ C8 c
set_option maxRecDepth 65536 in
set_option maxHeartbeats 40000000 in
theorem c_at11_5 (l : Launch) {Z : State} {a0 : Array Value} (G : GH Z a0) (a : Addr) (q : Int32) (u : Int32) (c0 : Int32) (c1 : Int32) (c2 : Int32) (c3 : Int32) (c4 : Int32) (c5 : Int32) (c6 : Int32) (c7 : Int32) (c8 : Int32) (c9 : Int32) (c10 : Int32) (h0 : Heap) (O0 : Old Z Z.heap.size h0) (p1 : C8 u) (p2 : Str Z h0 a [c0, c1, c2, c3, c4, c5, c6, c7, c8, c9, c10]) : Con false [] l Z (⟨"com/example/ispol/ispol/walls/TransparencyOfPinLaw", "at", "(Ljava/lang/String;IIC)C"⟩ : MethodName) method_6_code 4 (some .char) [] ({ frames := 4, cells := 0, slots := 0, locals := 53 } : Room) #[(.ref a), (.int (5 : Int32)), (.int q), (.int u)] h0 [] (rvl (Q_at11_5 Z a q u c0 c1 c2 c3 c4 c5 c6 c7 c8 c9 c10 h0)) := by
  refine con_of (a0 := a0) (plainFor_of_name pn4) (fun q => rfl) EW.nil O0 (fun m => ef_at11_5 m a q u) ?_
  intro p_ e_ s_ m_ below_ meth_ c_ hby hml hret hlk hnm
  refine go_iload_n (pc' := 1) (hb hby d13_0) rfl rfl ?_
  refine go_iload_n (pc' := 2) (hb hby d13_1) rfl rfl ?_
  by_cases cz1 : (5 : Int32) = q
  · refine go_icF (pc' := 5) (hb hby d13_2) rfl (XT.ii_ne_f cz1) ?_
    refine go_iload_n (pc' := 6) (hb hby d13_5) rfl rfl ?_
    refine go_ireturn hret hlk (nar_c8 p1) (by simp) (hb hby d13_6) (by decide) (by decide) ⟨_, rfl, ⟨u, rfl, rfl, p1⟩⟩ (Keep.refl h0 [])
  · refine go_icT (pc' := 7) (hb hby d13_2) (by decide) rfl (XT.ii_ne_t cz1) ?_
    refine go_iload_n (pc' := 8) (hb hby d13_7) rfl rfl ?_
    refine go_aload_n (pc' := 9) (hb hby d13_8) rfl rfl rfl ?_
    refine callV0 (cells' := 0) (slots' := 0) (Wd := 1) (argsL := []) (rest := [(.int (5 : Int32))]) (pay_len G O0 (n := (11 : Int32)) p2 rfl (by decide) (by decide)) p2.exa (wk G 13 rfl) (wk G 14 rfl) (wk G 16 rfl) (wk G 16 rfl) (wk G 15 rfl) (by decide) pd7 rfl rfl (by rw [hml]; rfl) (Nat.le_of_ble_eq_true rfl) rfl rfl (by decide) (by decide) all0 (fun _ _ => sf0) (hb hby d13_9) (k_v (pc' := 12) rfl ?_)
    rintro _ _ ⟨rfl, rfl⟩ -
    refine go_icF (pc' := 15) (hb hby d13_12) rfl (by decide) ?_
    refine go_aload_n (pc' := 16) (hb hby d13_15) rfl rfl rfl ?_
    refine go_iload_n (pc' := 17) (hb hby d13_16) rfl rfl ?_
    have q2 : C8 c5 := by obtain ⟨_, _, _, _, _, _, q, _⟩ := id p2; exact q _ (by simp)
    refine callV0 (cells' := 0) (slots' := 0) (Wd := 0) (argsL := [(.int (5 : Int32))]) (rest := []) (pay_chr G O0 (i := 5) (c := c5) p2 rfl (Nat.le_of_ble_eq_true rfl) rfl (by decide) (by decide)) p2.exa (wk G 90 rfl) (wk G 91 rfl) (wk G 93 rfl) (wk G 93 rfl) (wk G 92 rfl) (by decide) pd8 rfl rfl (by rw [hml]; rfl) (Nat.le_of_ble_eq_true rfl) rfl rfl (by decide) (by decide) all0 (fun _ _ => sf0) (hb hby d13_17) (k_v (pc' := 20) rfl ?_)
    rintro _ _ ⟨rfl, rfl⟩ -
    refine go_ireturn hret hlk (nar_c8 q2) (by simp) (hb hby d13_20) (by decide) (by decide) ⟨_, rfl, ⟨c5, rfl, rfl, q2⟩⟩ (Keep.refl h0 [])
theorem ef_at11_6 (m : MethodId) (a : Addr) (q : Int32) (u : Int32)  : entryFrame m #[(.ref a), (.int (6 : Int32)), (.int q), (.int u)] 4 = mkF m 0 #[.val (.ref a), .val (.int (6 : Int32)), .val (.int q), .val (.int u)] [] := by first | (simp [entryFrame, mkF, argsToLocals, Value.category]; done) | rfl
def Q_at11_6 (Z : State) (a : Addr) (q : Int32) (u : Int32) (c0 : Int32) (c1 : Int32) (c2 : Int32) (c3 : Int32) (c4 : Int32) (c5 : Int32) (c6 : Int32) (c7 : Int32) (c8 : Int32) (c9 : Int32) (c10 : Int32) (h0 : Heap) (xv : Value) (h : Heap) : Prop := ∃ (c : Int32), (.int c) = xv ∧ h0 = h ∧ C8 c
set_option maxRecDepth 65536 in
set_option maxHeartbeats 40000000 in
theorem c_at11_6 (l : Launch) {Z : State} {a0 : Array Value} (G : GH Z a0) (a : Addr) (q : Int32) (u : Int32) (c0 : Int32) (c1 : Int32) (c2 : Int32) (c3 : Int32) (c4 : Int32) (c5 : Int32) (c6 : Int32) (c7 : Int32) (c8 : Int32) (c9 : Int32) (c10 : Int32) (h0 : Heap) (O0 : Old Z Z.heap.size h0) (p1 : C8 u) (p2 : Str Z h0 a [c0, c1, c2, c3, c4, c5, c6, c7, c8, c9, c10]) : Con false [] l Z (⟨"com/example/ispol/ispol/walls/TransparencyOfPinLaw", "at", "(Ljava/lang/String;IIC)C"⟩ : MethodName) method_6_code 4 (some .char) [] ({ frames := 4, cells := 0, slots := 0, locals := 53 } : Room) #[(.ref a), (.int (6 : Int32)), (.int q), (.int u)] h0 [] (rvl (Q_at11_6 Z a q u c0 c1 c2 c3 c4 c5 c6 c7 c8 c9 c10 h0)) := by
  refine con_of (a0 := a0) (plainFor_of_name pn4) (fun q => rfl) EW.nil O0 (fun m => ef_at11_6 m a q u) ?_
  intro p_ e_ s_ m_ below_ meth_ c_ hby hml hret hlk hnm
  refine go_iload_n (pc' := 1) (hb hby d13_0) rfl rfl ?_
  refine go_iload_n (pc' := 2) (hb hby d13_1) rfl rfl ?_
  by_cases cz1 : (6 : Int32) = q
  · refine go_icF (pc' := 5) (hb hby d13_2) rfl (XT.ii_ne_f cz1) ?_
    refine go_iload_n (pc' := 6) (hb hby d13_5) rfl rfl ?_
    refine go_ireturn hret hlk (nar_c8 p1) (by simp) (hb hby d13_6) (by decide) (by decide) ⟨_, rfl, ⟨u, rfl, rfl, p1⟩⟩ (Keep.refl h0 [])
  · refine go_icT (pc' := 7) (hb hby d13_2) (by decide) rfl (XT.ii_ne_t cz1) ?_
    refine go_iload_n (pc' := 8) (hb hby d13_7) rfl rfl ?_
    refine go_aload_n (pc' := 9) (hb hby d13_8) rfl rfl rfl ?_
    refine callV0 (cells' := 0) (slots' := 0) (Wd := 1) (argsL := []) (rest := [(.int (6 : Int32))]) (pay_len G O0 (n := (11 : Int32)) p2 rfl (by decide) (by decide)) p2.exa (wk G 13 rfl) (wk G 14 rfl) (wk G 16 rfl) (wk G 16 rfl) (wk G 15 rfl) (by decide) pd7 rfl rfl (by rw [hml]; rfl) (Nat.le_of_ble_eq_true rfl) rfl rfl (by decide) (by decide) all0 (fun _ _ => sf0) (hb hby d13_9) (k_v (pc' := 12) rfl ?_)
    rintro _ _ ⟨rfl, rfl⟩ -
    refine go_icF (pc' := 15) (hb hby d13_12) rfl (by decide) ?_
    refine go_aload_n (pc' := 16) (hb hby d13_15) rfl rfl rfl ?_
    refine go_iload_n (pc' := 17) (hb hby d13_16) rfl rfl ?_
    have q2 : C8 c6 := by obtain ⟨_, _, _, _, _, _, q, _⟩ := id p2; exact q _ (by simp)
    refine callV0 (cells' := 0) (slots' := 0) (Wd := 0) (argsL := [(.int (6 : Int32))]) (rest := []) (pay_chr G O0 (i := 6) (c := c6) p2 rfl (Nat.le_of_ble_eq_true rfl) rfl (by decide) (by decide)) p2.exa (wk G 90 rfl) (wk G 91 rfl) (wk G 93 rfl) (wk G 93 rfl) (wk G 92 rfl) (by decide) pd8 rfl rfl (by rw [hml]; rfl) (Nat.le_of_ble_eq_true rfl) rfl rfl (by decide) (by decide) all0 (fun _ _ => sf0) (hb hby d13_17) (k_v (pc' := 20) rfl ?_)
    rintro _ _ ⟨rfl, rfl⟩ -
    refine go_ireturn hret hlk (nar_c8 q2) (by simp) (hb hby d13_20) (by decide) (by decide) ⟨_, rfl, ⟨c6, rfl, rfl, q2⟩⟩ (Keep.refl h0 [])
theorem ef_at11_7 (m : MethodId) (a : Addr) (q : Int32) (u : Int32)  : entryFrame m #[(.ref a), (.int (7 : Int32)), (.int q), (.int u)] 4 = mkF m 0 #[.val (.ref a), .val (.int (7 : Int32)), .val (.int q), .val (.int u)] [] := by first | (simp [entryFrame, mkF, argsToLocals, Value.category]; done) | rfl
def Q_at11_7 (Z : State) (a : Addr) (q : Int32) (u : Int32) (c0 : Int32) (c1 : Int32) (c2 : Int32) (c3 : Int32) (c4 : Int32) (c5 : Int32) (c6 : Int32) (c7 : Int32) (c8 : Int32) (c9 : Int32) (c10 : Int32) (h0 : Heap) (xv : Value) (h : Heap) : Prop := ∃ (c : Int32), (.int c) = xv ∧ h0 = h ∧ C8 c
set_option maxRecDepth 65536 in
set_option maxHeartbeats 40000000 in
theorem c_at11_7 (l : Launch) {Z : State} {a0 : Array Value} (G : GH Z a0) (a : Addr) (q : Int32) (u : Int32) (c0 : Int32) (c1 : Int32) (c2 : Int32) (c3 : Int32) (c4 : Int32) (c5 : Int32) (c6 : Int32) (c7 : Int32) (c8 : Int32) (c9 : Int32) (c10 : Int32) (h0 : Heap) (O0 : Old Z Z.heap.size h0) (p1 : C8 u) (p2 : Str Z h0 a [c0, c1, c2, c3, c4, c5, c6, c7, c8, c9, c10]) : Con false [] l Z (⟨"com/example/ispol/ispol/walls/TransparencyOfPinLaw", "at", "(Ljava/lang/String;IIC)C"⟩ : MethodName) method_6_code 4 (some .char) [] ({ frames := 4, cells := 0, slots := 0, locals := 53 } : Room) #[(.ref a), (.int (7 : Int32)), (.int q), (.int u)] h0 [] (rvl (Q_at11_7 Z a q u c0 c1 c2 c3 c4 c5 c6 c7 c8 c9 c10 h0)) := by
  refine con_of (a0 := a0) (plainFor_of_name pn4) (fun q => rfl) EW.nil O0 (fun m => ef_at11_7 m a q u) ?_
  intro p_ e_ s_ m_ below_ meth_ c_ hby hml hret hlk hnm
  refine go_iload_n (pc' := 1) (hb hby d13_0) rfl rfl ?_
  refine go_iload_n (pc' := 2) (hb hby d13_1) rfl rfl ?_
  by_cases cz1 : (7 : Int32) = q
  · refine go_icF (pc' := 5) (hb hby d13_2) rfl (XT.ii_ne_f cz1) ?_
    refine go_iload_n (pc' := 6) (hb hby d13_5) rfl rfl ?_
    refine go_ireturn hret hlk (nar_c8 p1) (by simp) (hb hby d13_6) (by decide) (by decide) ⟨_, rfl, ⟨u, rfl, rfl, p1⟩⟩ (Keep.refl h0 [])
  · refine go_icT (pc' := 7) (hb hby d13_2) (by decide) rfl (XT.ii_ne_t cz1) ?_
    refine go_iload_n (pc' := 8) (hb hby d13_7) rfl rfl ?_
    refine go_aload_n (pc' := 9) (hb hby d13_8) rfl rfl rfl ?_
    refine callV0 (cells' := 0) (slots' := 0) (Wd := 1) (argsL := []) (rest := [(.int (7 : Int32))]) (pay_len G O0 (n := (11 : Int32)) p2 rfl (by decide) (by decide)) p2.exa (wk G 13 rfl) (wk G 14 rfl) (wk G 16 rfl) (wk G 16 rfl) (wk G 15 rfl) (by decide) pd7 rfl rfl (by rw [hml]; rfl) (Nat.le_of_ble_eq_true rfl) rfl rfl (by decide) (by decide) all0 (fun _ _ => sf0) (hb hby d13_9) (k_v (pc' := 12) rfl ?_)
    rintro _ _ ⟨rfl, rfl⟩ -
    refine go_icF (pc' := 15) (hb hby d13_12) rfl (by decide) ?_
    refine go_aload_n (pc' := 16) (hb hby d13_15) rfl rfl rfl ?_
    refine go_iload_n (pc' := 17) (hb hby d13_16) rfl rfl ?_
    have q2 : C8 c7 := by obtain ⟨_, _, _, _, _, _, q, _⟩ := id p2; exact q _ (by simp)
    refine callV0 (cells' := 0) (slots' := 0) (Wd := 0) (argsL := [(.int (7 : Int32))]) (rest := []) (pay_chr G O0 (i := 7) (c := c7) p2 rfl (Nat.le_of_ble_eq_true rfl) rfl (by decide) (by decide)) p2.exa (wk G 90 rfl) (wk G 91 rfl) (wk G 93 rfl) (wk G 93 rfl) (wk G 92 rfl) (by decide) pd8 rfl rfl (by rw [hml]; rfl) (Nat.le_of_ble_eq_true rfl) rfl rfl (by decide) (by decide) all0 (fun _ _ => sf0) (hb hby d13_17) (k_v (pc' := 20) rfl ?_)
    rintro _ _ ⟨rfl, rfl⟩ -
    refine go_ireturn hret hlk (nar_c8 q2) (by simp) (hb hby d13_20) (by decide) (by decide) ⟨_, rfl, ⟨c7, rfl, rfl, q2⟩⟩ (Keep.refl h0 [])
theorem ef_at11_8 (m : MethodId) (a : Addr) (q : Int32) (u : Int32)  : entryFrame m #[(.ref a), (.int (8 : Int32)), (.int q), (.int u)] 4 = mkF m 0 #[.val (.ref a), .val (.int (8 : Int32)), .val (.int q), .val (.int u)] [] := by first | (simp [entryFrame, mkF, argsToLocals, Value.category]; done) | rfl
def Q_at11_8 (Z : State) (a : Addr) (q : Int32) (u : Int32) (c0 : Int32) (c1 : Int32) (c2 : Int32) (c3 : Int32) (c4 : Int32) (c5 : Int32) (c6 : Int32) (c7 : Int32) (c8 : Int32) (c9 : Int32) (c10 : Int32) (h0 : Heap) (xv : Value) (h : Heap) : Prop := ∃ (c : Int32), (.int c) = xv ∧ h0 = h ∧ C8 c
set_option maxRecDepth 65536 in
set_option maxHeartbeats 40000000 in
theorem c_at11_8 (l : Launch) {Z : State} {a0 : Array Value} (G : GH Z a0) (a : Addr) (q : Int32) (u : Int32) (c0 : Int32) (c1 : Int32) (c2 : Int32) (c3 : Int32) (c4 : Int32) (c5 : Int32) (c6 : Int32) (c7 : Int32) (c8 : Int32) (c9 : Int32) (c10 : Int32) (h0 : Heap) (O0 : Old Z Z.heap.size h0) (p1 : C8 u) (p2 : Str Z h0 a [c0, c1, c2, c3, c4, c5, c6, c7, c8, c9, c10]) : Con false [] l Z (⟨"com/example/ispol/ispol/walls/TransparencyOfPinLaw", "at", "(Ljava/lang/String;IIC)C"⟩ : MethodName) method_6_code 4 (some .char) [] ({ frames := 4, cells := 0, slots := 0, locals := 53 } : Room) #[(.ref a), (.int (8 : Int32)), (.int q), (.int u)] h0 [] (rvl (Q_at11_8 Z a q u c0 c1 c2 c3 c4 c5 c6 c7 c8 c9 c10 h0)) := by
  refine con_of (a0 := a0) (plainFor_of_name pn4) (fun q => rfl) EW.nil O0 (fun m => ef_at11_8 m a q u) ?_
  intro p_ e_ s_ m_ below_ meth_ c_ hby hml hret hlk hnm
  refine go_iload_n (pc' := 1) (hb hby d13_0) rfl rfl ?_
  refine go_iload_n (pc' := 2) (hb hby d13_1) rfl rfl ?_
  by_cases cz1 : (8 : Int32) = q
  · refine go_icF (pc' := 5) (hb hby d13_2) rfl (XT.ii_ne_f cz1) ?_
    refine go_iload_n (pc' := 6) (hb hby d13_5) rfl rfl ?_
    refine go_ireturn hret hlk (nar_c8 p1) (by simp) (hb hby d13_6) (by decide) (by decide) ⟨_, rfl, ⟨u, rfl, rfl, p1⟩⟩ (Keep.refl h0 [])
  · refine go_icT (pc' := 7) (hb hby d13_2) (by decide) rfl (XT.ii_ne_t cz1) ?_
    refine go_iload_n (pc' := 8) (hb hby d13_7) rfl rfl ?_
    refine go_aload_n (pc' := 9) (hb hby d13_8) rfl rfl rfl ?_
    refine callV0 (cells' := 0) (slots' := 0) (Wd := 1) (argsL := []) (rest := [(.int (8 : Int32))]) (pay_len G O0 (n := (11 : Int32)) p2 rfl (by decide) (by decide)) p2.exa (wk G 13 rfl) (wk G 14 rfl) (wk G 16 rfl) (wk G 16 rfl) (wk G 15 rfl) (by decide) pd7 rfl rfl (by rw [hml]; rfl) (Nat.le_of_ble_eq_true rfl) rfl rfl (by decide) (by decide) all0 (fun _ _ => sf0) (hb hby d13_9) (k_v (pc' := 12) rfl ?_)
    rintro _ _ ⟨rfl, rfl⟩ -
    refine go_icF (pc' := 15) (hb hby d13_12) rfl (by decide) ?_
    refine go_aload_n (pc' := 16) (hb hby d13_15) rfl rfl rfl ?_
    refine go_iload_n (pc' := 17) (hb hby d13_16) rfl rfl ?_
    have q2 : C8 c8 := by obtain ⟨_, _, _, _, _, _, q, _⟩ := id p2; exact q _ (by simp)
    refine callV0 (cells' := 0) (slots' := 0) (Wd := 0) (argsL := [(.int (8 : Int32))]) (rest := []) (pay_chr G O0 (i := 8) (c := c8) p2 rfl (Nat.le_of_ble_eq_true rfl) rfl (by decide) (by decide)) p2.exa (wk G 90 rfl) (wk G 91 rfl) (wk G 93 rfl) (wk G 93 rfl) (wk G 92 rfl) (by decide) pd8 rfl rfl (by rw [hml]; rfl) (Nat.le_of_ble_eq_true rfl) rfl rfl (by decide) (by decide) all0 (fun _ _ => sf0) (hb hby d13_17) (k_v (pc' := 20) rfl ?_)
    rintro _ _ ⟨rfl, rfl⟩ -
    refine go_ireturn hret hlk (nar_c8 q2) (by simp) (hb hby d13_20) (by decide) (by decide) ⟨_, rfl, ⟨c8, rfl, rfl, q2⟩⟩ (Keep.refl h0 [])
theorem ef_at11_9 (m : MethodId) (a : Addr) (q : Int32) (u : Int32)  : entryFrame m #[(.ref a), (.int (9 : Int32)), (.int q), (.int u)] 4 = mkF m 0 #[.val (.ref a), .val (.int (9 : Int32)), .val (.int q), .val (.int u)] [] := by first | (simp [entryFrame, mkF, argsToLocals, Value.category]; done) | rfl
def Q_at11_9 (Z : State) (a : Addr) (q : Int32) (u : Int32) (c0 : Int32) (c1 : Int32) (c2 : Int32) (c3 : Int32) (c4 : Int32) (c5 : Int32) (c6 : Int32) (c7 : Int32) (c8 : Int32) (c9 : Int32) (c10 : Int32) (h0 : Heap) (xv : Value) (h : Heap) : Prop := ∃ (c : Int32), (.int c) = xv ∧ h0 = h ∧ C8 c
set_option maxRecDepth 65536 in
set_option maxHeartbeats 40000000 in
theorem c_at11_9 (l : Launch) {Z : State} {a0 : Array Value} (G : GH Z a0) (a : Addr) (q : Int32) (u : Int32) (c0 : Int32) (c1 : Int32) (c2 : Int32) (c3 : Int32) (c4 : Int32) (c5 : Int32) (c6 : Int32) (c7 : Int32) (c8 : Int32) (c9 : Int32) (c10 : Int32) (h0 : Heap) (O0 : Old Z Z.heap.size h0) (p1 : C8 u) (p2 : Str Z h0 a [c0, c1, c2, c3, c4, c5, c6, c7, c8, c9, c10]) : Con false [] l Z (⟨"com/example/ispol/ispol/walls/TransparencyOfPinLaw", "at", "(Ljava/lang/String;IIC)C"⟩ : MethodName) method_6_code 4 (some .char) [] ({ frames := 4, cells := 0, slots := 0, locals := 53 } : Room) #[(.ref a), (.int (9 : Int32)), (.int q), (.int u)] h0 [] (rvl (Q_at11_9 Z a q u c0 c1 c2 c3 c4 c5 c6 c7 c8 c9 c10 h0)) := by
  refine con_of (a0 := a0) (plainFor_of_name pn4) (fun q => rfl) EW.nil O0 (fun m => ef_at11_9 m a q u) ?_
  intro p_ e_ s_ m_ below_ meth_ c_ hby hml hret hlk hnm
  refine go_iload_n (pc' := 1) (hb hby d13_0) rfl rfl ?_
  refine go_iload_n (pc' := 2) (hb hby d13_1) rfl rfl ?_
  by_cases cz1 : (9 : Int32) = q
  · refine go_icF (pc' := 5) (hb hby d13_2) rfl (XT.ii_ne_f cz1) ?_
    refine go_iload_n (pc' := 6) (hb hby d13_5) rfl rfl ?_
    refine go_ireturn hret hlk (nar_c8 p1) (by simp) (hb hby d13_6) (by decide) (by decide) ⟨_, rfl, ⟨u, rfl, rfl, p1⟩⟩ (Keep.refl h0 [])
  · refine go_icT (pc' := 7) (hb hby d13_2) (by decide) rfl (XT.ii_ne_t cz1) ?_
    refine go_iload_n (pc' := 8) (hb hby d13_7) rfl rfl ?_
    refine go_aload_n (pc' := 9) (hb hby d13_8) rfl rfl rfl ?_
    refine callV0 (cells' := 0) (slots' := 0) (Wd := 1) (argsL := []) (rest := [(.int (9 : Int32))]) (pay_len G O0 (n := (11 : Int32)) p2 rfl (by decide) (by decide)) p2.exa (wk G 13 rfl) (wk G 14 rfl) (wk G 16 rfl) (wk G 16 rfl) (wk G 15 rfl) (by decide) pd7 rfl rfl (by rw [hml]; rfl) (Nat.le_of_ble_eq_true rfl) rfl rfl (by decide) (by decide) all0 (fun _ _ => sf0) (hb hby d13_9) (k_v (pc' := 12) rfl ?_)
    rintro _ _ ⟨rfl, rfl⟩ -
    refine go_icF (pc' := 15) (hb hby d13_12) rfl (by decide) ?_
    refine go_aload_n (pc' := 16) (hb hby d13_15) rfl rfl rfl ?_
    refine go_iload_n (pc' := 17) (hb hby d13_16) rfl rfl ?_
    have q2 : C8 c9 := by obtain ⟨_, _, _, _, _, _, q, _⟩ := id p2; exact q _ (by simp)
    refine callV0 (cells' := 0) (slots' := 0) (Wd := 0) (argsL := [(.int (9 : Int32))]) (rest := []) (pay_chr G O0 (i := 9) (c := c9) p2 rfl (Nat.le_of_ble_eq_true rfl) rfl (by decide) (by decide)) p2.exa (wk G 90 rfl) (wk G 91 rfl) (wk G 93 rfl) (wk G 93 rfl) (wk G 92 rfl) (by decide) pd8 rfl rfl (by rw [hml]; rfl) (Nat.le_of_ble_eq_true rfl) rfl rfl (by decide) (by decide) all0 (fun _ _ => sf0) (hb hby d13_17) (k_v (pc' := 20) rfl ?_)
    rintro _ _ ⟨rfl, rfl⟩ -
    refine go_ireturn hret hlk (nar_c8 q2) (by simp) (hb hby d13_20) (by decide) (by decide) ⟨_, rfl, ⟨c9, rfl, rfl, q2⟩⟩ (Keep.refl h0 [])
theorem ef_at11_10 (m : MethodId) (a : Addr) (q : Int32) (u : Int32)  : entryFrame m #[(.ref a), (.int (10 : Int32)), (.int q), (.int u)] 4 = mkF m 0 #[.val (.ref a), .val (.int (10 : Int32)), .val (.int q), .val (.int u)] [] := by first | (simp [entryFrame, mkF, argsToLocals, Value.category]; done) | rfl
def Q_at11_10 (Z : State) (a : Addr) (q : Int32) (u : Int32) (c0 : Int32) (c1 : Int32) (c2 : Int32) (c3 : Int32) (c4 : Int32) (c5 : Int32) (c6 : Int32) (c7 : Int32) (c8 : Int32) (c9 : Int32) (c10 : Int32) (h0 : Heap) (xv : Value) (h : Heap) : Prop := ∃ (c : Int32), (.int c) = xv ∧ h0 = h ∧ C8 c
set_option maxRecDepth 65536 in
set_option maxHeartbeats 40000000 in
theorem c_at11_10 (l : Launch) {Z : State} {a0 : Array Value} (G : GH Z a0) (a : Addr) (q : Int32) (u : Int32) (c0 : Int32) (c1 : Int32) (c2 : Int32) (c3 : Int32) (c4 : Int32) (c5 : Int32) (c6 : Int32) (c7 : Int32) (c8 : Int32) (c9 : Int32) (c10 : Int32) (h0 : Heap) (O0 : Old Z Z.heap.size h0) (p1 : C8 u) (p2 : Str Z h0 a [c0, c1, c2, c3, c4, c5, c6, c7, c8, c9, c10]) : Con false [] l Z (⟨"com/example/ispol/ispol/walls/TransparencyOfPinLaw", "at", "(Ljava/lang/String;IIC)C"⟩ : MethodName) method_6_code 4 (some .char) [] ({ frames := 4, cells := 0, slots := 0, locals := 53 } : Room) #[(.ref a), (.int (10 : Int32)), (.int q), (.int u)] h0 [] (rvl (Q_at11_10 Z a q u c0 c1 c2 c3 c4 c5 c6 c7 c8 c9 c10 h0)) := by
  refine con_of (a0 := a0) (plainFor_of_name pn4) (fun q => rfl) EW.nil O0 (fun m => ef_at11_10 m a q u) ?_
  intro p_ e_ s_ m_ below_ meth_ c_ hby hml hret hlk hnm
  refine go_iload_n (pc' := 1) (hb hby d13_0) rfl rfl ?_
  refine go_iload_n (pc' := 2) (hb hby d13_1) rfl rfl ?_
  by_cases cz1 : (10 : Int32) = q
  · refine go_icF (pc' := 5) (hb hby d13_2) rfl (XT.ii_ne_f cz1) ?_
    refine go_iload_n (pc' := 6) (hb hby d13_5) rfl rfl ?_
    refine go_ireturn hret hlk (nar_c8 p1) (by simp) (hb hby d13_6) (by decide) (by decide) ⟨_, rfl, ⟨u, rfl, rfl, p1⟩⟩ (Keep.refl h0 [])
  · refine go_icT (pc' := 7) (hb hby d13_2) (by decide) rfl (XT.ii_ne_t cz1) ?_
    refine go_iload_n (pc' := 8) (hb hby d13_7) rfl rfl ?_
    refine go_aload_n (pc' := 9) (hb hby d13_8) rfl rfl rfl ?_
    refine callV0 (cells' := 0) (slots' := 0) (Wd := 1) (argsL := []) (rest := [(.int (10 : Int32))]) (pay_len G O0 (n := (11 : Int32)) p2 rfl (by decide) (by decide)) p2.exa (wk G 13 rfl) (wk G 14 rfl) (wk G 16 rfl) (wk G 16 rfl) (wk G 15 rfl) (by decide) pd7 rfl rfl (by rw [hml]; rfl) (Nat.le_of_ble_eq_true rfl) rfl rfl (by decide) (by decide) all0 (fun _ _ => sf0) (hb hby d13_9) (k_v (pc' := 12) rfl ?_)
    rintro _ _ ⟨rfl, rfl⟩ -
    refine go_icF (pc' := 15) (hb hby d13_12) rfl (by decide) ?_
    refine go_aload_n (pc' := 16) (hb hby d13_15) rfl rfl rfl ?_
    refine go_iload_n (pc' := 17) (hb hby d13_16) rfl rfl ?_
    have q2 : C8 c10 := by obtain ⟨_, _, _, _, _, _, q, _⟩ := id p2; exact q _ (by simp)
    refine callV0 (cells' := 0) (slots' := 0) (Wd := 0) (argsL := [(.int (10 : Int32))]) (rest := []) (pay_chr G O0 (i := 10) (c := c10) p2 rfl (Nat.le_of_ble_eq_true rfl) rfl (by decide) (by decide)) p2.exa (wk G 90 rfl) (wk G 91 rfl) (wk G 93 rfl) (wk G 93 rfl) (wk G 92 rfl) (by decide) pd8 rfl rfl (by rw [hml]; rfl) (Nat.le_of_ble_eq_true rfl) rfl rfl (by decide) (by decide) all0 (fun _ _ => sf0) (hb hby d13_17) (k_v (pc' := 20) rfl ?_)
    rintro _ _ ⟨rfl, rfl⟩ -
    refine go_ireturn hret hlk (nar_c8 q2) (by simp) (hb hby d13_20) (by decide) (by decide) ⟨_, rfl, ⟨c10, rfl, rfl, q2⟩⟩ (Keep.refl h0 [])
theorem ef_at11_11 (m : MethodId) (a : Addr) (q : Int32) (u : Int32)  : entryFrame m #[(.ref a), (.int (11 : Int32)), (.int q), (.int u)] 4 = mkF m 0 #[.val (.ref a), .val (.int (11 : Int32)), .val (.int q), .val (.int u)] [] := by first | (simp [entryFrame, mkF, argsToLocals, Value.category]; done) | rfl
def Q_at11_11 (Z : State) (a : Addr) (q : Int32) (u : Int32) (c0 : Int32) (c1 : Int32) (c2 : Int32) (c3 : Int32) (c4 : Int32) (c5 : Int32) (c6 : Int32) (c7 : Int32) (c8 : Int32) (c9 : Int32) (c10 : Int32) (h0 : Heap) (xv : Value) (h : Heap) : Prop := ∃ (c : Int32), (.int c) = xv ∧ h0 = h ∧ C8 c
set_option maxRecDepth 65536 in
set_option maxHeartbeats 40000000 in
theorem c_at11_11 (l : Launch) {Z : State} {a0 : Array Value} (G : GH Z a0) (a : Addr) (q : Int32) (u : Int32) (c0 : Int32) (c1 : Int32) (c2 : Int32) (c3 : Int32) (c4 : Int32) (c5 : Int32) (c6 : Int32) (c7 : Int32) (c8 : Int32) (c9 : Int32) (c10 : Int32) (h0 : Heap) (O0 : Old Z Z.heap.size h0) (p1 : C8 u) (p2 : Str Z h0 a [c0, c1, c2, c3, c4, c5, c6, c7, c8, c9, c10]) : Con false [] l Z (⟨"com/example/ispol/ispol/walls/TransparencyOfPinLaw", "at", "(Ljava/lang/String;IIC)C"⟩ : MethodName) method_6_code 4 (some .char) [] ({ frames := 2, cells := 0, slots := 0, locals := 26 } : Room) #[(.ref a), (.int (11 : Int32)), (.int q), (.int u)] h0 [] (rvl (Q_at11_11 Z a q u c0 c1 c2 c3 c4 c5 c6 c7 c8 c9 c10 h0)) := by
  refine con_of (a0 := a0) (plainFor_of_name pn4) (fun q => rfl) EW.nil O0 (fun m => ef_at11_11 m a q u) ?_
  intro p_ e_ s_ m_ below_ meth_ c_ hby hml hret hlk hnm
  refine go_iload_n (pc' := 1) (hb hby d13_0) rfl rfl ?_
  refine go_iload_n (pc' := 2) (hb hby d13_1) rfl rfl ?_
  by_cases cz1 : (11 : Int32) = q
  · refine go_icF (pc' := 5) (hb hby d13_2) rfl (XT.ii_ne_f cz1) ?_
    refine go_iload_n (pc' := 6) (hb hby d13_5) rfl rfl ?_
    refine go_ireturn hret hlk (nar_c8 p1) (by simp) (hb hby d13_6) (by decide) (by decide) ⟨_, rfl, ⟨u, rfl, rfl, p1⟩⟩ (Keep.refl h0 [])
  · refine go_icT (pc' := 7) (hb hby d13_2) (by decide) rfl (XT.ii_ne_t cz1) ?_
    refine go_iload_n (pc' := 8) (hb hby d13_7) rfl rfl ?_
    refine go_aload_n (pc' := 9) (hb hby d13_8) rfl rfl rfl ?_
    refine callV0 (cells' := 0) (slots' := 0) (Wd := 1) (argsL := []) (rest := [(.int (11 : Int32))]) (pay_len G O0 (n := (11 : Int32)) p2 rfl (by decide) (by decide)) p2.exa (wk G 13 rfl) (wk G 14 rfl) (wk G 16 rfl) (wk G 16 rfl) (wk G 15 rfl) (by decide) pd7 rfl rfl (by rw [hml]; rfl) (Nat.le_of_ble_eq_true rfl) rfl rfl (by decide) (by decide) all0 (fun _ _ => sf0) (hb hby d13_9) (k_v (pc' := 12) rfl ?_)
    rintro _ _ ⟨rfl, rfl⟩ -
    refine go_icT (pc' := 21) (hb hby d13_12) (by decide) rfl (by decide) ?_
    refine go_iload_n (pc' := 22) (hb hby d13_21) rfl rfl ?_
    refine go_ireturn hret hlk (nar_c8 p1) (by simp) (hb hby d13_22) (by decide) (by decide) ⟨_, rfl, ⟨u, rfl, rfl, p1⟩⟩ (Keep.refl h0 [])
theorem ef_at6_0 (m : MethodId) (a : Addr) (q : Int32) (u : Int32)  : entryFrame m #[(.ref a), (.int (0 : Int32)), (.int q), (.int u)] 4 = mkF m 0 #[.val (.ref a), .val (.int (0 : Int32)), .val (.int q), .val (.int u)] [] := by first | (simp [entryFrame, mkF, argsToLocals, Value.category]; done) | rfl
def Q_at6_0 (Z : State) (a : Addr) (q : Int32) (u : Int32) (c0 : Int32) (c1 : Int32) (c2 : Int32) (c3 : Int32) (c4 : Int32) (c5 : Int32) (h0 : Heap) (xv : Value) (h : Heap) : Prop := ∃ (c : Int32), (.int c) = xv ∧ h0 = h ∧ C8 c
set_option maxRecDepth 65536 in
set_option maxHeartbeats 40000000 in
theorem c_at6_0 (l : Launch) {Z : State} {a0 : Array Value} (G : GH Z a0) (a : Addr) (q : Int32) (u : Int32) (c0 : Int32) (c1 : Int32) (c2 : Int32) (c3 : Int32) (c4 : Int32) (c5 : Int32) (h0 : Heap) (O0 : Old Z Z.heap.size h0) (p1 : C8 u) (p2 : Str Z h0 a [c0, c1, c2, c3, c4, c5]) : Con false [] l Z (⟨"com/example/ispol/ispol/walls/TransparencyOfPinLaw", "at", "(Ljava/lang/String;IIC)C"⟩ : MethodName) method_6_code 4 (some .char) [] ({ frames := 4, cells := 0, slots := 0, locals := 53 } : Room) #[(.ref a), (.int (0 : Int32)), (.int q), (.int u)] h0 [] (rvl (Q_at6_0 Z a q u c0 c1 c2 c3 c4 c5 h0)) := by
  refine con_of (a0 := a0) (plainFor_of_name pn4) (fun q => rfl) EW.nil O0 (fun m => ef_at6_0 m a q u) ?_
  intro p_ e_ s_ m_ below_ meth_ c_ hby hml hret hlk hnm
  refine go_iload_n (pc' := 1) (hb hby d13_0) rfl rfl ?_
  refine go_iload_n (pc' := 2) (hb hby d13_1) rfl rfl ?_
  by_cases cz1 : (0 : Int32) = q
  · refine go_icF (pc' := 5) (hb hby d13_2) rfl (XT.ii_ne_f cz1) ?_
    refine go_iload_n (pc' := 6) (hb hby d13_5) rfl rfl ?_
    refine go_ireturn hret hlk (nar_c8 p1) (by simp) (hb hby d13_6) (by decide) (by decide) ⟨_, rfl, ⟨u, rfl, rfl, p1⟩⟩ (Keep.refl h0 [])
  · refine go_icT (pc' := 7) (hb hby d13_2) (by decide) rfl (XT.ii_ne_t cz1) ?_
    refine go_iload_n (pc' := 8) (hb hby d13_7) rfl rfl ?_
    refine go_aload_n (pc' := 9) (hb hby d13_8) rfl rfl rfl ?_
    refine callV0 (cells' := 0) (slots' := 0) (Wd := 1) (argsL := []) (rest := [(.int (0 : Int32))]) (pay_len G O0 (n := (6 : Int32)) p2 rfl (by decide) (by decide)) p2.exa (wk G 13 rfl) (wk G 14 rfl) (wk G 16 rfl) (wk G 16 rfl) (wk G 15 rfl) (by decide) pd7 rfl rfl (by rw [hml]; rfl) (Nat.le_of_ble_eq_true rfl) rfl rfl (by decide) (by decide) all0 (fun _ _ => sf0) (hb hby d13_9) (k_v (pc' := 12) rfl ?_)
    rintro _ _ ⟨rfl, rfl⟩ -
    refine go_icF (pc' := 15) (hb hby d13_12) rfl (by decide) ?_
    refine go_aload_n (pc' := 16) (hb hby d13_15) rfl rfl rfl ?_
    refine go_iload_n (pc' := 17) (hb hby d13_16) rfl rfl ?_
    have q2 : C8 c0 := by obtain ⟨_, _, _, _, _, _, q, _⟩ := id p2; exact q _ (by simp)
    refine callV0 (cells' := 0) (slots' := 0) (Wd := 0) (argsL := [(.int (0 : Int32))]) (rest := []) (pay_chr G O0 (i := 0) (c := c0) p2 rfl (Nat.le_of_ble_eq_true rfl) rfl (by decide) (by decide)) p2.exa (wk G 90 rfl) (wk G 91 rfl) (wk G 93 rfl) (wk G 93 rfl) (wk G 92 rfl) (by decide) pd8 rfl rfl (by rw [hml]; rfl) (Nat.le_of_ble_eq_true rfl) rfl rfl (by decide) (by decide) all0 (fun _ _ => sf0) (hb hby d13_17) (k_v (pc' := 20) rfl ?_)
    rintro _ _ ⟨rfl, rfl⟩ -
    refine go_ireturn hret hlk (nar_c8 q2) (by simp) (hb hby d13_20) (by decide) (by decide) ⟨_, rfl, ⟨c0, rfl, rfl, q2⟩⟩ (Keep.refl h0 [])
theorem ef_at6_1 (m : MethodId) (a : Addr) (q : Int32) (u : Int32)  : entryFrame m #[(.ref a), (.int (1 : Int32)), (.int q), (.int u)] 4 = mkF m 0 #[.val (.ref a), .val (.int (1 : Int32)), .val (.int q), .val (.int u)] [] := by first | (simp [entryFrame, mkF, argsToLocals, Value.category]; done) | rfl
def Q_at6_1 (Z : State) (a : Addr) (q : Int32) (u : Int32) (c0 : Int32) (c1 : Int32) (c2 : Int32) (c3 : Int32) (c4 : Int32) (c5 : Int32) (h0 : Heap) (xv : Value) (h : Heap) : Prop := ∃ (c : Int32), (.int c) = xv ∧ h0 = h ∧ C8 c
set_option maxRecDepth 65536 in
set_option maxHeartbeats 40000000 in
theorem c_at6_1 (l : Launch) {Z : State} {a0 : Array Value} (G : GH Z a0) (a : Addr) (q : Int32) (u : Int32) (c0 : Int32) (c1 : Int32) (c2 : Int32) (c3 : Int32) (c4 : Int32) (c5 : Int32) (h0 : Heap) (O0 : Old Z Z.heap.size h0) (p1 : C8 u) (p2 : Str Z h0 a [c0, c1, c2, c3, c4, c5]) : Con false [] l Z (⟨"com/example/ispol/ispol/walls/TransparencyOfPinLaw", "at", "(Ljava/lang/String;IIC)C"⟩ : MethodName) method_6_code 4 (some .char) [] ({ frames := 4, cells := 0, slots := 0, locals := 53 } : Room) #[(.ref a), (.int (1 : Int32)), (.int q), (.int u)] h0 [] (rvl (Q_at6_1 Z a q u c0 c1 c2 c3 c4 c5 h0)) := by
  refine con_of (a0 := a0) (plainFor_of_name pn4) (fun q => rfl) EW.nil O0 (fun m => ef_at6_1 m a q u) ?_
  intro p_ e_ s_ m_ below_ meth_ c_ hby hml hret hlk hnm
  refine go_iload_n (pc' := 1) (hb hby d13_0) rfl rfl ?_
  refine go_iload_n (pc' := 2) (hb hby d13_1) rfl rfl ?_
  by_cases cz1 : (1 : Int32) = q
  · refine go_icF (pc' := 5) (hb hby d13_2) rfl (XT.ii_ne_f cz1) ?_
    refine go_iload_n (pc' := 6) (hb hby d13_5) rfl rfl ?_
    refine go_ireturn hret hlk (nar_c8 p1) (by simp) (hb hby d13_6) (by decide) (by decide) ⟨_, rfl, ⟨u, rfl, rfl, p1⟩⟩ (Keep.refl h0 [])
  · refine go_icT (pc' := 7) (hb hby d13_2) (by decide) rfl (XT.ii_ne_t cz1) ?_
    refine go_iload_n (pc' := 8) (hb hby d13_7) rfl rfl ?_
    refine go_aload_n (pc' := 9) (hb hby d13_8) rfl rfl rfl ?_
    refine callV0 (cells' := 0) (slots' := 0) (Wd := 1) (argsL := []) (rest := [(.int (1 : Int32))]) (pay_len G O0 (n := (6 : Int32)) p2 rfl (by decide) (by decide)) p2.exa (wk G 13 rfl) (wk G 14 rfl) (wk G 16 rfl) (wk G 16 rfl) (wk G 15 rfl) (by decide) pd7 rfl rfl (by rw [hml]; rfl) (Nat.le_of_ble_eq_true rfl) rfl rfl (by decide) (by decide) all0 (fun _ _ => sf0) (hb hby d13_9) (k_v (pc' := 12) rfl ?_)
    rintro _ _ ⟨rfl, rfl⟩ -
    refine go_icF (pc' := 15) (hb hby d13_12) rfl (by decide) ?_
    refine go_aload_n (pc' := 16) (hb hby d13_15) rfl rfl rfl ?_
    refine go_iload_n (pc' := 17) (hb hby d13_16) rfl rfl ?_
    have q2 : C8 c1 := by obtain ⟨_, _, _, _, _, _, q, _⟩ := id p2; exact q _ (by simp)
    refine callV0 (cells' := 0) (slots' := 0) (Wd := 0) (argsL := [(.int (1 : Int32))]) (rest := []) (pay_chr G O0 (i := 1) (c := c1) p2 rfl (Nat.le_of_ble_eq_true rfl) rfl (by decide) (by decide)) p2.exa (wk G 90 rfl) (wk G 91 rfl) (wk G 93 rfl) (wk G 93 rfl) (wk G 92 rfl) (by decide) pd8 rfl rfl (by rw [hml]; rfl) (Nat.le_of_ble_eq_true rfl) rfl rfl (by decide) (by decide) all0 (fun _ _ => sf0) (hb hby d13_17) (k_v (pc' := 20) rfl ?_)
    rintro _ _ ⟨rfl, rfl⟩ -
    refine go_ireturn hret hlk (nar_c8 q2) (by simp) (hb hby d13_20) (by decide) (by decide) ⟨_, rfl, ⟨c1, rfl, rfl, q2⟩⟩ (Keep.refl h0 [])
theorem ef_at6_2 (m : MethodId) (a : Addr) (q : Int32) (u : Int32)  : entryFrame m #[(.ref a), (.int (2 : Int32)), (.int q), (.int u)] 4 = mkF m 0 #[.val (.ref a), .val (.int (2 : Int32)), .val (.int q), .val (.int u)] [] := by first | (simp [entryFrame, mkF, argsToLocals, Value.category]; done) | rfl
def Q_at6_2 (Z : State) (a : Addr) (q : Int32) (u : Int32) (c0 : Int32) (c1 : Int32) (c2 : Int32) (c3 : Int32) (c4 : Int32) (c5 : Int32) (h0 : Heap) (xv : Value) (h : Heap) : Prop := ∃ (c : Int32), (.int c) = xv ∧ h0 = h ∧ C8 c
set_option maxRecDepth 65536 in
set_option maxHeartbeats 40000000 in
theorem c_at6_2 (l : Launch) {Z : State} {a0 : Array Value} (G : GH Z a0) (a : Addr) (q : Int32) (u : Int32) (c0 : Int32) (c1 : Int32) (c2 : Int32) (c3 : Int32) (c4 : Int32) (c5 : Int32) (h0 : Heap) (O0 : Old Z Z.heap.size h0) (p1 : C8 u) (p2 : Str Z h0 a [c0, c1, c2, c3, c4, c5]) : Con false [] l Z (⟨"com/example/ispol/ispol/walls/TransparencyOfPinLaw", "at", "(Ljava/lang/String;IIC)C"⟩ : MethodName) method_6_code 4 (some .char) [] ({ frames := 4, cells := 0, slots := 0, locals := 53 } : Room) #[(.ref a), (.int (2 : Int32)), (.int q), (.int u)] h0 [] (rvl (Q_at6_2 Z a q u c0 c1 c2 c3 c4 c5 h0)) := by
  refine con_of (a0 := a0) (plainFor_of_name pn4) (fun q => rfl) EW.nil O0 (fun m => ef_at6_2 m a q u) ?_
  intro p_ e_ s_ m_ below_ meth_ c_ hby hml hret hlk hnm
  refine go_iload_n (pc' := 1) (hb hby d13_0) rfl rfl ?_
  refine go_iload_n (pc' := 2) (hb hby d13_1) rfl rfl ?_
  by_cases cz1 : (2 : Int32) = q
  · refine go_icF (pc' := 5) (hb hby d13_2) rfl (XT.ii_ne_f cz1) ?_
    refine go_iload_n (pc' := 6) (hb hby d13_5) rfl rfl ?_
    refine go_ireturn hret hlk (nar_c8 p1) (by simp) (hb hby d13_6) (by decide) (by decide) ⟨_, rfl, ⟨u, rfl, rfl, p1⟩⟩ (Keep.refl h0 [])
  · refine go_icT (pc' := 7) (hb hby d13_2) (by decide) rfl (XT.ii_ne_t cz1) ?_
    refine go_iload_n (pc' := 8) (hb hby d13_7) rfl rfl ?_
    refine go_aload_n (pc' := 9) (hb hby d13_8) rfl rfl rfl ?_
    refine callV0 (cells' := 0) (slots' := 0) (Wd := 1) (argsL := []) (rest := [(.int (2 : Int32))]) (pay_len G O0 (n := (6 : Int32)) p2 rfl (by decide) (by decide)) p2.exa (wk G 13 rfl) (wk G 14 rfl) (wk G 16 rfl) (wk G 16 rfl) (wk G 15 rfl) (by decide) pd7 rfl rfl (by rw [hml]; rfl) (Nat.le_of_ble_eq_true rfl) rfl rfl (by decide) (by decide) all0 (fun _ _ => sf0) (hb hby d13_9) (k_v (pc' := 12) rfl ?_)
    rintro _ _ ⟨rfl, rfl⟩ -
    refine go_icF (pc' := 15) (hb hby d13_12) rfl (by decide) ?_
    refine go_aload_n (pc' := 16) (hb hby d13_15) rfl rfl rfl ?_
    refine go_iload_n (pc' := 17) (hb hby d13_16) rfl rfl ?_
    have q2 : C8 c2 := by obtain ⟨_, _, _, _, _, _, q, _⟩ := id p2; exact q _ (by simp)
    refine callV0 (cells' := 0) (slots' := 0) (Wd := 0) (argsL := [(.int (2 : Int32))]) (rest := []) (pay_chr G O0 (i := 2) (c := c2) p2 rfl (Nat.le_of_ble_eq_true rfl) rfl (by decide) (by decide)) p2.exa (wk G 90 rfl) (wk G 91 rfl) (wk G 93 rfl) (wk G 93 rfl) (wk G 92 rfl) (by decide) pd8 rfl rfl (by rw [hml]; rfl) (Nat.le_of_ble_eq_true rfl) rfl rfl (by decide) (by decide) all0 (fun _ _ => sf0) (hb hby d13_17) (k_v (pc' := 20) rfl ?_)
    rintro _ _ ⟨rfl, rfl⟩ -
    refine go_ireturn hret hlk (nar_c8 q2) (by simp) (hb hby d13_20) (by decide) (by decide) ⟨_, rfl, ⟨c2, rfl, rfl, q2⟩⟩ (Keep.refl h0 [])
theorem ef_at6_3 (m : MethodId) (a : Addr) (q : Int32) (u : Int32)  : entryFrame m #[(.ref a), (.int (3 : Int32)), (.int q), (.int u)] 4 = mkF m 0 #[.val (.ref a), .val (.int (3 : Int32)), .val (.int q), .val (.int u)] [] := by first | (simp [entryFrame, mkF, argsToLocals, Value.category]; done) | rfl
def Q_at6_3 (Z : State) (a : Addr) (q : Int32) (u : Int32) (c0 : Int32) (c1 : Int32) (c2 : Int32) (c3 : Int32) (c4 : Int32) (c5 : Int32) (h0 : Heap) (xv : Value) (h : Heap) : Prop := ∃ (c : Int32), (.int c) = xv ∧ h0 = h ∧ C8 c
set_option maxRecDepth 65536 in
set_option maxHeartbeats 40000000 in
theorem c_at6_3 (l : Launch) {Z : State} {a0 : Array Value} (G : GH Z a0) (a : Addr) (q : Int32) (u : Int32) (c0 : Int32) (c1 : Int32) (c2 : Int32) (c3 : Int32) (c4 : Int32) (c5 : Int32) (h0 : Heap) (O0 : Old Z Z.heap.size h0) (p1 : C8 u) (p2 : Str Z h0 a [c0, c1, c2, c3, c4, c5]) : Con false [] l Z (⟨"com/example/ispol/ispol/walls/TransparencyOfPinLaw", "at", "(Ljava/lang/String;IIC)C"⟩ : MethodName) method_6_code 4 (some .char) [] ({ frames := 4, cells := 0, slots := 0, locals := 53 } : Room) #[(.ref a), (.int (3 : Int32)), (.int q), (.int u)] h0 [] (rvl (Q_at6_3 Z a q u c0 c1 c2 c3 c4 c5 h0)) := by
  refine con_of (a0 := a0) (plainFor_of_name pn4) (fun q => rfl) EW.nil O0 (fun m => ef_at6_3 m a q u) ?_
  intro p_ e_ s_ m_ below_ meth_ c_ hby hml hret hlk hnm
  refine go_iload_n (pc' := 1) (hb hby d13_0) rfl rfl ?_
  refine go_iload_n (pc' := 2) (hb hby d13_1) rfl rfl ?_
  by_cases cz1 : (3 : Int32) = q
  · refine go_icF (pc' := 5) (hb hby d13_2) rfl (XT.ii_ne_f cz1) ?_
    refine go_iload_n (pc' := 6) (hb hby d13_5) rfl rfl ?_
    refine go_ireturn hret hlk (nar_c8 p1) (by simp) (hb hby d13_6) (by decide) (by decide) ⟨_, rfl, ⟨u, rfl, rfl, p1⟩⟩ (Keep.refl h0 [])
  · refine go_icT (pc' := 7) (hb hby d13_2) (by decide) rfl (XT.ii_ne_t cz1) ?_
    refine go_iload_n (pc' := 8) (hb hby d13_7) rfl rfl ?_
    refine go_aload_n (pc' := 9) (hb hby d13_8) rfl rfl rfl ?_
    refine callV0 (cells' := 0) (slots' := 0) (Wd := 1) (argsL := []) (rest := [(.int (3 : Int32))]) (pay_len G O0 (n := (6 : Int32)) p2 rfl (by decide) (by decide)) p2.exa (wk G 13 rfl) (wk G 14 rfl) (wk G 16 rfl) (wk G 16 rfl) (wk G 15 rfl) (by decide) pd7 rfl rfl (by rw [hml]; rfl) (Nat.le_of_ble_eq_true rfl) rfl rfl (by decide) (by decide) all0 (fun _ _ => sf0) (hb hby d13_9) (k_v (pc' := 12) rfl ?_)
    rintro _ _ ⟨rfl, rfl⟩ -
    refine go_icF (pc' := 15) (hb hby d13_12) rfl (by decide) ?_
    refine go_aload_n (pc' := 16) (hb hby d13_15) rfl rfl rfl ?_
    refine go_iload_n (pc' := 17) (hb hby d13_16) rfl rfl ?_
    have q2 : C8 c3 := by obtain ⟨_, _, _, _, _, _, q, _⟩ := id p2; exact q _ (by simp)
    refine callV0 (cells' := 0) (slots' := 0) (Wd := 0) (argsL := [(.int (3 : Int32))]) (rest := []) (pay_chr G O0 (i := 3) (c := c3) p2 rfl (Nat.le_of_ble_eq_true rfl) rfl (by decide) (by decide)) p2.exa (wk G 90 rfl) (wk G 91 rfl) (wk G 93 rfl) (wk G 93 rfl) (wk G 92 rfl) (by decide) pd8 rfl rfl (by rw [hml]; rfl) (Nat.le_of_ble_eq_true rfl) rfl rfl (by decide) (by decide) all0 (fun _ _ => sf0) (hb hby d13_17) (k_v (pc' := 20) rfl ?_)
    rintro _ _ ⟨rfl, rfl⟩ -
    refine go_ireturn hret hlk (nar_c8 q2) (by simp) (hb hby d13_20) (by decide) (by decide) ⟨_, rfl, ⟨c3, rfl, rfl, q2⟩⟩ (Keep.refl h0 [])
theorem ef_at6_4 (m : MethodId) (a : Addr) (q : Int32) (u : Int32)  : entryFrame m #[(.ref a), (.int (4 : Int32)), (.int q), (.int u)] 4 = mkF m 0 #[.val (.ref a), .val (.int (4 : Int32)), .val (.int q), .val (.int u)] [] := by first | (simp [entryFrame, mkF, argsToLocals, Value.category]; done) | rfl
def Q_at6_4 (Z : State) (a : Addr) (q : Int32) (u : Int32) (c0 : Int32) (c1 : Int32) (c2 : Int32) (c3 : Int32) (c4 : Int32) (c5 : Int32) (h0 : Heap) (xv : Value) (h : Heap) : Prop := ∃ (c : Int32), (.int c) = xv ∧ h0 = h ∧ C8 c
set_option maxRecDepth 65536 in
set_option maxHeartbeats 40000000 in
theorem c_at6_4 (l : Launch) {Z : State} {a0 : Array Value} (G : GH Z a0) (a : Addr) (q : Int32) (u : Int32) (c0 : Int32) (c1 : Int32) (c2 : Int32) (c3 : Int32) (c4 : Int32) (c5 : Int32) (h0 : Heap) (O0 : Old Z Z.heap.size h0) (p1 : C8 u) (p2 : Str Z h0 a [c0, c1, c2, c3, c4, c5]) : Con false [] l Z (⟨"com/example/ispol/ispol/walls/TransparencyOfPinLaw", "at", "(Ljava/lang/String;IIC)C"⟩ : MethodName) method_6_code 4 (some .char) [] ({ frames := 4, cells := 0, slots := 0, locals := 53 } : Room) #[(.ref a), (.int (4 : Int32)), (.int q), (.int u)] h0 [] (rvl (Q_at6_4 Z a q u c0 c1 c2 c3 c4 c5 h0)) := by
  refine con_of (a0 := a0) (plainFor_of_name pn4) (fun q => rfl) EW.nil O0 (fun m => ef_at6_4 m a q u) ?_
  intro p_ e_ s_ m_ below_ meth_ c_ hby hml hret hlk hnm
  refine go_iload_n (pc' := 1) (hb hby d13_0) rfl rfl ?_
  refine go_iload_n (pc' := 2) (hb hby d13_1) rfl rfl ?_
  by_cases cz1 : (4 : Int32) = q
  · refine go_icF (pc' := 5) (hb hby d13_2) rfl (XT.ii_ne_f cz1) ?_
    refine go_iload_n (pc' := 6) (hb hby d13_5) rfl rfl ?_
    refine go_ireturn hret hlk (nar_c8 p1) (by simp) (hb hby d13_6) (by decide) (by decide) ⟨_, rfl, ⟨u, rfl, rfl, p1⟩⟩ (Keep.refl h0 [])
  · refine go_icT (pc' := 7) (hb hby d13_2) (by decide) rfl (XT.ii_ne_t cz1) ?_
    refine go_iload_n (pc' := 8) (hb hby d13_7) rfl rfl ?_
    refine go_aload_n (pc' := 9) (hb hby d13_8) rfl rfl rfl ?_
    refine callV0 (cells' := 0) (slots' := 0) (Wd := 1) (argsL := []) (rest := [(.int (4 : Int32))]) (pay_len G O0 (n := (6 : Int32)) p2 rfl (by decide) (by decide)) p2.exa (wk G 13 rfl) (wk G 14 rfl) (wk G 16 rfl) (wk G 16 rfl) (wk G 15 rfl) (by decide) pd7 rfl rfl (by rw [hml]; rfl) (Nat.le_of_ble_eq_true rfl) rfl rfl (by decide) (by decide) all0 (fun _ _ => sf0) (hb hby d13_9) (k_v (pc' := 12) rfl ?_)
    rintro _ _ ⟨rfl, rfl⟩ -
    refine go_icF (pc' := 15) (hb hby d13_12) rfl (by decide) ?_
    refine go_aload_n (pc' := 16) (hb hby d13_15) rfl rfl rfl ?_
    refine go_iload_n (pc' := 17) (hb hby d13_16) rfl rfl ?_
    have q2 : C8 c4 := by obtain ⟨_, _, _, _, _, _, q, _⟩ := id p2; exact q _ (by simp)
    refine callV0 (cells' := 0) (slots' := 0) (Wd := 0) (argsL := [(.int (4 : Int32))]) (rest := []) (pay_chr G O0 (i := 4) (c := c4) p2 rfl (Nat.le_of_ble_eq_true rfl) rfl (by decide) (by decide)) p2.exa (wk G 90 rfl) (wk G 91 rfl) (wk G 93 rfl) (wk G 93 rfl) (wk G 92 rfl) (by decide) pd8 rfl rfl (by rw [hml]; rfl) (Nat.le_of_ble_eq_true rfl) rfl rfl (by decide) (by decide) all0 (fun _ _ => sf0) (hb hby d13_17) (k_v (pc' := 20) rfl ?_)
    rintro _ _ ⟨rfl, rfl⟩ -
    refine go_ireturn hret hlk (nar_c8 q2) (by simp) (hb hby d13_20) (by decide) (by decide) ⟨_, rfl, ⟨c4, rfl, rfl, q2⟩⟩ (Keep.refl h0 [])
theorem ef_at6_5 (m : MethodId) (a : Addr) (q : Int32) (u : Int32)  : entryFrame m #[(.ref a), (.int (5 : Int32)), (.int q), (.int u)] 4 = mkF m 0 #[.val (.ref a), .val (.int (5 : Int32)), .val (.int q), .val (.int u)] [] := by first | (simp [entryFrame, mkF, argsToLocals, Value.category]; done) | rfl
def Q_at6_5 (Z : State) (a : Addr) (q : Int32) (u : Int32) (c0 : Int32) (c1 : Int32) (c2 : Int32) (c3 : Int32) (c4 : Int32) (c5 : Int32) (h0 : Heap) (xv : Value) (h : Heap) : Prop := ∃ (c : Int32), (.int c) = xv ∧ h0 = h ∧ C8 c
set_option maxRecDepth 65536 in
set_option maxHeartbeats 40000000 in
theorem c_at6_5 (l : Launch) {Z : State} {a0 : Array Value} (G : GH Z a0) (a : Addr) (q : Int32) (u : Int32) (c0 : Int32) (c1 : Int32) (c2 : Int32) (c3 : Int32) (c4 : Int32) (c5 : Int32) (h0 : Heap) (O0 : Old Z Z.heap.size h0) (p1 : C8 u) (p2 : Str Z h0 a [c0, c1, c2, c3, c4, c5]) : Con false [] l Z (⟨"com/example/ispol/ispol/walls/TransparencyOfPinLaw", "at", "(Ljava/lang/String;IIC)C"⟩ : MethodName) method_6_code 4 (some .char) [] ({ frames := 4, cells := 0, slots := 0, locals := 53 } : Room) #[(.ref a), (.int (5 : Int32)), (.int q), (.int u)] h0 [] (rvl (Q_at6_5 Z a q u c0 c1 c2 c3 c4 c5 h0)) := by
  refine con_of (a0 := a0) (plainFor_of_name pn4) (fun q => rfl) EW.nil O0 (fun m => ef_at6_5 m a q u) ?_
  intro p_ e_ s_ m_ below_ meth_ c_ hby hml hret hlk hnm
  refine go_iload_n (pc' := 1) (hb hby d13_0) rfl rfl ?_
  refine go_iload_n (pc' := 2) (hb hby d13_1) rfl rfl ?_
  by_cases cz1 : (5 : Int32) = q
  · refine go_icF (pc' := 5) (hb hby d13_2) rfl (XT.ii_ne_f cz1) ?_
    refine go_iload_n (pc' := 6) (hb hby d13_5) rfl rfl ?_
    refine go_ireturn hret hlk (nar_c8 p1) (by simp) (hb hby d13_6) (by decide) (by decide) ⟨_, rfl, ⟨u, rfl, rfl, p1⟩⟩ (Keep.refl h0 [])
  · refine go_icT (pc' := 7) (hb hby d13_2) (by decide) rfl (XT.ii_ne_t cz1) ?_
    refine go_iload_n (pc' := 8) (hb hby d13_7) rfl rfl ?_
    refine go_aload_n (pc' := 9) (hb hby d13_8) rfl rfl rfl ?_
    refine callV0 (cells' := 0) (slots' := 0) (Wd := 1) (argsL := []) (rest := [(.int (5 : Int32))]) (pay_len G O0 (n := (6 : Int32)) p2 rfl (by decide) (by decide)) p2.exa (wk G 13 rfl) (wk G 14 rfl) (wk G 16 rfl) (wk G 16 rfl) (wk G 15 rfl) (by decide) pd7 rfl rfl (by rw [hml]; rfl) (Nat.le_of_ble_eq_true rfl) rfl rfl (by decide) (by decide) all0 (fun _ _ => sf0) (hb hby d13_9) (k_v (pc' := 12) rfl ?_)
    rintro _ _ ⟨rfl, rfl⟩ -
    refine go_icF (pc' := 15) (hb hby d13_12) rfl (by decide) ?_
    refine go_aload_n (pc' := 16) (hb hby d13_15) rfl rfl rfl ?_
    refine go_iload_n (pc' := 17) (hb hby d13_16) rfl rfl ?_
    have q2 : C8 c5 := by obtain ⟨_, _, _, _, _, _, q, _⟩ := id p2; exact q _ (by simp)
    refine callV0 (cells' := 0) (slots' := 0) (Wd := 0) (argsL := [(.int (5 : Int32))]) (rest := []) (pay_chr G O0 (i := 5) (c := c5) p2 rfl (Nat.le_of_ble_eq_true rfl) rfl (by decide) (by decide)) p2.exa (wk G 90 rfl) (wk G 91 rfl) (wk G 93 rfl) (wk G 93 rfl) (wk G 92 rfl) (by decide) pd8 rfl rfl (by rw [hml]; rfl) (Nat.le_of_ble_eq_true rfl) rfl rfl (by decide) (by decide) all0 (fun _ _ => sf0) (hb hby d13_17) (k_v (pc' := 20) rfl ?_)
    rintro _ _ ⟨rfl, rfl⟩ -
    refine go_ireturn hret hlk (nar_c8 q2) (by simp) (hb hby d13_20) (by decide) (by decide) ⟨_, rfl, ⟨c5, rfl, rfl, q2⟩⟩ (Keep.refl h0 [])
theorem ef_at6_6 (m : MethodId) (a : Addr) (q : Int32) (u : Int32)  : entryFrame m #[(.ref a), (.int (6 : Int32)), (.int q), (.int u)] 4 = mkF m 0 #[.val (.ref a), .val (.int (6 : Int32)), .val (.int q), .val (.int u)] [] := by first | (simp [entryFrame, mkF, argsToLocals, Value.category]; done) | rfl
def Q_at6_6 (Z : State) (a : Addr) (q : Int32) (u : Int32) (c0 : Int32) (c1 : Int32) (c2 : Int32) (c3 : Int32) (c4 : Int32) (c5 : Int32) (h0 : Heap) (xv : Value) (h : Heap) : Prop := ∃ (c : Int32), (.int c) = xv ∧ h0 = h ∧ C8 c
set_option maxRecDepth 65536 in
set_option maxHeartbeats 40000000 in
theorem c_at6_6 (l : Launch) {Z : State} {a0 : Array Value} (G : GH Z a0) (a : Addr) (q : Int32) (u : Int32) (c0 : Int32) (c1 : Int32) (c2 : Int32) (c3 : Int32) (c4 : Int32) (c5 : Int32) (h0 : Heap) (O0 : Old Z Z.heap.size h0) (p1 : C8 u) (p2 : Str Z h0 a [c0, c1, c2, c3, c4, c5]) : Con false [] l Z (⟨"com/example/ispol/ispol/walls/TransparencyOfPinLaw", "at", "(Ljava/lang/String;IIC)C"⟩ : MethodName) method_6_code 4 (some .char) [] ({ frames := 2, cells := 0, slots := 0, locals := 26 } : Room) #[(.ref a), (.int (6 : Int32)), (.int q), (.int u)] h0 [] (rvl (Q_at6_6 Z a q u c0 c1 c2 c3 c4 c5 h0)) := by
  refine con_of (a0 := a0) (plainFor_of_name pn4) (fun q => rfl) EW.nil O0 (fun m => ef_at6_6 m a q u) ?_
  intro p_ e_ s_ m_ below_ meth_ c_ hby hml hret hlk hnm
  refine go_iload_n (pc' := 1) (hb hby d13_0) rfl rfl ?_
  refine go_iload_n (pc' := 2) (hb hby d13_1) rfl rfl ?_
  by_cases cz1 : (6 : Int32) = q
  · refine go_icF (pc' := 5) (hb hby d13_2) rfl (XT.ii_ne_f cz1) ?_
    refine go_iload_n (pc' := 6) (hb hby d13_5) rfl rfl ?_
    refine go_ireturn hret hlk (nar_c8 p1) (by simp) (hb hby d13_6) (by decide) (by decide) ⟨_, rfl, ⟨u, rfl, rfl, p1⟩⟩ (Keep.refl h0 [])
  · refine go_icT (pc' := 7) (hb hby d13_2) (by decide) rfl (XT.ii_ne_t cz1) ?_
    refine go_iload_n (pc' := 8) (hb hby d13_7) rfl rfl ?_
    refine go_aload_n (pc' := 9) (hb hby d13_8) rfl rfl rfl ?_
    refine callV0 (cells' := 0) (slots' := 0) (Wd := 1) (argsL := []) (rest := [(.int (6 : Int32))]) (pay_len G O0 (n := (6 : Int32)) p2 rfl (by decide) (by decide)) p2.exa (wk G 13 rfl) (wk G 14 rfl) (wk G 16 rfl) (wk G 16 rfl) (wk G 15 rfl) (by decide) pd7 rfl rfl (by rw [hml]; rfl) (Nat.le_of_ble_eq_true rfl) rfl rfl (by decide) (by decide) all0 (fun _ _ => sf0) (hb hby d13_9) (k_v (pc' := 12) rfl ?_)
    rintro _ _ ⟨rfl, rfl⟩ -
    refine go_icT (pc' := 21) (hb hby d13_12) (by decide) rfl (by decide) ?_
    refine go_iload_n (pc' := 22) (hb hby d13_21) rfl rfl ?_
    refine go_ireturn hret hlk (nar_c8 p1) (by simp) (hb hby d13_22) (by decide) (by decide) ⟨_, rfl, ⟨u, rfl, rfl, p1⟩⟩ (Keep.refl h0 [])
theorem ef_at6_7 (m : MethodId) (a : Addr) (q : Int32) (u : Int32)  : entryFrame m #[(.ref a), (.int (7 : Int32)), (.int q), (.int u)] 4 = mkF m 0 #[.val (.ref a), .val (.int (7 : Int32)), .val (.int q), .val (.int u)] [] := by first | (simp [entryFrame, mkF, argsToLocals, Value.category]; done) | rfl
def Q_at6_7 (Z : State) (a : Addr) (q : Int32) (u : Int32) (c0 : Int32) (c1 : Int32) (c2 : Int32) (c3 : Int32) (c4 : Int32) (c5 : Int32) (h0 : Heap) (xv : Value) (h : Heap) : Prop := ∃ (c : Int32), (.int c) = xv ∧ h0 = h ∧ C8 c
set_option maxRecDepth 65536 in
set_option maxHeartbeats 40000000 in
theorem c_at6_7 (l : Launch) {Z : State} {a0 : Array Value} (G : GH Z a0) (a : Addr) (q : Int32) (u : Int32) (c0 : Int32) (c1 : Int32) (c2 : Int32) (c3 : Int32) (c4 : Int32) (c5 : Int32) (h0 : Heap) (O0 : Old Z Z.heap.size h0) (p1 : C8 u) (p2 : Str Z h0 a [c0, c1, c2, c3, c4, c5]) : Con false [] l Z (⟨"com/example/ispol/ispol/walls/TransparencyOfPinLaw", "at", "(Ljava/lang/String;IIC)C"⟩ : MethodName) method_6_code 4 (some .char) [] ({ frames := 2, cells := 0, slots := 0, locals := 26 } : Room) #[(.ref a), (.int (7 : Int32)), (.int q), (.int u)] h0 [] (rvl (Q_at6_7 Z a q u c0 c1 c2 c3 c4 c5 h0)) := by
  refine con_of (a0 := a0) (plainFor_of_name pn4) (fun q => rfl) EW.nil O0 (fun m => ef_at6_7 m a q u) ?_
  intro p_ e_ s_ m_ below_ meth_ c_ hby hml hret hlk hnm
  refine go_iload_n (pc' := 1) (hb hby d13_0) rfl rfl ?_
  refine go_iload_n (pc' := 2) (hb hby d13_1) rfl rfl ?_
  by_cases cz1 : (7 : Int32) = q
  · refine go_icF (pc' := 5) (hb hby d13_2) rfl (XT.ii_ne_f cz1) ?_
    refine go_iload_n (pc' := 6) (hb hby d13_5) rfl rfl ?_
    refine go_ireturn hret hlk (nar_c8 p1) (by simp) (hb hby d13_6) (by decide) (by decide) ⟨_, rfl, ⟨u, rfl, rfl, p1⟩⟩ (Keep.refl h0 [])
  · refine go_icT (pc' := 7) (hb hby d13_2) (by decide) rfl (XT.ii_ne_t cz1) ?_
    refine go_iload_n (pc' := 8) (hb hby d13_7) rfl rfl ?_
    refine go_aload_n (pc' := 9) (hb hby d13_8) rfl rfl rfl ?_
    refine callV0 (cells' := 0) (slots' := 0) (Wd := 1) (argsL := []) (rest := [(.int (7 : Int32))]) (pay_len G O0 (n := (6 : Int32)) p2 rfl (by decide) (by decide)) p2.exa (wk G 13 rfl) (wk G 14 rfl) (wk G 16 rfl) (wk G 16 rfl) (wk G 15 rfl) (by decide) pd7 rfl rfl (by rw [hml]; rfl) (Nat.le_of_ble_eq_true rfl) rfl rfl (by decide) (by decide) all0 (fun _ _ => sf0) (hb hby d13_9) (k_v (pc' := 12) rfl ?_)
    rintro _ _ ⟨rfl, rfl⟩ -
    refine go_icT (pc' := 21) (hb hby d13_12) (by decide) rfl (by decide) ?_
    refine go_iload_n (pc' := 22) (hb hby d13_21) rfl rfl ?_
    refine go_ireturn hret hlk (nar_c8 p1) (by simp) (hb hby d13_22) (by decide) (by decide) ⟨_, rfl, ⟨u, rfl, rfl, p1⟩⟩ (Keep.refl h0 [])
theorem ef_at6_8 (m : MethodId) (a : Addr) (q : Int32) (u : Int32)  : entryFrame m #[(.ref a), (.int (8 : Int32)), (.int q), (.int u)] 4 = mkF m 0 #[.val (.ref a), .val (.int (8 : Int32)), .val (.int q), .val (.int u)] [] := by first | (simp [entryFrame, mkF, argsToLocals, Value.category]; done) | rfl
def Q_at6_8 (Z : State) (a : Addr) (q : Int32) (u : Int32) (c0 : Int32) (c1 : Int32) (c2 : Int32) (c3 : Int32) (c4 : Int32) (c5 : Int32) (h0 : Heap) (xv : Value) (h : Heap) : Prop := ∃ (c : Int32), (.int c) = xv ∧ h0 = h ∧ C8 c
set_option maxRecDepth 65536 in
set_option maxHeartbeats 40000000 in
theorem c_at6_8 (l : Launch) {Z : State} {a0 : Array Value} (G : GH Z a0) (a : Addr) (q : Int32) (u : Int32) (c0 : Int32) (c1 : Int32) (c2 : Int32) (c3 : Int32) (c4 : Int32) (c5 : Int32) (h0 : Heap) (O0 : Old Z Z.heap.size h0) (p1 : C8 u) (p2 : Str Z h0 a [c0, c1, c2, c3, c4, c5]) : Con false [] l Z (⟨"com/example/ispol/ispol/walls/TransparencyOfPinLaw", "at", "(Ljava/lang/String;IIC)C"⟩ : MethodName) method_6_code 4 (some .char) [] ({ frames := 2, cells := 0, slots := 0, locals := 26 } : Room) #[(.ref a), (.int (8 : Int32)), (.int q), (.int u)] h0 [] (rvl (Q_at6_8 Z a q u c0 c1 c2 c3 c4 c5 h0)) := by
  refine con_of (a0 := a0) (plainFor_of_name pn4) (fun q => rfl) EW.nil O0 (fun m => ef_at6_8 m a q u) ?_
  intro p_ e_ s_ m_ below_ meth_ c_ hby hml hret hlk hnm
  refine go_iload_n (pc' := 1) (hb hby d13_0) rfl rfl ?_
  refine go_iload_n (pc' := 2) (hb hby d13_1) rfl rfl ?_
  by_cases cz1 : (8 : Int32) = q
  · refine go_icF (pc' := 5) (hb hby d13_2) rfl (XT.ii_ne_f cz1) ?_
    refine go_iload_n (pc' := 6) (hb hby d13_5) rfl rfl ?_
    refine go_ireturn hret hlk (nar_c8 p1) (by simp) (hb hby d13_6) (by decide) (by decide) ⟨_, rfl, ⟨u, rfl, rfl, p1⟩⟩ (Keep.refl h0 [])
  · refine go_icT (pc' := 7) (hb hby d13_2) (by decide) rfl (XT.ii_ne_t cz1) ?_
    refine go_iload_n (pc' := 8) (hb hby d13_7) rfl rfl ?_
    refine go_aload_n (pc' := 9) (hb hby d13_8) rfl rfl rfl ?_
    refine callV0 (cells' := 0) (slots' := 0) (Wd := 1) (argsL := []) (rest := [(.int (8 : Int32))]) (pay_len G O0 (n := (6 : Int32)) p2 rfl (by decide) (by decide)) p2.exa (wk G 13 rfl) (wk G 14 rfl) (wk G 16 rfl) (wk G 16 rfl) (wk G 15 rfl) (by decide) pd7 rfl rfl (by rw [hml]; rfl) (Nat.le_of_ble_eq_true rfl) rfl rfl (by decide) (by decide) all0 (fun _ _ => sf0) (hb hby d13_9) (k_v (pc' := 12) rfl ?_)
    rintro _ _ ⟨rfl, rfl⟩ -
    refine go_icT (pc' := 21) (hb hby d13_12) (by decide) rfl (by decide) ?_
    refine go_iload_n (pc' := 22) (hb hby d13_21) rfl rfl ?_
    refine go_ireturn hret hlk (nar_c8 p1) (by simp) (hb hby d13_22) (by decide) (by decide) ⟨_, rfl, ⟨u, rfl, rfl, p1⟩⟩ (Keep.refl h0 [])
theorem ef_at6_9 (m : MethodId) (a : Addr) (q : Int32) (u : Int32)  : entryFrame m #[(.ref a), (.int (9 : Int32)), (.int q), (.int u)] 4 = mkF m 0 #[.val (.ref a), .val (.int (9 : Int32)), .val (.int q), .val (.int u)] [] := by first | (simp [entryFrame, mkF, argsToLocals, Value.category]; done) | rfl
def Q_at6_9 (Z : State) (a : Addr) (q : Int32) (u : Int32) (c0 : Int32) (c1 : Int32) (c2 : Int32) (c3 : Int32) (c4 : Int32) (c5 : Int32) (h0 : Heap) (xv : Value) (h : Heap) : Prop := ∃ (c : Int32), (.int c) = xv ∧ h0 = h ∧ C8 c
set_option maxRecDepth 65536 in
set_option maxHeartbeats 40000000 in
theorem c_at6_9 (l : Launch) {Z : State} {a0 : Array Value} (G : GH Z a0) (a : Addr) (q : Int32) (u : Int32) (c0 : Int32) (c1 : Int32) (c2 : Int32) (c3 : Int32) (c4 : Int32) (c5 : Int32) (h0 : Heap) (O0 : Old Z Z.heap.size h0) (p1 : C8 u) (p2 : Str Z h0 a [c0, c1, c2, c3, c4, c5]) : Con false [] l Z (⟨"com/example/ispol/ispol/walls/TransparencyOfPinLaw", "at", "(Ljava/lang/String;IIC)C"⟩ : MethodName) method_6_code 4 (some .char) [] ({ frames := 2, cells := 0, slots := 0, locals := 26 } : Room) #[(.ref a), (.int (9 : Int32)), (.int q), (.int u)] h0 [] (rvl (Q_at6_9 Z a q u c0 c1 c2 c3 c4 c5 h0)) := by
  refine con_of (a0 := a0) (plainFor_of_name pn4) (fun q => rfl) EW.nil O0 (fun m => ef_at6_9 m a q u) ?_
  intro p_ e_ s_ m_ below_ meth_ c_ hby hml hret hlk hnm
  refine go_iload_n (pc' := 1) (hb hby d13_0) rfl rfl ?_
  refine go_iload_n (pc' := 2) (hb hby d13_1) rfl rfl ?_
  by_cases cz1 : (9 : Int32) = q
  · refine go_icF (pc' := 5) (hb hby d13_2) rfl (XT.ii_ne_f cz1) ?_
    refine go_iload_n (pc' := 6) (hb hby d13_5) rfl rfl ?_
    refine go_ireturn hret hlk (nar_c8 p1) (by simp) (hb hby d13_6) (by decide) (by decide) ⟨_, rfl, ⟨u, rfl, rfl, p1⟩⟩ (Keep.refl h0 [])
  · refine go_icT (pc' := 7) (hb hby d13_2) (by decide) rfl (XT.ii_ne_t cz1) ?_
    refine go_iload_n (pc' := 8) (hb hby d13_7) rfl rfl ?_
    refine go_aload_n (pc' := 9) (hb hby d13_8) rfl rfl rfl ?_
    refine callV0 (cells' := 0) (slots' := 0) (Wd := 1) (argsL := []) (rest := [(.int (9 : Int32))]) (pay_len G O0 (n := (6 : Int32)) p2 rfl (by decide) (by decide)) p2.exa (wk G 13 rfl) (wk G 14 rfl) (wk G 16 rfl) (wk G 16 rfl) (wk G 15 rfl) (by decide) pd7 rfl rfl (by rw [hml]; rfl) (Nat.le_of_ble_eq_true rfl) rfl rfl (by decide) (by decide) all0 (fun _ _ => sf0) (hb hby d13_9) (k_v (pc' := 12) rfl ?_)
    rintro _ _ ⟨rfl, rfl⟩ -
    refine go_icT (pc' := 21) (hb hby d13_12) (by decide) rfl (by decide) ?_
    refine go_iload_n (pc' := 22) (hb hby d13_21) rfl rfl ?_
    refine go_ireturn hret hlk (nar_c8 p1) (by simp) (hb hby d13_22) (by decide) (by decide) ⟨_, rfl, ⟨u, rfl, rfl, p1⟩⟩ (Keep.refl h0 [])
theorem ef_at6_10 (m : MethodId) (a : Addr) (q : Int32) (u : Int32)  : entryFrame m #[(.ref a), (.int (10 : Int32)), (.int q), (.int u)] 4 = mkF m 0 #[.val (.ref a), .val (.int (10 : Int32)), .val (.int q), .val (.int u)] [] := by first | (simp [entryFrame, mkF, argsToLocals, Value.category]; done) | rfl
def Q_at6_10 (Z : State) (a : Addr) (q : Int32) (u : Int32) (c0 : Int32) (c1 : Int32) (c2 : Int32) (c3 : Int32) (c4 : Int32) (c5 : Int32) (h0 : Heap) (xv : Value) (h : Heap) : Prop := ∃ (c : Int32), (.int c) = xv ∧ h0 = h ∧ C8 c
set_option maxRecDepth 65536 in
set_option maxHeartbeats 40000000 in
theorem c_at6_10 (l : Launch) {Z : State} {a0 : Array Value} (G : GH Z a0) (a : Addr) (q : Int32) (u : Int32) (c0 : Int32) (c1 : Int32) (c2 : Int32) (c3 : Int32) (c4 : Int32) (c5 : Int32) (h0 : Heap) (O0 : Old Z Z.heap.size h0) (p1 : C8 u) (p2 : Str Z h0 a [c0, c1, c2, c3, c4, c5]) : Con false [] l Z (⟨"com/example/ispol/ispol/walls/TransparencyOfPinLaw", "at", "(Ljava/lang/String;IIC)C"⟩ : MethodName) method_6_code 4 (some .char) [] ({ frames := 2, cells := 0, slots := 0, locals := 26 } : Room) #[(.ref a), (.int (10 : Int32)), (.int q), (.int u)] h0 [] (rvl (Q_at6_10 Z a q u c0 c1 c2 c3 c4 c5 h0)) := by
  refine con_of (a0 := a0) (plainFor_of_name pn4) (fun q => rfl) EW.nil O0 (fun m => ef_at6_10 m a q u) ?_
  intro p_ e_ s_ m_ below_ meth_ c_ hby hml hret hlk hnm
  refine go_iload_n (pc' := 1) (hb hby d13_0) rfl rfl ?_
  refine go_iload_n (pc' := 2) (hb hby d13_1) rfl rfl ?_
  by_cases cz1 : (10 : Int32) = q
  · refine go_icF (pc' := 5) (hb hby d13_2) rfl (XT.ii_ne_f cz1) ?_
    refine go_iload_n (pc' := 6) (hb hby d13_5) rfl rfl ?_
    refine go_ireturn hret hlk (nar_c8 p1) (by simp) (hb hby d13_6) (by decide) (by decide) ⟨_, rfl, ⟨u, rfl, rfl, p1⟩⟩ (Keep.refl h0 [])
  · refine go_icT (pc' := 7) (hb hby d13_2) (by decide) rfl (XT.ii_ne_t cz1) ?_
    refine go_iload_n (pc' := 8) (hb hby d13_7) rfl rfl ?_
    refine go_aload_n (pc' := 9) (hb hby d13_8) rfl rfl rfl ?_
    refine callV0 (cells' := 0) (slots' := 0) (Wd := 1) (argsL := []) (rest := [(.int (10 : Int32))]) (pay_len G O0 (n := (6 : Int32)) p2 rfl (by decide) (by decide)) p2.exa (wk G 13 rfl) (wk G 14 rfl) (wk G 16 rfl) (wk G 16 rfl) (wk G 15 rfl) (by decide) pd7 rfl rfl (by rw [hml]; rfl) (Nat.le_of_ble_eq_true rfl) rfl rfl (by decide) (by decide) all0 (fun _ _ => sf0) (hb hby d13_9) (k_v (pc' := 12) rfl ?_)
    rintro _ _ ⟨rfl, rfl⟩ -
    refine go_icT (pc' := 21) (hb hby d13_12) (by decide) rfl (by decide) ?_
    refine go_iload_n (pc' := 22) (hb hby d13_21) rfl rfl ?_
    refine go_ireturn hret hlk (nar_c8 p1) (by simp) (hb hby d13_22) (by decide) (by decide) ⟨_, rfl, ⟨u, rfl, rfl, p1⟩⟩ (Keep.refl h0 [])
theorem ef_at6_11 (m : MethodId) (a : Addr) (q : Int32) (u : Int32)  : entryFrame m #[(.ref a), (.int (11 : Int32)), (.int q), (.int u)] 4 = mkF m 0 #[.val (.ref a), .val (.int (11 : Int32)), .val (.int q), .val (.int u)] [] := by first | (simp [entryFrame, mkF, argsToLocals, Value.category]; done) | rfl
def Q_at6_11 (Z : State) (a : Addr) (q : Int32) (u : Int32) (c0 : Int32) (c1 : Int32) (c2 : Int32) (c3 : Int32) (c4 : Int32) (c5 : Int32) (h0 : Heap) (xv : Value) (h : Heap) : Prop := ∃ (c : Int32), (.int c) = xv ∧ h0 = h ∧ C8 c
set_option maxRecDepth 65536 in
set_option maxHeartbeats 40000000 in
theorem c_at6_11 (l : Launch) {Z : State} {a0 : Array Value} (G : GH Z a0) (a : Addr) (q : Int32) (u : Int32) (c0 : Int32) (c1 : Int32) (c2 : Int32) (c3 : Int32) (c4 : Int32) (c5 : Int32) (h0 : Heap) (O0 : Old Z Z.heap.size h0) (p1 : C8 u) (p2 : Str Z h0 a [c0, c1, c2, c3, c4, c5]) : Con false [] l Z (⟨"com/example/ispol/ispol/walls/TransparencyOfPinLaw", "at", "(Ljava/lang/String;IIC)C"⟩ : MethodName) method_6_code 4 (some .char) [] ({ frames := 2, cells := 0, slots := 0, locals := 26 } : Room) #[(.ref a), (.int (11 : Int32)), (.int q), (.int u)] h0 [] (rvl (Q_at6_11 Z a q u c0 c1 c2 c3 c4 c5 h0)) := by
  refine con_of (a0 := a0) (plainFor_of_name pn4) (fun q => rfl) EW.nil O0 (fun m => ef_at6_11 m a q u) ?_
  intro p_ e_ s_ m_ below_ meth_ c_ hby hml hret hlk hnm
  refine go_iload_n (pc' := 1) (hb hby d13_0) rfl rfl ?_
  refine go_iload_n (pc' := 2) (hb hby d13_1) rfl rfl ?_
  by_cases cz1 : (11 : Int32) = q
  · refine go_icF (pc' := 5) (hb hby d13_2) rfl (XT.ii_ne_f cz1) ?_
    refine go_iload_n (pc' := 6) (hb hby d13_5) rfl rfl ?_
    refine go_ireturn hret hlk (nar_c8 p1) (by simp) (hb hby d13_6) (by decide) (by decide) ⟨_, rfl, ⟨u, rfl, rfl, p1⟩⟩ (Keep.refl h0 [])
  · refine go_icT (pc' := 7) (hb hby d13_2) (by decide) rfl (XT.ii_ne_t cz1) ?_
    refine go_iload_n (pc' := 8) (hb hby d13_7) rfl rfl ?_
    refine go_aload_n (pc' := 9) (hb hby d13_8) rfl rfl rfl ?_
    refine callV0 (cells' := 0) (slots' := 0) (Wd := 1) (argsL := []) (rest := [(.int (11 : Int32))]) (pay_len G O0 (n := (6 : Int32)) p2 rfl (by decide) (by decide)) p2.exa (wk G 13 rfl) (wk G 14 rfl) (wk G 16 rfl) (wk G 16 rfl) (wk G 15 rfl) (by decide) pd7 rfl rfl (by rw [hml]; rfl) (Nat.le_of_ble_eq_true rfl) rfl rfl (by decide) (by decide) all0 (fun _ _ => sf0) (hb hby d13_9) (k_v (pc' := 12) rfl ?_)
    rintro _ _ ⟨rfl, rfl⟩ -
    refine go_icT (pc' := 21) (hb hby d13_12) (by decide) rfl (by decide) ?_
    refine go_iload_n (pc' := 22) (hb hby d13_21) rfl rfl ?_
    refine go_ireturn hret hlk (nar_c8 p1) (by simp) (hb hby d13_22) (by decide) (by decide) ⟨_, rfl, ⟨u, rfl, rfl, p1⟩⟩ (Keep.refl h0 [])
theorem ef_edit11_10 (m : MethodId) (a : Addr) (q : Int32) (u : Int32)  : entryFrame m #[(.ref a), (.int (10 : Int32)), (.int q), (.int u)] 16 = mkF m 0 #[.val (.ref a), .val (.int (10 : Int32)), .val (.int q), .val (.int u), .unset, .unset, .unset, .unset, .unset, .unset, .unset, .unset, .unset, .unset, .unset, .unset] [] := by first | (simp [entryFrame, mkF, argsToLocals, Value.category]; done) | rfl
def Q_edit11_10 (Z : State) (a : Addr) (q : Int32) (u : Int32) (c0 : Int32) (c1 : Int32) (c2 : Int32) (c3 : Int32) (c4 : Int32) (c5 : Int32) (c6 : Int32) (c7 : Int32) (c8 : Int32) (c9 : Int32) (c10 : Int32) (h0 : Heap) (xv : Value) (h : Heap) : Prop := ∃ (r : Addr) (ds : List Int32), (.ref r) = xv ∧ h0.size ≤ r ∧ Str Z h r ds
set_option maxRecDepth 65536 in
set_option maxHeartbeats 40000000 in
theorem c_edit11_10 (l : Launch) {Z : State} {a0 : Array Value} (G : GH Z a0) (a : Addr) (q : Int32) (u : Int32) (c0 : Int32) (c1 : Int32) (c2 : Int32) (c3 : Int32) (c4 : Int32) (c5 : Int32) (c6 : Int32) (c7 : Int32) (c8 : Int32) (c9 : Int32) (c10 : Int32) (h0 : Heap) (O0 : Old Z Z.heap.size h0) (p1 : C8 u) (p2 : Str Z h0 a [c0, c1, c2, c3, c4, c5, c6, c7, c8, c9, c10]) : Con false [] l Z (⟨"com/example/ispol/ispol/walls/TransparencyOfPinLaw", "edit", "(Ljava/lang/String;IIC)Ljava/lang/String;"⟩ : MethodName) method_7_code 16 (some (.object "java/lang/String")) [] ({ frames := 5, cells := 3, slots := 24, locals := 68 } : Room) #[(.ref a), (.int (10 : Int32)), (.int q), (.int u)] h0 [] (rvl (Q_edit11_10 Z a q u c0 c1 c2 c3 c4 c5 c6 c7 c8 c9 c10 h0)) := by
  refine con_of (a0 := a0) (plainFor_of_name pn4) (fun q => rfl) EW.nil O0 (fun m => ef_edit11_10 m a q u) ?_
  intro p_ e_ s_ m_ below_ meth_ c_ hby hml hret hlk hnm
  refine go_aload_n (pc' := 1) (hb hby d14_0) rfl rfl rfl ?_
  refine go_iconst (pc' := 2) (v := 0) (hb hby d14_1) rfl rfl ?_
  refine go_iload_n (pc' := 3) (hb hby d14_2) rfl rfl ?_
  refine go_iload_n (pc' := 4) (hb hby d14_3) rfl rfl ?_
  refine callS0 (cells' := 0) (slots' := 0) (Wd := 0) (argsL := [(.ref a), (.int (0 : Int32)), (.int q), (.int u)]) (rest := []) (pay_of (a0 := a0) (c_at11_0 l G a q u c0 c1 c2 c3 c4 c5 c6 c7 c8 c9 c10 h0 O0 p1 p2) (wk G 89 rfl) (wk G 3 rfl) (by decide) (by decide)) (wk G 87 rfl) (wk G 88 rfl) (wk G 3 rfl) (wk G 89 rfl) (by decide) pd9 rfl rfl (by rw [hml]; rfl) (Nat.le_of_ble_eq_true rfl) rfl rfl (by decide) (by decide) all0 (fun _ _ => sf0) (hb hby d14_4) (k_v (pc' := 7) rfl ?_)
  rintro _ h1 ⟨r3, rfl, rfl, f4⟩ K2
  refine go_istore (pc' := 9) (ls' := #[.val (.ref a), .val (.int (10 : Int32)), .val (.int q), .val (.int u), .val (.int r3), .unset, .unset, .unset, .unset, .unset, .unset, .unset, .unset, .unset, .unset, .unset]) (hb hby d14_7) rfl rfl ?_
  refine go_aload_n (pc' := 10) (hb hby d14_9) rfl rfl rfl ?_
  refine go_iconst (pc' := 11) (v := 1) (hb hby d14_10) rfl rfl ?_
  refine go_iload_n (pc' := 12) (hb hby d14_11) rfl rfl ?_
  refine go_iload_n (pc' := 13) (hb hby d14_12) rfl rfl ?_
  refine callS0 (cells' := 0) (slots' := 0) (Wd := 0) (argsL := [(.ref a), (.int (1 : Int32)), (.int q), (.int u)]) (rest := []) (pay_of (a0 := a0) (c_at11_1 l G a q u c0 c1 c2 c3 c4 c5 c6 c7 c8 c9 c10 h0 O0 p1 p2) (wk G 89 rfl) (wk G 3 rfl) (by decide) (by decide)) (wk G 87 rfl) (wk G 88 rfl) (wk G 3 rfl) (wk G 89 rfl) (by decide) pd9 rfl rfl (by rw [hml]; rfl) (Nat.le_of_ble_eq_true rfl) rfl rfl (by decide) (by decide) all0 (fun _ _ => sf0) (hb hby d14_13) (k_v (pc' := 16) rfl ?_)
  rintro _ h5 ⟨r7, rfl, rfl, f8⟩ K6
  refine go_istore (pc' := 18) (ls' := #[.val (.ref a), .val (.int (10 : Int32)), .val (.int q), .val (.int u), .val (.int r3), .val (.int r7), .unset, .unset, .unset, .unset, .unset, .unset, .unset, .unset, .unset, .unset]) (hb hby d14_16) rfl rfl ?_
  refine go_aload_n (pc' := 19) (hb hby d14_18) rfl rfl rfl ?_
  refine go_iconst (pc' := 20) (v := 2) (hb hby d14_19) rfl rfl ?_
  refine go_iload_n (pc' := 21) (hb hby d14_20) rfl rfl ?_
  refine go_iload_n (pc' := 22) (hb hby d14_21) rfl rfl ?_
  refine callS0 (cells' := 0) (slots' := 0) (Wd := 0) (argsL := [(.ref a), (.int (2 : Int32)), (.int q), (.int u)]) (rest := []) (pay_of (a0 := a0) (c_at11_2 l G a q u c0 c1 c2 c3 c4 c5 c6 c7 c8 c9 c10 h0 O0 p1 p2) (wk G 89 rfl) (wk G 3 rfl) (by decide) (by decide)) (wk G 87 rfl) (wk G 88 rfl) (wk G 3 rfl) (wk G 89 rfl) (by decide) pd9 rfl rfl (by rw [hml]; rfl) (Nat.le_of_ble_eq_true rfl) rfl rfl (by decide) (by decide) all0 (fun _ _ => sf0) (hb hby d14_22) (k_v (pc' := 25) rfl ?_)
  rintro _ h9 ⟨r11, rfl, rfl, f12⟩ K10
  refine go_istore (pc' := 27) (ls' := #[.val (.ref a), .val (.int (10 : Int32)), .val (.int q), .val (.int u), .val (.int r3), .val (.int r7), .val (.int r11), .unset, .unset, .unset, .unset, .unset, .unset, .unset, .unset, .unset]) (hb hby d14_25) rfl rfl ?_
  refine go_aload_n (pc' := 28) (hb hby d14_27) rfl rfl rfl ?_
  refine go_iconst (pc' := 29) (v := 3) (hb hby d14_28) rfl rfl ?_
  refine go_iload_n (pc' := 30) (hb hby d14_29) rfl rfl ?_
  refine go_iload_n (pc' := 31) (hb hby d14_30) rfl rfl ?_
  refine callS0 (cells' := 0) (slots' := 0) (Wd := 0) (argsL := [(.ref a), (.int (3 : Int32)), (.int q), (.int u)]) (rest := []) (pay_of (a0 := a0) (c_at11_3 l G a q u c0 c1 c2 c3 c4 c5 c6 c7 c8 c9 c10 h0 O0 p1 p2) (wk G 89 rfl) (wk G 3 rfl) (by decide) (by decide)) (wk G 87 rfl) (wk G 88 rfl) (wk G 3 rfl) (wk G 89 rfl) (by decide) pd9 rfl rfl (by rw [hml]; rfl) (Nat.le_of_ble_eq_true rfl) rfl rfl (by decide) (by decide) all0 (fun _ _ => sf0) (hb hby d14_31) (k_v (pc' := 34) rfl ?_)
  rintro _ h13 ⟨r15, rfl, rfl, f16⟩ K14
  refine go_istore (pc' := 36) (ls' := #[.val (.ref a), .val (.int (10 : Int32)), .val (.int q), .val (.int u), .val (.int r3), .val (.int r7), .val (.int r11), .val (.int r15), .unset, .unset, .unset, .unset, .unset, .unset, .unset, .unset]) (hb hby d14_34) rfl rfl ?_
  refine go_aload_n (pc' := 37) (hb hby d14_36) rfl rfl rfl ?_
  refine go_iconst (pc' := 38) (v := 4) (hb hby d14_37) rfl rfl ?_
  refine go_iload_n (pc' := 39) (hb hby d14_38) rfl rfl ?_
  refine go_iload_n (pc' := 40) (hb hby d14_39) rfl rfl ?_
  refine callS0 (cells' := 0) (slots' := 0) (Wd := 0) (argsL := [(.ref a), (.int (4 : Int32)), (.int q), (.int u)]) (rest := []) (pay_of (a0 := a0) (c_at11_4 l G a q u c0 c1 c2 c3 c4 c5 c6 c7 c8 c9 c10 h0 O0 p1 p2) (wk G 89 rfl) (wk G 3 rfl) (by decide) (by decide)) (wk G 87 rfl) (wk G 88 rfl) (wk G 3 rfl) (wk G 89 rfl) (by decide) pd9 rfl rfl (by rw [hml]; rfl) (Nat.le_of_ble_eq_true rfl) rfl rfl (by decide) (by decide) all0 (fun _ _ => sf0) (hb hby d14_40) (k_v (pc' := 43) rfl ?_)
  rintro _ h17 ⟨r19, rfl, rfl, f20⟩ K18
  refine go_istore (pc' := 45) (ls' := #[.val (.ref a), .val (.int (10 : Int32)), .val (.int q), .val (.int u), .val (.int r3), .val (.int r7), .val (.int r11), .val (.int r15), .val (.int r19), .unset, .unset, .unset, .unset, .unset, .unset, .unset]) (hb hby d14_43) rfl rfl ?_
  refine go_aload_n (pc' := 46) (hb hby d14_45) rfl rfl rfl ?_
  refine go_iconst (pc' := 47) (v := 5) (hb hby d14_46) rfl rfl ?_
  refine go_iload_n (pc' := 48) (hb hby d14_47) rfl rfl ?_
  refine go_iload_n (pc' := 49) (hb hby d14_48) rfl rfl ?_
  refine callS0 (cells' := 0) (slots' := 0) (Wd := 0) (argsL := [(.ref a), (.int (5 : Int32)), (.int q), (.int u)]) (rest := []) (pay_of (a0 := a0) (c_at11_5 l G a q u c0 c1 c2 c3 c4 c5 c6 c7 c8 c9 c10 h0 O0 p1 p2) (wk G 89 rfl) (wk G 3 rfl) (by decide) (by decide)) (wk G 87 rfl) (wk G 88 rfl) (wk G 3 rfl) (wk G 89 rfl) (by decide) pd9 rfl rfl (by rw [hml]; rfl) (Nat.le_of_ble_eq_true rfl) rfl rfl (by decide) (by decide) all0 (fun _ _ => sf0) (hb hby d14_49) (k_v (pc' := 52) rfl ?_)
  rintro _ h21 ⟨r23, rfl, rfl, f24⟩ K22
  refine go_istore (pc' := 54) (ls' := #[.val (.ref a), .val (.int (10 : Int32)), .val (.int q), .val (.int u), .val (.int r3), .val (.int r7), .val (.int r11), .val (.int r15), .val (.int r19), .val (.int r23), .unset, .unset, .unset, .unset, .unset, .unset]) (hb hby d14_52) rfl rfl ?_
  refine go_aload_n (pc' := 55) (hb hby d14_54) rfl rfl rfl ?_
  refine go_bipush (pc' := 57) (v := 6) (hb hby d14_55) rfl rfl ?_
  refine go_iload_n (pc' := 58) (hb hby d14_57) rfl rfl ?_
  refine go_iload_n (pc' := 59) (hb hby d14_58) rfl rfl ?_
  refine callS0 (cells' := 0) (slots' := 0) (Wd := 0) (argsL := [(.ref a), (.int (6 : Int32)), (.int q), (.int u)]) (rest := []) (pay_of (a0 := a0) (c_at11_6 l G a q u c0 c1 c2 c3 c4 c5 c6 c7 c8 c9 c10 h0 O0 p1 p2) (wk G 89 rfl) (wk G 3 rfl) (by decide) (by decide)) (wk G 87 rfl) (wk G 88 rfl) (wk G 3 rfl) (wk G 89 rfl) (by decide) pd9 rfl rfl (by rw [hml]; rfl) (Nat.le_of_ble_eq_true rfl) rfl rfl (by decide) (by decide) all0 (fun _ _ => sf0) (hb hby d14_59) (k_v (pc' := 62) rfl ?_)
  rintro _ h25 ⟨r27, rfl, rfl, f28⟩ K26
  refine go_istore (pc' := 64) (ls' := #[.val (.ref a), .val (.int (10 : Int32)), .val (.int q), .val (.int u), .val (.int r3), .val (.int r7), .val (.int r11), .val (.int r15), .val (.int r19), .val (.int r23), .val (.int r27), .unset, .unset, .unset, .unset, .unset]) (hb hby d14_62) rfl rfl ?_
  refine go_aload_n (pc' := 65) (hb hby d14_64) rfl rfl rfl ?_
  refine go_bipush (pc' := 67) (v := 7) (hb hby d14_65) rfl rfl ?_
  refine go_iload_n (pc' := 68) (hb hby d14_67) rfl rfl ?_
  refine go_iload_n (pc' := 69) (hb hby d14_68) rfl rfl ?_
  refine callS0 (cells' := 0) (slots' := 0) (Wd := 0) (argsL := [(.ref a), (.int (7 : Int32)), (.int q), (.int u)]) (rest := []) (pay_of (a0 := a0) (c_at11_7 l G a q u c0 c1 c2 c3 c4 c5 c6 c7 c8 c9 c10 h0 O0 p1 p2) (wk G 89 rfl) (wk G 3 rfl) (by decide) (by decide)) (wk G 87 rfl) (wk G 88 rfl) (wk G 3 rfl) (wk G 89 rfl) (by decide) pd9 rfl rfl (by rw [hml]; rfl) (Nat.le_of_ble_eq_true rfl) rfl rfl (by decide) (by decide) all0 (fun _ _ => sf0) (hb hby d14_69) (k_v (pc' := 72) rfl ?_)
  rintro _ h29 ⟨r31, rfl, rfl, f32⟩ K30
  refine go_istore (pc' := 74) (ls' := #[.val (.ref a), .val (.int (10 : Int32)), .val (.int q), .val (.int u), .val (.int r3), .val (.int r7), .val (.int r11), .val (.int r15), .val (.int r19), .val (.int r23), .val (.int r27), .val (.int r31), .unset, .unset, .unset, .unset]) (hb hby d14_72) rfl rfl ?_
  refine go_aload_n (pc' := 75) (hb hby d14_74) rfl rfl rfl ?_
  refine go_bipush (pc' := 77) (v := 8) (hb hby d14_75) rfl rfl ?_
  refine go_iload_n (pc' := 78) (hb hby d14_77) rfl rfl ?_
  refine go_iload_n (pc' := 79) (hb hby d14_78) rfl rfl ?_
  refine callS0 (cells' := 0) (slots' := 0) (Wd := 0) (argsL := [(.ref a), (.int (8 : Int32)), (.int q), (.int u)]) (rest := []) (pay_of (a0 := a0) (c_at11_8 l G a q u c0 c1 c2 c3 c4 c5 c6 c7 c8 c9 c10 h0 O0 p1 p2) (wk G 89 rfl) (wk G 3 rfl) (by decide) (by decide)) (wk G 87 rfl) (wk G 88 rfl) (wk G 3 rfl) (wk G 89 rfl) (by decide) pd9 rfl rfl (by rw [hml]; rfl) (Nat.le_of_ble_eq_true rfl) rfl rfl (by decide) (by decide) all0 (fun _ _ => sf0) (hb hby d14_79) (k_v (pc' := 82) rfl ?_)
  rintro _ h33 ⟨r35, rfl, rfl, f36⟩ K34
  refine go_istore (pc' := 84) (ls' := #[.val (.ref a), .val (.int (10 : Int32)), .val (.int q), .val (.int u), .val (.int r3), .val (.int r7), .val (.int r11), .val (.int r15), .val (.int r19), .val (.int r23), .val (.int r27), .val (.int r31), .val (.int r35), .unset, .unset, .unset]) (hb hby d14_82) rfl rfl ?_
  refine go_aload_n (pc' := 85) (hb hby d14_84) rfl rfl rfl ?_
  refine go_bipush (pc' := 87) (v := 9) (hb hby d14_85) rfl rfl ?_
  refine go_iload_n (pc' := 88) (hb hby d14_87) rfl rfl ?_
  refine go_iload_n (pc' := 89) (hb hby d14_88) rfl rfl ?_
  refine callS0 (cells' := 0) (slots' := 0) (Wd := 0) (argsL := [(.ref a), (.int (9 : Int32)), (.int q), (.int u)]) (rest := []) (pay_of (a0 := a0) (c_at11_9 l G a q u c0 c1 c2 c3 c4 c5 c6 c7 c8 c9 c10 h0 O0 p1 p2) (wk G 89 rfl) (wk G 3 rfl) (by decide) (by decide)) (wk G 87 rfl) (wk G 88 rfl) (wk G 3 rfl) (wk G 89 rfl) (by decide) pd9 rfl rfl (by rw [hml]; rfl) (Nat.le_of_ble_eq_true rfl) rfl rfl (by decide) (by decide) all0 (fun _ _ => sf0) (hb hby d14_89) (k_v (pc' := 92) rfl ?_)
  rintro _ h37 ⟨r39, rfl, rfl, f40⟩ K38
  refine go_istore (pc' := 94) (ls' := #[.val (.ref a), .val (.int (10 : Int32)), .val (.int q), .val (.int u), .val (.int r3), .val (.int r7), .val (.int r11), .val (.int r15), .val (.int r19), .val (.int r23), .val (.int r27), .val (.int r31), .val (.int r35), .val (.int r39), .unset, .unset]) (hb hby d14_92) rfl rfl ?_
  refine go_aload_n (pc' := 95) (hb hby d14_94) rfl rfl rfl ?_
  refine go_bipush (pc' := 97) (v := 10) (hb hby d14_95) rfl rfl ?_
  refine go_iload_n (pc' := 98) (hb hby d14_97) rfl rfl ?_
  refine go_iload_n (pc' := 99) (hb hby d14_98) rfl rfl ?_
  refine callS0 (cells' := 0) (slots' := 0) (Wd := 0) (argsL := [(.ref a), (.int (10 : Int32)), (.int q), (.int u)]) (rest := []) (pay_of (a0 := a0) (c_at11_10 l G a q u c0 c1 c2 c3 c4 c5 c6 c7 c8 c9 c10 h0 O0 p1 p2) (wk G 89 rfl) (wk G 3 rfl) (by decide) (by decide)) (wk G 87 rfl) (wk G 88 rfl) (wk G 3 rfl) (wk G 89 rfl) (by decide) pd9 rfl rfl (by rw [hml]; rfl) (Nat.le_of_ble_eq_true rfl) rfl rfl (by decide) (by decide) all0 (fun _ _ => sf0) (hb hby d14_99) (k_v (pc' := 102) rfl ?_)
  rintro _ h41 ⟨r43, rfl, rfl, f44⟩ K42
  refine go_istore (pc' := 104) (ls' := #[.val (.ref a), .val (.int (10 : Int32)), .val (.int q), .val (.int u), .val (.int r3), .val (.int r7), .val (.int r11), .val (.int r15), .val (.int r19), .val (.int r23), .val (.int r27), .val (.int r31), .val (.int r35), .val (.int r39), .val (.int r43), .unset]) (hb hby d14_102) rfl rfl ?_
  refine go_aload_n (pc' := 105) (hb hby d14_104) rfl rfl rfl ?_
  refine go_bipush (pc' := 107) (v := 11) (hb hby d14_105) rfl rfl ?_
  refine go_iload_n (pc' := 108) (hb hby d14_107) rfl rfl ?_
  refine go_iload_n (pc' := 109) (hb hby d14_108) rfl rfl ?_
  refine callS0 (cells' := 0) (slots' := 0) (Wd := 0) (argsL := [(.ref a), (.int (11 : Int32)), (.int q), (.int u)]) (rest := []) (pay_of (a0 := a0) (c_at11_11 l G a q u c0 c1 c2 c3 c4 c5 c6 c7 c8 c9 c10 h0 O0 p1 p2) (wk G 89 rfl) (wk G 3 rfl) (by decide) (by decide)) (wk G 87 rfl) (wk G 88 rfl) (wk G 3 rfl) (wk G 89 rfl) (by decide) pd9 rfl rfl (by rw [hml]; rfl) (Nat.le_of_ble_eq_true rfl) rfl rfl (by decide) (by decide) all0 (fun _ _ => sf0) (hb hby d14_109) (k_v (pc' := 112) rfl ?_)
  rintro _ h45 ⟨r47, rfl, rfl, f48⟩ K46
  refine go_istore (pc' := 114) (ls' := #[.val (.ref a), .val (.int (10 : Int32)), .val (.int q), .val (.int u), .val (.int r3), .val (.int r7), .val (.int r11), .val (.int r15), .val (.int r19), .val (.int r23), .val (.int r27), .val (.int r31), .val (.int r35), .val (.int r39), .val (.int r43), .val (.int r47)]) (hb hby d14_112) rfl rfl ?_
  refine go_iload_n (pc' := 115) (hb hby d14_114) rfl rfl ?_
  refine go_iconst (pc' := 116) (v := 5) (hb hby d14_115) rfl rfl ?_
  refine go_icT (pc' := 155) (hb hby d14_116) (by decide) rfl (by decide) ?_
  refine go_iload_n (pc' := 156) (hb hby d14_155) rfl rfl ?_
  refine go_bipush (pc' := 158) (v := 6) (hb hby d14_156) rfl rfl ?_
  refine go_icT (pc' := 203) (hb hby d14_158) (by decide) rfl (by decide) ?_
  refine go_iload_n (pc' := 204) (hb hby d14_203) rfl rfl ?_
  refine go_bipush (pc' := 206) (v := 7) (hb hby d14_204) rfl rfl ?_
  refine go_icT (pc' := 257) (hb hby d14_206) (by decide) rfl (by decide) ?_
  refine go_iload_n (pc' := 258) (hb hby d14_257) rfl rfl ?_
  refine go_bipush (pc' := 260) (v := 10) (hb hby d14_258) rfl rfl ?_
  refine go_icF (pc' := 263) (hb hby d14_260) rfl (by decide) ?_
  refine go_newO (pc' := 266) (cells' := 1) (slots' := 4) (wk G 111 rfl) (wk G 7 rfl) (wk G 6 rfl) (hb hby d14_263) rfl rfl rfl (by decide) (by decide) (fun h49 a50 g51 X52 E53 D54 U55 => ?_)
  refine go_dup (pc' := 267) (hb hby d14_266) rfl rfl ?_
  refine go_bipush (pc' := 269) (v := 10) (hb hby d14_267) rfl rfl ?_
  refine go_newP (pc' := 271) (cells' := 2) (slots' := 14) (cap := 10) (vs := [(.int (0 : Int32)), (.int (0 : Int32)), (.int (0 : Int32)), (.int (0 : Int32)), (.int (0 : Int32)), (.int (0 : Int32)), (.int (0 : Int32)), (.int (0 : Int32)), (.int (0 : Int32)), (.int (0 : Int32))]) (ty := .char) (dv := .int 0) (wk G 112 rfl) rfl rfl (hb hby d14_269) rfl (by decide) rfl (by decide) rfl rfl rfl (by decide) (by decide) (fun h56 a57 k61 g58 X59 A60 => ?_)
  refine go_dup (pc' := 272) (hb hby d14_271) rfl rfl ?_
  refine go_iconst (pc' := 273) (v := 0) (hb hby d14_272) rfl rfl ?_
  refine go_iload (pc' := 275) (hb hby d14_273) rfl rfl ?_
  have K65 : Keep h0 h49 [] := ((Keep.refl h0 []).ext X52)
  refine go_stC (pc' := 276) (i := 0) (x' := r3) (vs' := [(.int r3), (.int (0 : Int32)), (.int (0 : Int32)), (.int (0 : Int32)), (.int (0 : Int32)), (.int (0 : Int32)), (.int (0 : Int32)), (.int (0 : Int32)), (.int (0 : Int32)), (.int (0 : Int32))]) A60 (Nat.le_trans O0.2.1 (Nat.le_trans K65.1 (Nat.le_of_eq g58))) (by decide) (by decide) rfl (Nat.le_of_ble_eq_true rfl) (i2c_c8 f4) rfl (hb hby d14_275) rfl (fun h62 W63 A64 => ?_)
  refine go_dup (pc' := 277) (hb hby d14_276) rfl rfl ?_
  refine go_iconst (pc' := 278) (v := 1) (hb hby d14_277) rfl rfl ?_
  refine go_iload (pc' := 280) (hb hby d14_278) rfl rfl ?_
  refine go_stC (pc' := 281) (i := 1) (x' := r7) (vs' := [(.int r3), (.int r7), (.int (0 : Int32)), (.int (0 : Int32)), (.int (0 : Int32)), (.int (0 : Int32)), (.int (0 : Int32)), (.int (0 : Int32)), (.int (0 : Int32)), (.int (0 : Int32))]) A64 (Nat.le_trans O0.2.1 (Nat.le_trans K65.1 (Nat.le_of_eq g58))) (by decide) (by decide) rfl (Nat.le_of_ble_eq_true rfl) (i2c_c8 f8) rfl (hb hby d14_280) rfl (fun h66 W67 A68 => ?_)
  refine go_dup (pc' := 282) (hb hby d14_281) rfl rfl ?_
  refine go_iconst (pc' := 283) (v := 2) (hb hby d14_282) rfl rfl ?_
  refine go_iload (pc' := 285) (hb hby d14_283) rfl rfl ?_
  refine go_stC (pc' := 286) (i := 2) (x' := r11) (vs' := [(.int r3), (.int r7), (.int r11), (.int (0 : Int32)), (.int (0 : Int32)), (.int (0 : Int32)), (.int (0 : Int32)), (.int (0 : Int32)), (.int (0 : Int32)), (.int (0 : Int32))]) A68 (Nat.le_trans O0.2.1 (Nat.le_trans K65.1 (Nat.le_of_eq g58))) (by decide) (by decide) rfl (Nat.le_of_ble_eq_true rfl) (i2c_c8 f12) rfl (hb hby d14_285) rfl (fun h69 W70 A71 => ?_)
  refine go_dup (pc' := 287) (hb hby d14_286) rfl rfl ?_
  refine go_iconst (pc' := 288) (v := 3) (hb hby d14_287) rfl rfl ?_
  refine go_iload (pc' := 290) (hb hby d14_288) rfl rfl ?_
  refine go_stC (pc' := 291) (i := 3) (x' := r15) (vs' := [(.int r3), (.int r7), (.int r11), (.int r15), (.int (0 : Int32)), (.int (0 : Int32)), (.int (0 : Int32)), (.int (0 : Int32)), (.int (0 : Int32)), (.int (0 : Int32))]) A71 (Nat.le_trans O0.2.1 (Nat.le_trans K65.1 (Nat.le_of_eq g58))) (by decide) (by decide) rfl (Nat.le_of_ble_eq_true rfl) (i2c_c8 f16) rfl (hb hby d14_290) rfl (fun h72 W73 A74 => ?_)
  refine go_dup (pc' := 292) (hb hby d14_291) rfl rfl ?_
  refine go_iconst (pc' := 293) (v := 4) (hb hby d14_292) rfl rfl ?_
  refine go_iload (pc' := 295) (hb hby d14_293) rfl rfl ?_
  refine go_stC (pc' := 296) (i := 4) (x' := r19) (vs' := [(.int r3), (.int r7), (.int r11), (.int r15), (.int r19), (.int (0 : Int32)), (.int (0 : Int32)), (.int (0 : Int32)), (.int (0 : Int32)), (.int (0 : Int32))]) A74 (Nat.le_trans O0.2.1 (Nat.le_trans K65.1 (Nat.le_of_eq g58))) (by decide) (by decide) rfl (Nat.le_of_ble_eq_true rfl) (i2c_c8 f20) rfl (hb hby d14_295) rfl (fun h75 W76 A77 => ?_)
  refine go_dup (pc' := 297) (hb hby d14_296) rfl rfl ?_
  refine go_iconst (pc' := 298) (v := 5) (hb hby d14_297) rfl rfl ?_
  refine go_iload (pc' := 300) (hb hby d14_298) rfl rfl ?_
  refine go_stC (pc' := 301) (i := 5) (x' := r23) (vs' := [(.int r3), (.int r7), (.int r11), (.int r15), (.int r19), (.int r23), (.int (0 : Int32)), (.int (0 : Int32)), (.int (0 : Int32)), (.int (0 : Int32))]) A77 (Nat.le_trans O0.2.1 (Nat.le_trans K65.1 (Nat.le_of_eq g58))) (by decide) (by decide) rfl (Nat.le_of_ble_eq_true rfl) (i2c_c8 f24) rfl (hb hby d14_300) rfl (fun h78 W79 A80 => ?_)
  refine go_dup (pc' := 302) (hb hby d14_301) rfl rfl ?_
  refine go_bipush (pc' := 304) (v := 6) (hb hby d14_302) rfl rfl ?_
  refine go_iload (pc' := 306) (hb hby d14_304) rfl rfl ?_
  refine go_stC (pc' := 307) (i := 6) (x' := r27) (vs' := [(.int r3), (.int r7), (.int r11), (.int r15), (.int r19), (.int r23), (.int r27), (.int (0 : Int32)), (.int (0 : Int32)), (.int (0 : Int32))]) A80 (Nat.le_trans O0.2.1 (Nat.le_trans K65.1 (Nat.le_of_eq g58))) (by decide) (by decide) rfl (Nat.le_of_ble_eq_true rfl) (i2c_c8 f28) rfl (hb hby d14_306) rfl (fun h81 W82 A83 => ?_)
  refine go_dup (pc' := 308) (hb hby d14_307) rfl rfl ?_
  refine go_bipush (pc' := 310) (v := 7) (hb hby d14_308) rfl rfl ?_
  refine go_iload (pc' := 312) (hb hby d14_310) rfl rfl ?_
  refine go_stC (pc' := 313) (i := 7) (x' := r31) (vs' := [(.int r3), (.int r7), (.int r11), (.int r15), (.int r19), (.int r23), (.int r27), (.int r31), (.int (0 : Int32)), (.int (0 : Int32))]) A83 (Nat.le_trans O0.2.1 (Nat.le_trans K65.1 (Nat.le_of_eq g58))) (by decide) (by decide) rfl (Nat.le_of_ble_eq_true rfl) (i2c_c8 f32) rfl (hb hby d14_312) rfl (fun h84 W85 A86 => ?_)
  refine go_dup (pc' := 314) (hb hby d14_313) rfl rfl ?_
  refine go_bipush (pc' := 316) (v := 8) (hb hby d14_314) rfl rfl ?_
  refine go_iload (pc' := 318) (hb hby d14_316) rfl rfl ?_
  refine go_stC (pc' := 319) (i := 8) (x' := r35) (vs' := [(.int r3), (.int r7), (.int r11), (.int r15), (.int r19), (.int r23), (.int r27), (.int r31), (.int r35), (.int (0 : Int32))]) A86 (Nat.le_trans O0.2.1 (Nat.le_trans K65.1 (Nat.le_of_eq g58))) (by decide) (by decide) rfl (Nat.le_of_ble_eq_true rfl) (i2c_c8 f36) rfl (hb hby d14_318) rfl (fun h87 W88 A89 => ?_)
  refine go_dup (pc' := 320) (hb hby d14_319) rfl rfl ?_
  refine go_bipush (pc' := 322) (v := 9) (hb hby d14_320) rfl rfl ?_
  refine go_iload (pc' := 324) (hb hby d14_322) rfl rfl ?_
  refine go_stC (pc' := 325) (i := 9) (x' := r39) (vs' := [(.int r3), (.int r7), (.int r11), (.int r15), (.int r19), (.int r23), (.int r27), (.int r31), (.int r35), (.int r39)]) A89 (Nat.le_trans O0.2.1 (Nat.le_trans K65.1 (Nat.le_of_eq g58))) (by decide) (by decide) rfl (Nat.le_of_ble_eq_true rfl) (i2c_c8 f40) rfl (hb hby d14_324) rfl (fun h90 W91 A92 => ?_)
  have K93 : Keep h49 h56 [] := ((Keep.refl h49 []).ext X59)
  have K94 : Keep h49 h62 [] := (K93.wr W63 (Or.inr (Nat.le_of_eq g58)))
  have K95 : Keep h49 h66 [] := (K94.wr W67 (Or.inr (Nat.le_of_eq g58)))
  have K96 : Keep h49 h69 [] := (K95.wr W70 (Or.inr (Nat.le_of_eq g58)))
  have K97 : Keep h49 h72 [] := (K96.wr W73 (Or.inr (Nat.le_of_eq g58)))
  have K98 : Keep h49 h75 [] := (K97.wr W76 (Or.inr (Nat.le_of_eq g58)))
  have K99 : Keep h49 h78 [] := (K98.wr W79 (Or.inr (Nat.le_of_eq g58)))
  have K100 : Keep h49 h81 [] := (K99.wr W82 (Or.inr (Nat.le_of_eq g58)))
  have K101 : Keep h49 h84 [] := (K100.wr W85 (Or.inr (Nat.le_of_eq g58)))
  have K102 : Keep h49 h87 [] := (K101.wr W88 (Or.inr (Nat.le_of_eq g58)))
  have K103 : Keep h49 h90 [] := (K102.wr W91 (Or.inr (Nat.le_of_eq g58)))
  have E104 := (E53.keep K103)
  have F105 := D54 (Or.inr (wk G 9 rfl)) (ty := (.array .byte)) (by decide)
  have F106 := (F105.keep K103 nin0)
  have F107 := D54 (Or.inr (wk G 10 rfl)) (ty := .byte) (by decide)
  have F108 := (F107.keep K103 nin0)
  refine go_old (fun O109 => ?_)
  refine callI0 (cells' := 3) (slots' := 24) (Wd := 1) (argsL := [(.ref a57)]) (rest := [(.ref a50)]) (pay_new G O109 (cs := [r3, r7, r11, r15, r19, r23, r27, r31, r35, r39]) (n := 10) (Nat.le_trans O0.2.1 (Nat.le_of_eq g51)) E104 F106 F108 A92 rfl rfl (by decide) (by decide) (c8c f4 (c8c f8 (c8c f12 (c8c f16 (c8c f20 (c8c f24 (c8c f28 (c8c f32 (c8c f36 (c8c f40 c8n)))))))))) (by decide) (by decide)) rfl (wk G 113 rfl) (wk G 114 rfl) (wk G 115 rfl) (by decide) pd10 rfl rfl (by rw [hml]; rfl) (Nat.le_of_ble_eq_true rfl) rfl rfl (by decide) (by decide) (allS (Nat.le_trans O0.2.1 (Nat.le_of_eq g51)) all0) (fun _ hal => (sfS safe_nil sf0)) (hb hby d14_325) (k_n (pc' := 328) rfl ?_)
  rintro h110 S112 K111
  have K113 : Keep h0 h56 [] := (K65.ext X59)
  have K114 : Keep h0 h62 [] := (K113.wr W63 (Or.inr (Nat.le_trans K65.1 (Nat.le_of_eq g58))))
  have K115 : Keep h0 h66 [] := (K114.wr W67 (Or.inr (Nat.le_trans K65.1 (Nat.le_of_eq g58))))
  have K116 : Keep h0 h69 [] := (K115.wr W70 (Or.inr (Nat.le_trans K65.1 (Nat.le_of_eq g58))))
  have K117 : Keep h0 h72 [] := (K116.wr W73 (Or.inr (Nat.le_trans K65.1 (Nat.le_of_eq g58))))
  have K118 : Keep h0 h75 [] := (K117.wr W76 (Or.inr (Nat.le_trans K65.1 (Nat.le_of_eq g58))))
  have K119 : Keep h0 h78 [] := (K118.wr W79 (Or.inr (Nat.le_trans K65.1 (Nat.le_of_eq g58))))
  have K120 : Keep h0 h81 [] := (K119.wr W82 (Or.inr (Nat.le_trans K65.1 (Nat.le_of_eq g58))))
  have K121 : Keep h0 h84 [] := (K120.wr W85 (Or.inr (Nat.le_trans K65.1 (Nat.le_of_eq g58))))
  have K122 : Keep h0 h87 [] := (K121.wr W88 (Or.inr (Nat.le_trans K65.1 (Nat.le_of_eq g58))))
  have K123 : Keep h0 h90 [] := (K122.wr W91 (Or.inr (Nat.le_trans K65.1 (Nat.le_of_eq g58))))
  have K124 : Keep h0 h110 [] := (K123.trans K111 (allS (Or.inr (Nat.le_of_eq g51)) all0))
  refine go_areturn hret hlk rfl rfl (hb hby d14_328) (by decide) (by decide) ⟨_, rfl, ⟨a50, [r3, r7, r11, r15, r19, r23, r27, r31, r35, r39], rfl, (Nat.le_of_eq g51), S112⟩⟩ K124
theorem ef_edit11_11 (m : MethodId) (a : Addr) (q : Int32) (u : Int32)  : entryFrame m #[(.ref a), (.int (11 : Int32)), (.int q), (.int u)] 16 = mkF m 0 #[.val (.ref a), .val (.int (11 : Int32)), .val (.int q), .val (.int u), .unset, .unset, .unset, .unset, .unset, .unset, .unset, .unset, .unset, .unset, .unset, .unset] [] := by first | (simp [entryFrame, mkF, argsToLocals, Value.category]; done) | rfl
def Q_edit11_11 (Z : State) (a : Addr) (q : Int32) (u : Int32) (c0 : Int32) (c1 : Int32) (c2 : Int32) (c3 : Int32) (c4 : Int32) (c5 : Int32) (c6 : Int32) (c7 : Int32) (c8 : Int32) (c9 : Int32) (c10 : Int32) (h0 : Heap) (xv : Value) (h : Heap) : Prop := ∃ (r : Addr) (ds : List Int32), (.ref r) = xv ∧ h0.size ≤ r ∧ Str Z h r ds
set_option maxRecDepth 65536 in
set_option maxHeartbeats 40000000 in
theorem c_edit11_11 (l : Launch) {Z : State} {a0 : Array Value} (G : GH Z a0) (a : Addr) (q : Int32) (u : Int32) (c0 : Int32) (c1 : Int32) (c2 : Int32) (c3 : Int32) (c4 : Int32) (c5 : Int32) (c6 : Int32) (c7 : Int32) (c8 : Int32) (c9 : Int32) (c10 : Int32) (h0 : Heap) (O0 : Old Z Z.heap.size h0) (p1 : C8 u) (p2 : Str Z h0 a [c0, c1, c2, c3, c4, c5, c6, c7, c8, c9, c10]) : Con false [] l Z (⟨"com/example/ispol/ispol/walls/TransparencyOfPinLaw", "edit", "(Ljava/lang/String;IIC)Ljava/lang/String;"⟩ : MethodName) method_7_code 16 (some (.object "java/lang/String")) [] ({ frames := 5, cells := 3, slots := 26, locals := 68 } : Room) #[(.ref a), (.int (11 : Int32)), (.int q), (.int u)] h0 [] (rvl (Q_edit11_11 Z a q u c0 c1 c2 c3 c4 c5 c6 c7 c8 c9 c10 h0)) := by
  refine con_of (a0 := a0) (plainFor_of_name pn4) (fun q => rfl) EW.nil O0 (fun m => ef_edit11_11 m a q u) ?_
  intro p_ e_ s_ m_ below_ meth_ c_ hby hml hret hlk hnm
  refine go_aload_n (pc' := 1) (hb hby d14_0) rfl rfl rfl ?_
  refine go_iconst (pc' := 2) (v := 0) (hb hby d14_1) rfl rfl ?_
  refine go_iload_n (pc' := 3) (hb hby d14_2) rfl rfl ?_
  refine go_iload_n (pc' := 4) (hb hby d14_3) rfl rfl ?_
  refine callS0 (cells' := 0) (slots' := 0) (Wd := 0) (argsL := [(.ref a), (.int (0 : Int32)), (.int q), (.int u)]) (rest := []) (pay_of (a0 := a0) (c_at11_0 l G a q u c0 c1 c2 c3 c4 c5 c6 c7 c8 c9 c10 h0 O0 p1 p2) (wk G 89 rfl) (wk G 3 rfl) (by decide) (by decide)) (wk G 87 rfl) (wk G 88 rfl) (wk G 3 rfl) (wk G 89 rfl) (by decide) pd9 rfl rfl (by rw [hml]; rfl) (Nat.le_of_ble_eq_true rfl) rfl rfl (by decide) (by decide) all0 (fun _ _ => sf0) (hb hby d14_4) (k_v (pc' := 7) rfl ?_)
  rintro _ h1 ⟨r3, rfl, rfl, f4⟩ K2
  refine go_istore (pc' := 9) (ls' := #[.val (.ref a), .val (.int (11 : Int32)), .val (.int q), .val (.int u), .val (.int r3), .unset, .unset, .unset, .unset, .unset, .unset, .unset, .unset, .unset, .unset, .unset]) (hb hby d14_7) rfl rfl ?_
  refine go_aload_n (pc' := 10) (hb hby d14_9) rfl rfl rfl ?_
  refine go_iconst (pc' := 11) (v := 1) (hb hby d14_10) rfl rfl ?_
  refine go_iload_n (pc' := 12) (hb hby d14_11) rfl rfl ?_
  refine go_iload_n (pc' := 13) (hb hby d14_12) rfl rfl ?_
  refine callS0 (cells' := 0) (slots' := 0) (Wd := 0) (argsL := [(.ref a), (.int (1 : Int32)), (.int q), (.int u)]) (rest := []) (pay_of (a0 := a0) (c_at11_1 l G a q u c0 c1 c2 c3 c4 c5 c6 c7 c8 c9 c10 h0 O0 p1 p2) (wk G 89 rfl) (wk G 3 rfl) (by decide) (by decide)) (wk G 87 rfl) (wk G 88 rfl) (wk G 3 rfl) (wk G 89 rfl) (by decide) pd9 rfl rfl (by rw [hml]; rfl) (Nat.le_of_ble_eq_true rfl) rfl rfl (by decide) (by decide) all0 (fun _ _ => sf0) (hb hby d14_13) (k_v (pc' := 16) rfl ?_)
  rintro _ h5 ⟨r7, rfl, rfl, f8⟩ K6
  refine go_istore (pc' := 18) (ls' := #[.val (.ref a), .val (.int (11 : Int32)), .val (.int q), .val (.int u), .val (.int r3), .val (.int r7), .unset, .unset, .unset, .unset, .unset, .unset, .unset, .unset, .unset, .unset]) (hb hby d14_16) rfl rfl ?_
  refine go_aload_n (pc' := 19) (hb hby d14_18) rfl rfl rfl ?_
  refine go_iconst (pc' := 20) (v := 2) (hb hby d14_19) rfl rfl ?_
  refine go_iload_n (pc' := 21) (hb hby d14_20) rfl rfl ?_
  refine go_iload_n (pc' := 22) (hb hby d14_21) rfl rfl ?_
  refine callS0 (cells' := 0) (slots' := 0) (Wd := 0) (argsL := [(.ref a), (.int (2 : Int32)), (.int q), (.int u)]) (rest := []) (pay_of (a0 := a0) (c_at11_2 l G a q u c0 c1 c2 c3 c4 c5 c6 c7 c8 c9 c10 h0 O0 p1 p2) (wk G 89 rfl) (wk G 3 rfl) (by decide) (by decide)) (wk G 87 rfl) (wk G 88 rfl) (wk G 3 rfl) (wk G 89 rfl) (by decide) pd9 rfl rfl (by rw [hml]; rfl) (Nat.le_of_ble_eq_true rfl) rfl rfl (by decide) (by decide) all0 (fun _ _ => sf0) (hb hby d14_22) (k_v (pc' := 25) rfl ?_)
  rintro _ h9 ⟨r11, rfl, rfl, f12⟩ K10
  refine go_istore (pc' := 27) (ls' := #[.val (.ref a), .val (.int (11 : Int32)), .val (.int q), .val (.int u), .val (.int r3), .val (.int r7), .val (.int r11), .unset, .unset, .unset, .unset, .unset, .unset, .unset, .unset, .unset]) (hb hby d14_25) rfl rfl ?_
  refine go_aload_n (pc' := 28) (hb hby d14_27) rfl rfl rfl ?_
  refine go_iconst (pc' := 29) (v := 3) (hb hby d14_28) rfl rfl ?_
  refine go_iload_n (pc' := 30) (hb hby d14_29) rfl rfl ?_
  refine go_iload_n (pc' := 31) (hb hby d14_30) rfl rfl ?_
  refine callS0 (cells' := 0) (slots' := 0) (Wd := 0) (argsL := [(.ref a), (.int (3 : Int32)), (.int q), (.int u)]) (rest := []) (pay_of (a0 := a0) (c_at11_3 l G a q u c0 c1 c2 c3 c4 c5 c6 c7 c8 c9 c10 h0 O0 p1 p2) (wk G 89 rfl) (wk G 3 rfl) (by decide) (by decide)) (wk G 87 rfl) (wk G 88 rfl) (wk G 3 rfl) (wk G 89 rfl) (by decide) pd9 rfl rfl (by rw [hml]; rfl) (Nat.le_of_ble_eq_true rfl) rfl rfl (by decide) (by decide) all0 (fun _ _ => sf0) (hb hby d14_31) (k_v (pc' := 34) rfl ?_)
  rintro _ h13 ⟨r15, rfl, rfl, f16⟩ K14
  refine go_istore (pc' := 36) (ls' := #[.val (.ref a), .val (.int (11 : Int32)), .val (.int q), .val (.int u), .val (.int r3), .val (.int r7), .val (.int r11), .val (.int r15), .unset, .unset, .unset, .unset, .unset, .unset, .unset, .unset]) (hb hby d14_34) rfl rfl ?_
  refine go_aload_n (pc' := 37) (hb hby d14_36) rfl rfl rfl ?_
  refine go_iconst (pc' := 38) (v := 4) (hb hby d14_37) rfl rfl ?_
  refine go_iload_n (pc' := 39) (hb hby d14_38) rfl rfl ?_
  refine go_iload_n (pc' := 40) (hb hby d14_39) rfl rfl ?_
  refine callS0 (cells' := 0) (slots' := 0) (Wd := 0) (argsL := [(.ref a), (.int (4 : Int32)), (.int q), (.int u)]) (rest := []) (pay_of (a0 := a0) (c_at11_4 l G a q u c0 c1 c2 c3 c4 c5 c6 c7 c8 c9 c10 h0 O0 p1 p2) (wk G 89 rfl) (wk G 3 rfl) (by decide) (by decide)) (wk G 87 rfl) (wk G 88 rfl) (wk G 3 rfl) (wk G 89 rfl) (by decide) pd9 rfl rfl (by rw [hml]; rfl) (Nat.le_of_ble_eq_true rfl) rfl rfl (by decide) (by decide) all0 (fun _ _ => sf0) (hb hby d14_40) (k_v (pc' := 43) rfl ?_)
  rintro _ h17 ⟨r19, rfl, rfl, f20⟩ K18
  refine go_istore (pc' := 45) (ls' := #[.val (.ref a), .val (.int (11 : Int32)), .val (.int q), .val (.int u), .val (.int r3), .val (.int r7), .val (.int r11), .val (.int r15), .val (.int r19), .unset, .unset, .unset, .unset, .unset, .unset, .unset]) (hb hby d14_43) rfl rfl ?_
  refine go_aload_n (pc' := 46) (hb hby d14_45) rfl rfl rfl ?_
  refine go_iconst (pc' := 47) (v := 5) (hb hby d14_46) rfl rfl ?_
  refine go_iload_n (pc' := 48) (hb hby d14_47) rfl rfl ?_
  refine go_iload_n (pc' := 49) (hb hby d14_48) rfl rfl ?_
  refine callS0 (cells' := 0) (slots' := 0) (Wd := 0) (argsL := [(.ref a), (.int (5 : Int32)), (.int q), (.int u)]) (rest := []) (pay_of (a0 := a0) (c_at11_5 l G a q u c0 c1 c2 c3 c4 c5 c6 c7 c8 c9 c10 h0 O0 p1 p2) (wk G 89 rfl) (wk G 3 rfl) (by decide) (by decide)) (wk G 87 rfl) (wk G 88 rfl) (wk G 3 rfl) (wk G 89 rfl) (by decide) pd9 rfl rfl (by rw [hml]; rfl) (Nat.le_of_ble_eq_true rfl) rfl rfl (by decide) (by decide) all0 (fun _ _ => sf0) (hb hby d14_49) (k_v (pc' := 52) rfl ?_)
  rintro _ h21 ⟨r23, rfl, rfl, f24⟩ K22
  refine go_istore (pc' := 54) (ls' := #[.val (.ref a), .val (.int (11 : Int32)), .val (.int q), .val (.int u), .val (.int r3), .val (.int r7), .val (.int r11), .val (.int r15), .val (.int r19), .val (.int r23), .unset, .unset, .unset, .unset, .unset, .unset]) (hb hby d14_52) rfl rfl ?_
  refine go_aload_n (pc' := 55) (hb hby d14_54) rfl rfl rfl ?_
  refine go_bipush (pc' := 57) (v := 6) (hb hby d14_55) rfl rfl ?_
  refine go_iload_n (pc' := 58) (hb hby d14_57) rfl rfl ?_
  refine go_iload_n (pc' := 59) (hb hby d14_58) rfl rfl ?_
  refine callS0 (cells' := 0) (slots' := 0) (Wd := 0) (argsL := [(.ref a), (.int (6 : Int32)), (.int q), (.int u)]) (rest := []) (pay_of (a0 := a0) (c_at11_6 l G a q u c0 c1 c2 c3 c4 c5 c6 c7 c8 c9 c10 h0 O0 p1 p2) (wk G 89 rfl) (wk G 3 rfl) (by decide) (by decide)) (wk G 87 rfl) (wk G 88 rfl) (wk G 3 rfl) (wk G 89 rfl) (by decide) pd9 rfl rfl (by rw [hml]; rfl) (Nat.le_of_ble_eq_true rfl) rfl rfl (by decide) (by decide) all0 (fun _ _ => sf0) (hb hby d14_59) (k_v (pc' := 62) rfl ?_)
  rintro _ h25 ⟨r27, rfl, rfl, f28⟩ K26
  refine go_istore (pc' := 64) (ls' := #[.val (.ref a), .val (.int (11 : Int32)), .val (.int q), .val (.int u), .val (.int r3), .val (.int r7), .val (.int r11), .val (.int r15), .val (.int r19), .val (.int r23), .val (.int r27), .unset, .unset, .unset, .unset, .unset]) (hb hby d14_62) rfl rfl ?_
  refine go_aload_n (pc' := 65) (hb hby d14_64) rfl rfl rfl ?_
  refine go_bipush (pc' := 67) (v := 7) (hb hby d14_65) rfl rfl ?_
  refine go_iload_n (pc' := 68) (hb hby d14_67) rfl rfl ?_
  refine go_iload_n (pc' := 69) (hb hby d14_68) rfl rfl ?_
  refine callS0 (cells' := 0) (slots' := 0) (Wd := 0) (argsL := [(.ref a), (.int (7 : Int32)), (.int q), (.int u)]) (rest := []) (pay_of (a0 := a0) (c_at11_7 l G a q u c0 c1 c2 c3 c4 c5 c6 c7 c8 c9 c10 h0 O0 p1 p2) (wk G 89 rfl) (wk G 3 rfl) (by decide) (by decide)) (wk G 87 rfl) (wk G 88 rfl) (wk G 3 rfl) (wk G 89 rfl) (by decide) pd9 rfl rfl (by rw [hml]; rfl) (Nat.le_of_ble_eq_true rfl) rfl rfl (by decide) (by decide) all0 (fun _ _ => sf0) (hb hby d14_69) (k_v (pc' := 72) rfl ?_)
  rintro _ h29 ⟨r31, rfl, rfl, f32⟩ K30
  refine go_istore (pc' := 74) (ls' := #[.val (.ref a), .val (.int (11 : Int32)), .val (.int q), .val (.int u), .val (.int r3), .val (.int r7), .val (.int r11), .val (.int r15), .val (.int r19), .val (.int r23), .val (.int r27), .val (.int r31), .unset, .unset, .unset, .unset]) (hb hby d14_72) rfl rfl ?_
  refine go_aload_n (pc' := 75) (hb hby d14_74) rfl rfl rfl ?_
  refine go_bipush (pc' := 77) (v := 8) (hb hby d14_75) rfl rfl ?_
  refine go_iload_n (pc' := 78) (hb hby d14_77) rfl rfl ?_
  refine go_iload_n (pc' := 79) (hb hby d14_78) rfl rfl ?_
  refine callS0 (cells' := 0) (slots' := 0) (Wd := 0) (argsL := [(.ref a), (.int (8 : Int32)), (.int q), (.int u)]) (rest := []) (pay_of (a0 := a0) (c_at11_8 l G a q u c0 c1 c2 c3 c4 c5 c6 c7 c8 c9 c10 h0 O0 p1 p2) (wk G 89 rfl) (wk G 3 rfl) (by decide) (by decide)) (wk G 87 rfl) (wk G 88 rfl) (wk G 3 rfl) (wk G 89 rfl) (by decide) pd9 rfl rfl (by rw [hml]; rfl) (Nat.le_of_ble_eq_true rfl) rfl rfl (by decide) (by decide) all0 (fun _ _ => sf0) (hb hby d14_79) (k_v (pc' := 82) rfl ?_)
  rintro _ h33 ⟨r35, rfl, rfl, f36⟩ K34
  refine go_istore (pc' := 84) (ls' := #[.val (.ref a), .val (.int (11 : Int32)), .val (.int q), .val (.int u), .val (.int r3), .val (.int r7), .val (.int r11), .val (.int r15), .val (.int r19), .val (.int r23), .val (.int r27), .val (.int r31), .val (.int r35), .unset, .unset, .unset]) (hb hby d14_82) rfl rfl ?_
  refine go_aload_n (pc' := 85) (hb hby d14_84) rfl rfl rfl ?_
  refine go_bipush (pc' := 87) (v := 9) (hb hby d14_85) rfl rfl ?_
  refine go_iload_n (pc' := 88) (hb hby d14_87) rfl rfl ?_
  refine go_iload_n (pc' := 89) (hb hby d14_88) rfl rfl ?_
  refine callS0 (cells' := 0) (slots' := 0) (Wd := 0) (argsL := [(.ref a), (.int (9 : Int32)), (.int q), (.int u)]) (rest := []) (pay_of (a0 := a0) (c_at11_9 l G a q u c0 c1 c2 c3 c4 c5 c6 c7 c8 c9 c10 h0 O0 p1 p2) (wk G 89 rfl) (wk G 3 rfl) (by decide) (by decide)) (wk G 87 rfl) (wk G 88 rfl) (wk G 3 rfl) (wk G 89 rfl) (by decide) pd9 rfl rfl (by rw [hml]; rfl) (Nat.le_of_ble_eq_true rfl) rfl rfl (by decide) (by decide) all0 (fun _ _ => sf0) (hb hby d14_89) (k_v (pc' := 92) rfl ?_)
  rintro _ h37 ⟨r39, rfl, rfl, f40⟩ K38
  refine go_istore (pc' := 94) (ls' := #[.val (.ref a), .val (.int (11 : Int32)), .val (.int q), .val (.int u), .val (.int r3), .val (.int r7), .val (.int r11), .val (.int r15), .val (.int r19), .val (.int r23), .val (.int r27), .val (.int r31), .val (.int r35), .val (.int r39), .unset, .unset]) (hb hby d14_92) rfl rfl ?_
  refine go_aload_n (pc' := 95) (hb hby d14_94) rfl rfl rfl ?_
  refine go_bipush (pc' := 97) (v := 10) (hb hby d14_95) rfl rfl ?_
  refine go_iload_n (pc' := 98) (hb hby d14_97) rfl rfl ?_
  refine go_iload_n (pc' := 99) (hb hby d14_98) rfl rfl ?_
  refine callS0 (cells' := 0) (slots' := 0) (Wd := 0) (argsL := [(.ref a), (.int (10 : Int32)), (.int q), (.int u)]) (rest := []) (pay_of (a0 := a0) (c_at11_10 l G a q u c0 c1 c2 c3 c4 c5 c6 c7 c8 c9 c10 h0 O0 p1 p2) (wk G 89 rfl) (wk G 3 rfl) (by decide) (by decide)) (wk G 87 rfl) (wk G 88 rfl) (wk G 3 rfl) (wk G 89 rfl) (by decide) pd9 rfl rfl (by rw [hml]; rfl) (Nat.le_of_ble_eq_true rfl) rfl rfl (by decide) (by decide) all0 (fun _ _ => sf0) (hb hby d14_99) (k_v (pc' := 102) rfl ?_)
  rintro _ h41 ⟨r43, rfl, rfl, f44⟩ K42
  refine go_istore (pc' := 104) (ls' := #[.val (.ref a), .val (.int (11 : Int32)), .val (.int q), .val (.int u), .val (.int r3), .val (.int r7), .val (.int r11), .val (.int r15), .val (.int r19), .val (.int r23), .val (.int r27), .val (.int r31), .val (.int r35), .val (.int r39), .val (.int r43), .unset]) (hb hby d14_102) rfl rfl ?_
  refine go_aload_n (pc' := 105) (hb hby d14_104) rfl rfl rfl ?_
  refine go_bipush (pc' := 107) (v := 11) (hb hby d14_105) rfl rfl ?_
  refine go_iload_n (pc' := 108) (hb hby d14_107) rfl rfl ?_
  refine go_iload_n (pc' := 109) (hb hby d14_108) rfl rfl ?_
  refine callS0 (cells' := 0) (slots' := 0) (Wd := 0) (argsL := [(.ref a), (.int (11 : Int32)), (.int q), (.int u)]) (rest := []) (pay_of (a0 := a0) (c_at11_11 l G a q u c0 c1 c2 c3 c4 c5 c6 c7 c8 c9 c10 h0 O0 p1 p2) (wk G 89 rfl) (wk G 3 rfl) (by decide) (by decide)) (wk G 87 rfl) (wk G 88 rfl) (wk G 3 rfl) (wk G 89 rfl) (by decide) pd9 rfl rfl (by rw [hml]; rfl) (Nat.le_of_ble_eq_true rfl) rfl rfl (by decide) (by decide) all0 (fun _ _ => sf0) (hb hby d14_109) (k_v (pc' := 112) rfl ?_)
  rintro _ h45 ⟨r47, rfl, rfl, f48⟩ K46
  refine go_istore (pc' := 114) (ls' := #[.val (.ref a), .val (.int (11 : Int32)), .val (.int q), .val (.int u), .val (.int r3), .val (.int r7), .val (.int r11), .val (.int r15), .val (.int r19), .val (.int r23), .val (.int r27), .val (.int r31), .val (.int r35), .val (.int r39), .val (.int r43), .val (.int r47)]) (hb hby d14_112) rfl rfl ?_
  refine go_iload_n (pc' := 115) (hb hby d14_114) rfl rfl ?_
  refine go_iconst (pc' := 116) (v := 5) (hb hby d14_115) rfl rfl ?_
  refine go_icT (pc' := 155) (hb hby d14_116) (by decide) rfl (by decide) ?_
  refine go_iload_n (pc' := 156) (hb hby d14_155) rfl rfl ?_
  refine go_bipush (pc' := 158) (v := 6) (hb hby d14_156) rfl rfl ?_
  refine go_icT (pc' := 203) (hb hby d14_158) (by decide) rfl (by decide) ?_
  refine go_iload_n (pc' := 204) (hb hby d14_203) rfl rfl ?_
  refine go_bipush (pc' := 206) (v := 7) (hb hby d14_204) rfl rfl ?_
  refine go_icT (pc' := 257) (hb hby d14_206) (by decide) rfl (by decide) ?_
  refine go_iload_n (pc' := 258) (hb hby d14_257) rfl rfl ?_
  refine go_bipush (pc' := 260) (v := 10) (hb hby d14_258) rfl rfl ?_
  refine go_icT (pc' := 329) (hb hby d14_260) (by decide) rfl (by decide) ?_
  refine go_iload_n (pc' := 330) (hb hby d14_329) rfl rfl ?_
  refine go_bipush (pc' := 332) (v := 11) (hb hby d14_330) rfl rfl ?_
  refine go_icF (pc' := 335) (hb hby d14_332) rfl (by decide) ?_
  refine go_newO (pc' := 338) (cells' := 1) (slots' := 4) (wk G 111 rfl) (wk G 7 rfl) (wk G 6 rfl) (hb hby d14_335) rfl rfl rfl (by decide) (by decide) (fun h49 a50 g51 X52 E53 D54 U55 => ?_)
  refine go_dup (pc' := 339) (hb hby d14_338) rfl rfl ?_
  refine go_bipush (pc' := 341) (v := 11) (hb hby d14_339) rfl rfl ?_
  refine go_newP (pc' := 343) (cells' := 2) (slots' := 15) (cap := 11) (vs := [(.int (0 : Int32)), (.int (0 : Int32)), (.int (0 : Int32)), (.int (0 : Int32)), (.int (0 : Int32)), (.int (0 : Int32)), (.int (0 : Int32)), (.int (0 : Int32)), (.int (0 : Int32)), (.int (0 : Int32)), (.int (0 : Int32))]) (ty := .char) (dv := .int 0) (wk G 112 rfl) rfl rfl (hb hby d14_341) rfl (by decide) rfl (by decide) rfl rfl rfl (by decide) (by decide) (fun h56 a57 k61 g58 X59 A60 => ?_)
  refine go_dup (pc' := 344) (hb hby d14_343) rfl rfl ?_
  refine go_iconst (pc' := 345) (v := 0) (hb hby d14_344) rfl rfl ?_
  refine go_iload (pc' := 347) (hb hby d14_345) rfl rfl ?_
  have K65 : Keep h0 h49 [] := ((Keep.refl h0 []).ext X52)
  refine go_stC (pc' := 348) (i := 0) (x' := r3) (vs' := [(.int r3), (.int (0 : Int32)), (.int (0 : Int32)), (.int (0 : Int32)), (.int (0 : Int32)), (.int (0 : Int32)), (.int (0 : Int32)), (.int (0 : Int32)), (.int (0 : Int32)), (.int (0 : Int32)), (.int (0 : Int32))]) A60 (Nat.le_trans O0.2.1 (Nat.le_trans K65.1 (Nat.le_of_eq g58))) (by decide) (by decide) rfl (Nat.le_of_ble_eq_true rfl) (i2c_c8 f4) rfl (hb hby d14_347) rfl (fun h62 W63 A64 => ?_)
  refine go_dup (pc' := 349) (hb hby d14_348) rfl rfl ?_
  refine go_iconst (pc' := 350) (v := 1) (hb hby d14_349) rfl rfl ?_
  refine go_iload (pc' := 352) (hb hby d14_350) rfl rfl ?_
  refine go_stC (pc' := 353) (i := 1) (x' := r7) (vs' := [(.int r3), (.int r7), (.int (0 : Int32)), (.int (0 : Int32)), (.int (0 : Int32)), (.int (0 : Int32)), (.int (0 : Int32)), (.int (0 : Int32)), (.int (0 : Int32)), (.int (0 : Int32)), (.int (0 : Int32))]) A64 (Nat.le_trans O0.2.1 (Nat.le_trans K65.1 (Nat.le_of_eq g58))) (by decide) (by decide) rfl (Nat.le_of_ble_eq_true rfl) (i2c_c8 f8) rfl (hb hby d14_352) rfl (fun h66 W67 A68 => ?_)
  refine go_dup (pc' := 354) (hb hby d14_353) rfl rfl ?_
  refine go_iconst (pc' := 355) (v := 2) (hb hby d14_354) rfl rfl ?_
  refine go_iload (pc' := 357) (hb hby d14_355) rfl rfl ?_
  refine go_stC (pc' := 358) (i := 2) (x' := r11) (vs' := [(.int r3), (.int r7), (.int r11), (.int (0 : Int32)), (.int (0 : Int32)), (.int (0 : Int32)), (.int (0 : Int32)), (.int (0 : Int32)), (.int (0 : Int32)), (.int (0 : Int32)), (.int (0 : Int32))]) A68 (Nat.le_trans O0.2.1 (Nat.le_trans K65.1 (Nat.le_of_eq g58))) (by decide) (by decide) rfl (Nat.le_of_ble_eq_true rfl) (i2c_c8 f12) rfl (hb hby d14_357) rfl (fun h69 W70 A71 => ?_)
  refine go_dup (pc' := 359) (hb hby d14_358) rfl rfl ?_
  refine go_iconst (pc' := 360) (v := 3) (hb hby d14_359) rfl rfl ?_
  refine go_iload (pc' := 362) (hb hby d14_360) rfl rfl ?_
  refine go_stC (pc' := 363) (i := 3) (x' := r15) (vs' := [(.int r3), (.int r7), (.int r11), (.int r15), (.int (0 : Int32)), (.int (0 : Int32)), (.int (0 : Int32)), (.int (0 : Int32)), (.int (0 : Int32)), (.int (0 : Int32)), (.int (0 : Int32))]) A71 (Nat.le_trans O0.2.1 (Nat.le_trans K65.1 (Nat.le_of_eq g58))) (by decide) (by decide) rfl (Nat.le_of_ble_eq_true rfl) (i2c_c8 f16) rfl (hb hby d14_362) rfl (fun h72 W73 A74 => ?_)
  refine go_dup (pc' := 364) (hb hby d14_363) rfl rfl ?_
  refine go_iconst (pc' := 365) (v := 4) (hb hby d14_364) rfl rfl ?_
  refine go_iload (pc' := 367) (hb hby d14_365) rfl rfl ?_
  refine go_stC (pc' := 368) (i := 4) (x' := r19) (vs' := [(.int r3), (.int r7), (.int r11), (.int r15), (.int r19), (.int (0 : Int32)), (.int (0 : Int32)), (.int (0 : Int32)), (.int (0 : Int32)), (.int (0 : Int32)), (.int (0 : Int32))]) A74 (Nat.le_trans O0.2.1 (Nat.le_trans K65.1 (Nat.le_of_eq g58))) (by decide) (by decide) rfl (Nat.le_of_ble_eq_true rfl) (i2c_c8 f20) rfl (hb hby d14_367) rfl (fun h75 W76 A77 => ?_)
  refine go_dup (pc' := 369) (hb hby d14_368) rfl rfl ?_
  refine go_iconst (pc' := 370) (v := 5) (hb hby d14_369) rfl rfl ?_
  refine go_iload (pc' := 372) (hb hby d14_370) rfl rfl ?_
  refine go_stC (pc' := 373) (i := 5) (x' := r23) (vs' := [(.int r3), (.int r7), (.int r11), (.int r15), (.int r19), (.int r23), (.int (0 : Int32)), (.int (0 : Int32)), (.int (0 : Int32)), (.int (0 : Int32)), (.int (0 : Int32))]) A77 (Nat.le_trans O0.2.1 (Nat.le_trans K65.1 (Nat.le_of_eq g58))) (by decide) (by decide) rfl (Nat.le_of_ble_eq_true rfl) (i2c_c8 f24) rfl (hb hby d14_372) rfl (fun h78 W79 A80 => ?_)
  refine go_dup (pc' := 374) (hb hby d14_373) rfl rfl ?_
  refine go_bipush (pc' := 376) (v := 6) (hb hby d14_374) rfl rfl ?_
  refine go_iload (pc' := 378) (hb hby d14_376) rfl rfl ?_
  refine go_stC (pc' := 379) (i := 6) (x' := r27) (vs' := [(.int r3), (.int r7), (.int r11), (.int r15), (.int r19), (.int r23), (.int r27), (.int (0 : Int32)), (.int (0 : Int32)), (.int (0 : Int32)), (.int (0 : Int32))]) A80 (Nat.le_trans O0.2.1 (Nat.le_trans K65.1 (Nat.le_of_eq g58))) (by decide) (by decide) rfl (Nat.le_of_ble_eq_true rfl) (i2c_c8 f28) rfl (hb hby d14_378) rfl (fun h81 W82 A83 => ?_)
  refine go_dup (pc' := 380) (hb hby d14_379) rfl rfl ?_
  refine go_bipush (pc' := 382) (v := 7) (hb hby d14_380) rfl rfl ?_
  refine go_iload (pc' := 384) (hb hby d14_382) rfl rfl ?_
  refine go_stC (pc' := 385) (i := 7) (x' := r31) (vs' := [(.int r3), (.int r7), (.int r11), (.int r15), (.int r19), (.int r23), (.int r27), (.int r31), (.int (0 : Int32)), (.int (0 : Int32)), (.int (0 : Int32))]) A83 (Nat.le_trans O0.2.1 (Nat.le_trans K65.1 (Nat.le_of_eq g58))) (by decide) (by decide) rfl (Nat.le_of_ble_eq_true rfl) (i2c_c8 f32) rfl (hb hby d14_384) rfl (fun h84 W85 A86 => ?_)
  refine go_dup (pc' := 386) (hb hby d14_385) rfl rfl ?_
  refine go_bipush (pc' := 388) (v := 8) (hb hby d14_386) rfl rfl ?_
  refine go_iload (pc' := 390) (hb hby d14_388) rfl rfl ?_
  refine go_stC (pc' := 391) (i := 8) (x' := r35) (vs' := [(.int r3), (.int r7), (.int r11), (.int r15), (.int r19), (.int r23), (.int r27), (.int r31), (.int r35), (.int (0 : Int32)), (.int (0 : Int32))]) A86 (Nat.le_trans O0.2.1 (Nat.le_trans K65.1 (Nat.le_of_eq g58))) (by decide) (by decide) rfl (Nat.le_of_ble_eq_true rfl) (i2c_c8 f36) rfl (hb hby d14_390) rfl (fun h87 W88 A89 => ?_)
  refine go_dup (pc' := 392) (hb hby d14_391) rfl rfl ?_
  refine go_bipush (pc' := 394) (v := 9) (hb hby d14_392) rfl rfl ?_
  refine go_iload (pc' := 396) (hb hby d14_394) rfl rfl ?_
  refine go_stC (pc' := 397) (i := 9) (x' := r39) (vs' := [(.int r3), (.int r7), (.int r11), (.int r15), (.int r19), (.int r23), (.int r27), (.int r31), (.int r35), (.int r39), (.int (0 : Int32))]) A89 (Nat.le_trans O0.2.1 (Nat.le_trans K65.1 (Nat.le_of_eq g58))) (by decide) (by decide) rfl (Nat.le_of_ble_eq_true rfl) (i2c_c8 f40) rfl (hb hby d14_396) rfl (fun h90 W91 A92 => ?_)
  refine go_dup (pc' := 398) (hb hby d14_397) rfl rfl ?_
  refine go_bipush (pc' := 400) (v := 10) (hb hby d14_398) rfl rfl ?_
  refine go_iload (pc' := 402) (hb hby d14_400) rfl rfl ?_
  refine go_stC (pc' := 403) (i := 10) (x' := r43) (vs' := [(.int r3), (.int r7), (.int r11), (.int r15), (.int r19), (.int r23), (.int r27), (.int r31), (.int r35), (.int r39), (.int r43)]) A92 (Nat.le_trans O0.2.1 (Nat.le_trans K65.1 (Nat.le_of_eq g58))) (by decide) (by decide) rfl (Nat.le_of_ble_eq_true rfl) (i2c_c8 f44) rfl (hb hby d14_402) rfl (fun h93 W94 A95 => ?_)
  have K96 : Keep h49 h56 [] := ((Keep.refl h49 []).ext X59)
  have K97 : Keep h49 h62 [] := (K96.wr W63 (Or.inr (Nat.le_of_eq g58)))
  have K98 : Keep h49 h66 [] := (K97.wr W67 (Or.inr (Nat.le_of_eq g58)))
  have K99 : Keep h49 h69 [] := (K98.wr W70 (Or.inr (Nat.le_of_eq g58)))
  have K100 : Keep h49 h72 [] := (K99.wr W73 (Or.inr (Nat.le_of_eq g58)))
  have K101 : Keep h49 h75 [] := (K100.wr W76 (Or.inr (Nat.le_of_eq g58)))
  have K102 : Keep h49 h78 [] := (K101.wr W79 (Or.inr (Nat.le_of_eq g58)))
  have K103 : Keep h49 h81 [] := (K102.wr W82 (Or.inr (Nat.le_of_eq g58)))
  have K104 : Keep h49 h84 [] := (K103.wr W85 (Or.inr (Nat.le_of_eq g58)))
  have K105 : Keep h49 h87 [] := (K104.wr W88 (Or.inr (Nat.le_of_eq g58)))
  have K106 : Keep h49 h90 [] := (K105.wr W91 (Or.inr (Nat.le_of_eq g58)))
  have K107 : Keep h49 h93 [] := (K106.wr W94 (Or.inr (Nat.le_of_eq g58)))
  have E108 := (E53.keep K107)
  have F109 := D54 (Or.inr (wk G 9 rfl)) (ty := (.array .byte)) (by decide)
  have F110 := (F109.keep K107 nin0)
  have F111 := D54 (Or.inr (wk G 10 rfl)) (ty := .byte) (by decide)
  have F112 := (F111.keep K107 nin0)
  refine go_old (fun O113 => ?_)
  refine callI0 (cells' := 3) (slots' := 26) (Wd := 1) (argsL := [(.ref a57)]) (rest := [(.ref a50)]) (pay_new G O113 (cs := [r3, r7, r11, r15, r19, r23, r27, r31, r35, r39, r43]) (n := 11) (Nat.le_trans O0.2.1 (Nat.le_of_eq g51)) E108 F110 F112 A95 rfl rfl (by decide) (by decide) (c8c f4 (c8c f8 (c8c f12 (c8c f16 (c8c f20 (c8c f24 (c8c f28 (c8c f32 (c8c f36 (c8c f40 (c8c f44 c8n))))))))))) (by decide) (by decide)) rfl (wk G 113 rfl) (wk G 114 rfl) (wk G 115 rfl) (by decide) pd10 rfl rfl (by rw [hml]; rfl) (Nat.le_of_ble_eq_true rfl) rfl rfl (by decide) (by decide) (allS (Nat.le_trans O0.2.1 (Nat.le_of_eq g51)) all0) (fun _ hal => (sfS safe_nil sf0)) (hb hby d14_403) (k_n (pc' := 406) rfl ?_)
  rintro h114 S116 K115
  have K117 : Keep h0 h56 [] := (K65.ext X59)
  have K118 : Keep h0 h62 [] := (K117.wr W63 (Or.inr (Nat.le_trans K65.1 (Nat.le_of_eq g58))))
  have K119 : Keep h0 h66 [] := (K118.wr W67 (Or.inr (Nat.le_trans K65.1 (Nat.le_of_eq g58))))
  have K120 : Keep h0 h69 [] := (K119.wr W70 (Or.inr (Nat.le_trans K65.1 (Nat.le_of_eq g58))))
  have K121 : Keep h0 h72 [] := (K120.wr W73 (Or.inr (Nat.le_trans K65.1 (Nat.le_of_eq g58))))
  have K122 : Keep h0 h75 [] := (K121.wr W76 (Or.inr (Nat.le_trans K65.1 (Nat.le_of_eq g58))))
  have K123 : Keep h0 h78 [] := (K122.wr W79 (Or.inr (Nat.le_trans K65.1 (Nat.le_of_eq g58))))
  have K124 : Keep h0 h81 [] := (K123.wr W82 (Or.inr (Nat.le_trans K65.1 (Nat.le_of_eq g58))))
  have K125 : Keep h0 h84 [] := (K124.wr W85 (Or.inr (Nat.le_trans K65.1 (Nat.le_of_eq g58))))
  have K126 : Keep h0 h87 [] := (K125.wr W88 (Or.inr (Nat.le_trans K65.1 (Nat.le_of_eq g58))))
  have K127 : Keep h0 h90 [] := (K126.wr W91 (Or.inr (Nat.le_trans K65.1 (Nat.le_of_eq g58))))
  have K128 : Keep h0 h93 [] := (K127.wr W94 (Or.inr (Nat.le_trans K65.1 (Nat.le_of_eq g58))))
  have K129 : Keep h0 h114 [] := (K128.trans K115 (allS (Or.inr (Nat.le_of_eq g51)) all0))
  refine go_areturn hret hlk rfl rfl (hb hby d14_406) (by decide) (by decide) ⟨_, rfl, ⟨a50, [r3, r7, r11, r15, r19, r23, r27, r31, r35, r39, r43], rfl, (Nat.le_of_eq g51), S116⟩⟩ K129
theorem ef_edit11_12 (m : MethodId) (a : Addr) (q : Int32) (u : Int32)  : entryFrame m #[(.ref a), (.int (12 : Int32)), (.int q), (.int u)] 16 = mkF m 0 #[.val (.ref a), .val (.int (12 : Int32)), .val (.int q), .val (.int u), .unset, .unset, .unset, .unset, .unset, .unset, .unset, .unset, .unset, .unset, .unset, .unset] [] := by first | (simp [entryFrame, mkF, argsToLocals, Value.category]; done) | rfl
def Q_edit11_12 (Z : State) (a : Addr) (q : Int32) (u : Int32) (c0 : Int32) (c1 : Int32) (c2 : Int32) (c3 : Int32) (c4 : Int32) (c5 : Int32) (c6 : Int32) (c7 : Int32) (c8 : Int32) (c9 : Int32) (c10 : Int32) (h0 : Heap) (xv : Value) (h : Heap) : Prop := ∃ (r : Addr) (ds : List Int32), (.ref r) = xv ∧ h0.size ≤ r ∧ Str Z h r ds
set_option maxRecDepth 65536 in
set_option maxHeartbeats 40000000 in
theorem c_edit11_12 (l : Launch) {Z : State} {a0 : Array Value} (G : GH Z a0) (a : Addr) (q : Int32) (u : Int32) (c0 : Int32) (c1 : Int32) (c2 : Int32) (c3 : Int32) (c4 : Int32) (c5 : Int32) (c6 : Int32) (c7 : Int32) (c8 : Int32) (c9 : Int32) (c10 : Int32) (h0 : Heap) (O0 : Old Z Z.heap.size h0) (p1 : C8 u) (p2 : Str Z h0 a [c0, c1, c2, c3, c4, c5, c6, c7, c8, c9, c10]) : Con false [] l Z (⟨"com/example/ispol/ispol/walls/TransparencyOfPinLaw", "edit", "(Ljava/lang/String;IIC)Ljava/lang/String;"⟩ : MethodName) method_7_code 16 (some (.object "java/lang/String")) [] ({ frames := 5, cells := 3, slots := 28, locals := 68 } : Room) #[(.ref a), (.int (12 : Int32)), (.int q), (.int u)] h0 [] (rvl (Q_edit11_12 Z a q u c0 c1 c2 c3 c4 c5 c6 c7 c8 c9 c10 h0)) := by
  refine con_of (a0 := a0) (plainFor_of_name pn4) (fun q => rfl) EW.nil O0 (fun m => ef_edit11_12 m a q u) ?_
  intro p_ e_ s_ m_ below_ meth_ c_ hby hml hret hlk hnm
  refine go_aload_n (pc' := 1) (hb hby d14_0) rfl rfl rfl ?_
  refine go_iconst (pc' := 2) (v := 0) (hb hby d14_1) rfl rfl ?_
  refine go_iload_n (pc' := 3) (hb hby d14_2) rfl rfl ?_
  refine go_iload_n (pc' := 4) (hb hby d14_3) rfl rfl ?_
  refine callS0 (cells' := 0) (slots' := 0) (Wd := 0) (argsL := [(.ref a), (.int (0 : Int32)), (.int q), (.int u)]) (rest := []) (pay_of (a0 := a0) (c_at11_0 l G a q u c0 c1 c2 c3 c4 c5 c6 c7 c8 c9 c10 h0 O0 p1 p2) (wk G 89 rfl) (wk G 3 rfl) (by decide) (by decide)) (wk G 87 rfl) (wk G 88 rfl) (wk G 3 rfl) (wk G 89 rfl) (by decide) pd9 rfl rfl (by rw [hml]; rfl) (Nat.le_of_ble_eq_true rfl) rfl rfl (by decide) (by decide) all0 (fun _ _ => sf0) (hb hby d14_4) (k_v (pc' := 7) rfl ?_)
  rintro _ h1 ⟨r3, rfl, rfl, f4⟩ K2
  refine go_istore (pc' := 9) (ls' := #[.val (.ref a), .val (.int (12 : Int32)), .val (.int q), .val (.int u), .val (.int r3), .unset, .unset, .unset, .unset, .unset, .unset, .unset, .unset, .unset, .unset, .unset]) (hb hby d14_7) rfl rfl ?_
  refine go_aload_n (pc' := 10) (hb hby d14_9) rfl rfl rfl ?_
  refine go_iconst (pc' := 11) (v := 1) (hb hby d14_10) rfl rfl ?_
  refine go_iload_n (pc' := 12) (hb hby d14_11) rfl rfl ?_
  refine go_iload_n (pc' := 13) (hb hby d14_12) rfl rfl ?_
  refine callS0 (cells' := 0) (slots' := 0) (Wd := 0) (argsL := [(.ref a), (.int (1 : Int32)), (.int q), (.int u)]) (rest := []) (pay_of (a0 := a0) (c_at11_1 l G a q u c0 c1 c2 c3 c4 c5 c6 c7 c8 c9 c10 h0 O0 p1 p2) (wk G 89 rfl) (wk G 3 rfl) (by decide) (by decide)) (wk G 87 rfl) (wk G 88 rfl) (wk G 3 rfl) (wk G 89 rfl) (by decide) pd9 rfl rfl (by rw [hml]; rfl) (Nat.le_of_ble_eq_true rfl) rfl rfl (by decide) (by decide) all0 (fun _ _ => sf0) (hb hby d14_13) (k_v (pc' := 16) rfl ?_)
  rintro _ h5 ⟨r7, rfl, rfl, f8⟩ K6
  refine go_istore (pc' := 18) (ls' := #[.val (.ref a), .val (.int (12 : Int32)), .val (.int q), .val (.int u), .val (.int r3), .val (.int r7), .unset, .unset, .unset, .unset, .unset, .unset, .unset, .unset, .unset, .unset]) (hb hby d14_16) rfl rfl ?_
  refine go_aload_n (pc' := 19) (hb hby d14_18) rfl rfl rfl ?_
  refine go_iconst (pc' := 20) (v := 2) (hb hby d14_19) rfl rfl ?_
  refine go_iload_n (pc' := 21) (hb hby d14_20) rfl rfl ?_
  refine go_iload_n (pc' := 22) (hb hby d14_21) rfl rfl ?_
  refine callS0 (cells' := 0) (slots' := 0) (Wd := 0) (argsL := [(.ref a), (.int (2 : Int32)), (.int q), (.int u)]) (rest := []) (pay_of (a0 := a0) (c_at11_2 l G a q u c0 c1 c2 c3 c4 c5 c6 c7 c8 c9 c10 h0 O0 p1 p2) (wk G 89 rfl) (wk G 3 rfl) (by decide) (by decide)) (wk G 87 rfl) (wk G 88 rfl) (wk G 3 rfl) (wk G 89 rfl) (by decide) pd9 rfl rfl (by rw [hml]; rfl) (Nat.le_of_ble_eq_true rfl) rfl rfl (by decide) (by decide) all0 (fun _ _ => sf0) (hb hby d14_22) (k_v (pc' := 25) rfl ?_)
  rintro _ h9 ⟨r11, rfl, rfl, f12⟩ K10
  refine go_istore (pc' := 27) (ls' := #[.val (.ref a), .val (.int (12 : Int32)), .val (.int q), .val (.int u), .val (.int r3), .val (.int r7), .val (.int r11), .unset, .unset, .unset, .unset, .unset, .unset, .unset, .unset, .unset]) (hb hby d14_25) rfl rfl ?_
  refine go_aload_n (pc' := 28) (hb hby d14_27) rfl rfl rfl ?_
  refine go_iconst (pc' := 29) (v := 3) (hb hby d14_28) rfl rfl ?_
  refine go_iload_n (pc' := 30) (hb hby d14_29) rfl rfl ?_
  refine go_iload_n (pc' := 31) (hb hby d14_30) rfl rfl ?_
  refine callS0 (cells' := 0) (slots' := 0) (Wd := 0) (argsL := [(.ref a), (.int (3 : Int32)), (.int q), (.int u)]) (rest := []) (pay_of (a0 := a0) (c_at11_3 l G a q u c0 c1 c2 c3 c4 c5 c6 c7 c8 c9 c10 h0 O0 p1 p2) (wk G 89 rfl) (wk G 3 rfl) (by decide) (by decide)) (wk G 87 rfl) (wk G 88 rfl) (wk G 3 rfl) (wk G 89 rfl) (by decide) pd9 rfl rfl (by rw [hml]; rfl) (Nat.le_of_ble_eq_true rfl) rfl rfl (by decide) (by decide) all0 (fun _ _ => sf0) (hb hby d14_31) (k_v (pc' := 34) rfl ?_)
  rintro _ h13 ⟨r15, rfl, rfl, f16⟩ K14
  refine go_istore (pc' := 36) (ls' := #[.val (.ref a), .val (.int (12 : Int32)), .val (.int q), .val (.int u), .val (.int r3), .val (.int r7), .val (.int r11), .val (.int r15), .unset, .unset, .unset, .unset, .unset, .unset, .unset, .unset]) (hb hby d14_34) rfl rfl ?_
  refine go_aload_n (pc' := 37) (hb hby d14_36) rfl rfl rfl ?_
  refine go_iconst (pc' := 38) (v := 4) (hb hby d14_37) rfl rfl ?_
  refine go_iload_n (pc' := 39) (hb hby d14_38) rfl rfl ?_
  refine go_iload_n (pc' := 40) (hb hby d14_39) rfl rfl ?_
  refine callS0 (cells' := 0) (slots' := 0) (Wd := 0) (argsL := [(.ref a), (.int (4 : Int32)), (.int q), (.int u)]) (rest := []) (pay_of (a0 := a0) (c_at11_4 l G a q u c0 c1 c2 c3 c4 c5 c6 c7 c8 c9 c10 h0 O0 p1 p2) (wk G 89 rfl) (wk G 3 rfl) (by decide) (by decide)) (wk G 87 rfl) (wk G 88 rfl) (wk G 3 rfl) (wk G 89 rfl) (by decide) pd9 rfl rfl (by rw [hml]; rfl) (Nat.le_of_ble_eq_true rfl) rfl rfl (by decide) (by decide) all0 (fun _ _ => sf0) (hb hby d14_40) (k_v (pc' := 43) rfl ?_)
  rintro _ h17 ⟨r19, rfl, rfl, f20⟩ K18
  refine go_istore (pc' := 45) (ls' := #[.val (.ref a), .val (.int (12 : Int32)), .val (.int q), .val (.int u), .val (.int r3), .val (.int r7), .val (.int r11), .val (.int r15), .val (.int r19), .unset, .unset, .unset, .unset, .unset, .unset, .unset]) (hb hby d14_43) rfl rfl ?_
  refine go_aload_n (pc' := 46) (hb hby d14_45) rfl rfl rfl ?_
  refine go_iconst (pc' := 47) (v := 5) (hb hby d14_46) rfl rfl ?_
  refine go_iload_n (pc' := 48) (hb hby d14_47) rfl rfl ?_
  refine go_iload_n (pc' := 49) (hb hby d14_48) rfl rfl ?_
  refine callS0 (cells' := 0) (slots' := 0) (Wd := 0) (argsL := [(.ref a), (.int (5 : Int32)), (.int q), (.int u)]) (rest := []) (pay_of (a0 := a0) (c_at11_5 l G a q u c0 c1 c2 c3 c4 c5 c6 c7 c8 c9 c10 h0 O0 p1 p2) (wk G 89 rfl) (wk G 3 rfl) (by decide) (by decide)) (wk G 87 rfl) (wk G 88 rfl) (wk G 3 rfl) (wk G 89 rfl) (by decide) pd9 rfl rfl (by rw [hml]; rfl) (Nat.le_of_ble_eq_true rfl) rfl rfl (by decide) (by decide) all0 (fun _ _ => sf0) (hb hby d14_49) (k_v (pc' := 52) rfl ?_)
  rintro _ h21 ⟨r23, rfl, rfl, f24⟩ K22
  refine go_istore (pc' := 54) (ls' := #[.val (.ref a), .val (.int (12 : Int32)), .val (.int q), .val (.int u), .val (.int r3), .val (.int r7), .val (.int r11), .val (.int r15), .val (.int r19), .val (.int r23), .unset, .unset, .unset, .unset, .unset, .unset]) (hb hby d14_52) rfl rfl ?_
  refine go_aload_n (pc' := 55) (hb hby d14_54) rfl rfl rfl ?_
  refine go_bipush (pc' := 57) (v := 6) (hb hby d14_55) rfl rfl ?_
  refine go_iload_n (pc' := 58) (hb hby d14_57) rfl rfl ?_
  refine go_iload_n (pc' := 59) (hb hby d14_58) rfl rfl ?_
  refine callS0 (cells' := 0) (slots' := 0) (Wd := 0) (argsL := [(.ref a), (.int (6 : Int32)), (.int q), (.int u)]) (rest := []) (pay_of (a0 := a0) (c_at11_6 l G a q u c0 c1 c2 c3 c4 c5 c6 c7 c8 c9 c10 h0 O0 p1 p2) (wk G 89 rfl) (wk G 3 rfl) (by decide) (by decide)) (wk G 87 rfl) (wk G 88 rfl) (wk G 3 rfl) (wk G 89 rfl) (by decide) pd9 rfl rfl (by rw [hml]; rfl) (Nat.le_of_ble_eq_true rfl) rfl rfl (by decide) (by decide) all0 (fun _ _ => sf0) (hb hby d14_59) (k_v (pc' := 62) rfl ?_)
  rintro _ h25 ⟨r27, rfl, rfl, f28⟩ K26
  refine go_istore (pc' := 64) (ls' := #[.val (.ref a), .val (.int (12 : Int32)), .val (.int q), .val (.int u), .val (.int r3), .val (.int r7), .val (.int r11), .val (.int r15), .val (.int r19), .val (.int r23), .val (.int r27), .unset, .unset, .unset, .unset, .unset]) (hb hby d14_62) rfl rfl ?_
  refine go_aload_n (pc' := 65) (hb hby d14_64) rfl rfl rfl ?_
  refine go_bipush (pc' := 67) (v := 7) (hb hby d14_65) rfl rfl ?_
  refine go_iload_n (pc' := 68) (hb hby d14_67) rfl rfl ?_
  refine go_iload_n (pc' := 69) (hb hby d14_68) rfl rfl ?_
  refine callS0 (cells' := 0) (slots' := 0) (Wd := 0) (argsL := [(.ref a), (.int (7 : Int32)), (.int q), (.int u)]) (rest := []) (pay_of (a0 := a0) (c_at11_7 l G a q u c0 c1 c2 c3 c4 c5 c6 c7 c8 c9 c10 h0 O0 p1 p2) (wk G 89 rfl) (wk G 3 rfl) (by decide) (by decide)) (wk G 87 rfl) (wk G 88 rfl) (wk G 3 rfl) (wk G 89 rfl) (by decide) pd9 rfl rfl (by rw [hml]; rfl) (Nat.le_of_ble_eq_true rfl) rfl rfl (by decide) (by decide) all0 (fun _ _ => sf0) (hb hby d14_69) (k_v (pc' := 72) rfl ?_)
  rintro _ h29 ⟨r31, rfl, rfl, f32⟩ K30
  refine go_istore (pc' := 74) (ls' := #[.val (.ref a), .val (.int (12 : Int32)), .val (.int q), .val (.int u), .val (.int r3), .val (.int r7), .val (.int r11), .val (.int r15), .val (.int r19), .val (.int r23), .val (.int r27), .val (.int r31), .unset, .unset, .unset, .unset]) (hb hby d14_72) rfl rfl ?_
  refine go_aload_n (pc' := 75) (hb hby d14_74) rfl rfl rfl ?_
  refine go_bipush (pc' := 77) (v := 8) (hb hby d14_75) rfl rfl ?_
  refine go_iload_n (pc' := 78) (hb hby d14_77) rfl rfl ?_
  refine go_iload_n (pc' := 79) (hb hby d14_78) rfl rfl ?_
  refine callS0 (cells' := 0) (slots' := 0) (Wd := 0) (argsL := [(.ref a), (.int (8 : Int32)), (.int q), (.int u)]) (rest := []) (pay_of (a0 := a0) (c_at11_8 l G a q u c0 c1 c2 c3 c4 c5 c6 c7 c8 c9 c10 h0 O0 p1 p2) (wk G 89 rfl) (wk G 3 rfl) (by decide) (by decide)) (wk G 87 rfl) (wk G 88 rfl) (wk G 3 rfl) (wk G 89 rfl) (by decide) pd9 rfl rfl (by rw [hml]; rfl) (Nat.le_of_ble_eq_true rfl) rfl rfl (by decide) (by decide) all0 (fun _ _ => sf0) (hb hby d14_79) (k_v (pc' := 82) rfl ?_)
  rintro _ h33 ⟨r35, rfl, rfl, f36⟩ K34
  refine go_istore (pc' := 84) (ls' := #[.val (.ref a), .val (.int (12 : Int32)), .val (.int q), .val (.int u), .val (.int r3), .val (.int r7), .val (.int r11), .val (.int r15), .val (.int r19), .val (.int r23), .val (.int r27), .val (.int r31), .val (.int r35), .unset, .unset, .unset]) (hb hby d14_82) rfl rfl ?_
  refine go_aload_n (pc' := 85) (hb hby d14_84) rfl rfl rfl ?_
  refine go_bipush (pc' := 87) (v := 9) (hb hby d14_85) rfl rfl ?_
  refine go_iload_n (pc' := 88) (hb hby d14_87) rfl rfl ?_
  refine go_iload_n (pc' := 89) (hb hby d14_88) rfl rfl ?_
  refine callS0 (cells' := 0) (slots' := 0) (Wd := 0) (argsL := [(.ref a), (.int (9 : Int32)), (.int q), (.int u)]) (rest := []) (pay_of (a0 := a0) (c_at11_9 l G a q u c0 c1 c2 c3 c4 c5 c6 c7 c8 c9 c10 h0 O0 p1 p2) (wk G 89 rfl) (wk G 3 rfl) (by decide) (by decide)) (wk G 87 rfl) (wk G 88 rfl) (wk G 3 rfl) (wk G 89 rfl) (by decide) pd9 rfl rfl (by rw [hml]; rfl) (Nat.le_of_ble_eq_true rfl) rfl rfl (by decide) (by decide) all0 (fun _ _ => sf0) (hb hby d14_89) (k_v (pc' := 92) rfl ?_)
  rintro _ h37 ⟨r39, rfl, rfl, f40⟩ K38
  refine go_istore (pc' := 94) (ls' := #[.val (.ref a), .val (.int (12 : Int32)), .val (.int q), .val (.int u), .val (.int r3), .val (.int r7), .val (.int r11), .val (.int r15), .val (.int r19), .val (.int r23), .val (.int r27), .val (.int r31), .val (.int r35), .val (.int r39), .unset, .unset]) (hb hby d14_92) rfl rfl ?_
  refine go_aload_n (pc' := 95) (hb hby d14_94) rfl rfl rfl ?_
  refine go_bipush (pc' := 97) (v := 10) (hb hby d14_95) rfl rfl ?_
  refine go_iload_n (pc' := 98) (hb hby d14_97) rfl rfl ?_
  refine go_iload_n (pc' := 99) (hb hby d14_98) rfl rfl ?_
  refine callS0 (cells' := 0) (slots' := 0) (Wd := 0) (argsL := [(.ref a), (.int (10 : Int32)), (.int q), (.int u)]) (rest := []) (pay_of (a0 := a0) (c_at11_10 l G a q u c0 c1 c2 c3 c4 c5 c6 c7 c8 c9 c10 h0 O0 p1 p2) (wk G 89 rfl) (wk G 3 rfl) (by decide) (by decide)) (wk G 87 rfl) (wk G 88 rfl) (wk G 3 rfl) (wk G 89 rfl) (by decide) pd9 rfl rfl (by rw [hml]; rfl) (Nat.le_of_ble_eq_true rfl) rfl rfl (by decide) (by decide) all0 (fun _ _ => sf0) (hb hby d14_99) (k_v (pc' := 102) rfl ?_)
  rintro _ h41 ⟨r43, rfl, rfl, f44⟩ K42
  refine go_istore (pc' := 104) (ls' := #[.val (.ref a), .val (.int (12 : Int32)), .val (.int q), .val (.int u), .val (.int r3), .val (.int r7), .val (.int r11), .val (.int r15), .val (.int r19), .val (.int r23), .val (.int r27), .val (.int r31), .val (.int r35), .val (.int r39), .val (.int r43), .unset]) (hb hby d14_102) rfl rfl ?_
  refine go_aload_n (pc' := 105) (hb hby d14_104) rfl rfl rfl ?_
  refine go_bipush (pc' := 107) (v := 11) (hb hby d14_105) rfl rfl ?_
  refine go_iload_n (pc' := 108) (hb hby d14_107) rfl rfl ?_
  refine go_iload_n (pc' := 109) (hb hby d14_108) rfl rfl ?_
  refine callS0 (cells' := 0) (slots' := 0) (Wd := 0) (argsL := [(.ref a), (.int (11 : Int32)), (.int q), (.int u)]) (rest := []) (pay_of (a0 := a0) (c_at11_11 l G a q u c0 c1 c2 c3 c4 c5 c6 c7 c8 c9 c10 h0 O0 p1 p2) (wk G 89 rfl) (wk G 3 rfl) (by decide) (by decide)) (wk G 87 rfl) (wk G 88 rfl) (wk G 3 rfl) (wk G 89 rfl) (by decide) pd9 rfl rfl (by rw [hml]; rfl) (Nat.le_of_ble_eq_true rfl) rfl rfl (by decide) (by decide) all0 (fun _ _ => sf0) (hb hby d14_109) (k_v (pc' := 112) rfl ?_)
  rintro _ h45 ⟨r47, rfl, rfl, f48⟩ K46
  refine go_istore (pc' := 114) (ls' := #[.val (.ref a), .val (.int (12 : Int32)), .val (.int q), .val (.int u), .val (.int r3), .val (.int r7), .val (.int r11), .val (.int r15), .val (.int r19), .val (.int r23), .val (.int r27), .val (.int r31), .val (.int r35), .val (.int r39), .val (.int r43), .val (.int r47)]) (hb hby d14_112) rfl rfl ?_
  refine go_iload_n (pc' := 115) (hb hby d14_114) rfl rfl ?_
  refine go_iconst (pc' := 116) (v := 5) (hb hby d14_115) rfl rfl ?_
  refine go_icT (pc' := 155) (hb hby d14_116) (by decide) rfl (by decide) ?_
  refine go_iload_n (pc' := 156) (hb hby d14_155) rfl rfl ?_
  refine go_bipush (pc' := 158) (v := 6) (hb hby d14_156) rfl rfl ?_
  refine go_icT (pc' := 203) (hb hby d14_158) (by decide) rfl (by decide) ?_
  refine go_iload_n (pc' := 204) (hb hby d14_203) rfl rfl ?_
  refine go_bipush (pc' := 206) (v := 7) (hb hby d14_204) rfl rfl ?_
  refine go_icT (pc' := 257) (hb hby d14_206) (by decide) rfl (by decide) ?_
  refine go_iload_n (pc' := 258) (hb hby d14_257) rfl rfl ?_
  refine go_bipush (pc' := 260) (v := 10) (hb hby d14_258) rfl rfl ?_
  refine go_icT (pc' := 329) (hb hby d14_260) (by decide) rfl (by decide) ?_
  refine go_iload_n (pc' := 330) (hb hby d14_329) rfl rfl ?_
  refine go_bipush (pc' := 332) (v := 11) (hb hby d14_330) rfl rfl ?_
  refine go_icT (pc' := 407) (hb hby d14_332) (by decide) rfl (by decide) ?_
  refine go_newO (pc' := 410) (cells' := 1) (slots' := 4) (wk G 111 rfl) (wk G 7 rfl) (wk G 6 rfl) (hb hby d14_407) rfl rfl rfl (by decide) (by decide) (fun h49 a50 g51 X52 E53 D54 U55 => ?_)
  refine go_dup (pc' := 411) (hb hby d14_410) rfl rfl ?_
  refine go_bipush (pc' := 413) (v := 12) (hb hby d14_411) rfl rfl ?_
  refine go_newP (pc' := 415) (cells' := 2) (slots' := 16) (cap := 12) (vs := [(.int (0 : Int32)), (.int (0 : Int32)), (.int (0 : Int32)), (.int (0 : Int32)), (.int (0 : Int32)), (.int (0 : Int32)), (.int (0 : Int32)), (.int (0 : Int32)), (.int (0 : Int32)), (.int (0 : Int32)), (.int (0 : Int32)), (.int (0 : Int32))]) (ty := .char) (dv := .int 0) (wk G 112 rfl) rfl rfl (hb hby d14_413) rfl (by decide) rfl (by decide) rfl rfl rfl (by decide) (by decide) (fun h56 a57 k61 g58 X59 A60 => ?_)
  refine go_dup (pc' := 416) (hb hby d14_415) rfl rfl ?_
  refine go_iconst (pc' := 417) (v := 0) (hb hby d14_416) rfl rfl ?_
  refine go_iload (pc' := 419) (hb hby d14_417) rfl rfl ?_
  have K65 : Keep h0 h49 [] := ((Keep.refl h0 []).ext X52)
  refine go_stC (pc' := 420) (i := 0) (x' := r3) (vs' := [(.int r3), (.int (0 : Int32)), (.int (0 : Int32)), (.int (0 : Int32)), (.int (0 : Int32)), (.int (0 : Int32)), (.int (0 : Int32)), (.int (0 : Int32)), (.int (0 : Int32)), (.int (0 : Int32)), (.int (0 : Int32)), (.int (0 : Int32))]) A60 (Nat.le_trans O0.2.1 (Nat.le_trans K65.1 (Nat.le_of_eq g58))) (by decide) (by decide) rfl (Nat.le_of_ble_eq_true rfl) (i2c_c8 f4) rfl (hb hby d14_419) rfl (fun h62 W63 A64 => ?_)
  refine go_dup (pc' := 421) (hb hby d14_420) rfl rfl ?_
  refine go_iconst (pc' := 422) (v := 1) (hb hby d14_421) rfl rfl ?_
  refine go_iload (pc' := 424) (hb hby d14_422) rfl rfl ?_
  refine go_stC (pc' := 425) (i := 1) (x' := r7) (vs' := [(.int r3), (.int r7), (.int (0 : Int32)), (.int (0 : Int32)), (.int (0 : Int32)), (.int (0 : Int32)), (.int (0 : Int32)), (.int (0 : Int32)), (.int (0 : Int32)), (.int (0 : Int32)), (.int (0 : Int32)), (.int (0 : Int32))]) A64 (Nat.le_trans O0.2.1 (Nat.le_trans K65.1 (Nat.le_of_eq g58))) (by decide) (by decide) rfl (Nat.le_of_ble_eq_true rfl) (i2c_c8 f8) rfl (hb hby d14_424) rfl (fun h66 W67 A68 => ?_)
  refine go_dup (pc' := 426) (hb hby d14_425) rfl rfl ?_
  refine go_iconst (pc' := 427) (v := 2) (hb hby d14_426) rfl rfl ?_
  refine go_iload (pc' := 429) (hb hby d14_427) rfl rfl ?_
  refine go_stC (pc' := 430) (i := 2) (x' := r11) (vs' := [(.int r3), (.int r7), (.int r11), (.int (0 : Int32)), (.int (0 : Int32)), (.int (0 : Int32)), (.int (0 : Int32)), (.int (0 : Int32)), (.int (0 : Int32)), (.int (0 : Int32)), (.int (0 : Int32)), (.int (0 : Int32))]) A68 (Nat.le_trans O0.2.1 (Nat.le_trans K65.1 (Nat.le_of_eq g58))) (by decide) (by decide) rfl (Nat.le_of_ble_eq_true rfl) (i2c_c8 f12) rfl (hb hby d14_429) rfl (fun h69 W70 A71 => ?_)
  refine go_dup (pc' := 431) (hb hby d14_430) rfl rfl ?_
  refine go_iconst (pc' := 432) (v := 3) (hb hby d14_431) rfl rfl ?_
  refine go_iload (pc' := 434) (hb hby d14_432) rfl rfl ?_
  refine go_stC (pc' := 435) (i := 3) (x' := r15) (vs' := [(.int r3), (.int r7), (.int r11), (.int r15), (.int (0 : Int32)), (.int (0 : Int32)), (.int (0 : Int32)), (.int (0 : Int32)), (.int (0 : Int32)), (.int (0 : Int32)), (.int (0 : Int32)), (.int (0 : Int32))]) A71 (Nat.le_trans O0.2.1 (Nat.le_trans K65.1 (Nat.le_of_eq g58))) (by decide) (by decide) rfl (Nat.le_of_ble_eq_true rfl) (i2c_c8 f16) rfl (hb hby d14_434) rfl (fun h72 W73 A74 => ?_)
  refine go_dup (pc' := 436) (hb hby d14_435) rfl rfl ?_
  refine go_iconst (pc' := 437) (v := 4) (hb hby d14_436) rfl rfl ?_
  refine go_iload (pc' := 439) (hb hby d14_437) rfl rfl ?_
  refine go_stC (pc' := 440) (i := 4) (x' := r19) (vs' := [(.int r3), (.int r7), (.int r11), (.int r15), (.int r19), (.int (0 : Int32)), (.int (0 : Int32)), (.int (0 : Int32)), (.int (0 : Int32)), (.int (0 : Int32)), (.int (0 : Int32)), (.int (0 : Int32))]) A74 (Nat.le_trans O0.2.1 (Nat.le_trans K65.1 (Nat.le_of_eq g58))) (by decide) (by decide) rfl (Nat.le_of_ble_eq_true rfl) (i2c_c8 f20) rfl (hb hby d14_439) rfl (fun h75 W76 A77 => ?_)
  refine go_dup (pc' := 441) (hb hby d14_440) rfl rfl ?_
  refine go_iconst (pc' := 442) (v := 5) (hb hby d14_441) rfl rfl ?_
  refine go_iload (pc' := 444) (hb hby d14_442) rfl rfl ?_
  refine go_stC (pc' := 445) (i := 5) (x' := r23) (vs' := [(.int r3), (.int r7), (.int r11), (.int r15), (.int r19), (.int r23), (.int (0 : Int32)), (.int (0 : Int32)), (.int (0 : Int32)), (.int (0 : Int32)), (.int (0 : Int32)), (.int (0 : Int32))]) A77 (Nat.le_trans O0.2.1 (Nat.le_trans K65.1 (Nat.le_of_eq g58))) (by decide) (by decide) rfl (Nat.le_of_ble_eq_true rfl) (i2c_c8 f24) rfl (hb hby d14_444) rfl (fun h78 W79 A80 => ?_)
  refine go_dup (pc' := 446) (hb hby d14_445) rfl rfl ?_
  refine go_bipush (pc' := 448) (v := 6) (hb hby d14_446) rfl rfl ?_
  refine go_iload (pc' := 450) (hb hby d14_448) rfl rfl ?_
  refine go_stC (pc' := 451) (i := 6) (x' := r27) (vs' := [(.int r3), (.int r7), (.int r11), (.int r15), (.int r19), (.int r23), (.int r27), (.int (0 : Int32)), (.int (0 : Int32)), (.int (0 : Int32)), (.int (0 : Int32)), (.int (0 : Int32))]) A80 (Nat.le_trans O0.2.1 (Nat.le_trans K65.1 (Nat.le_of_eq g58))) (by decide) (by decide) rfl (Nat.le_of_ble_eq_true rfl) (i2c_c8 f28) rfl (hb hby d14_450) rfl (fun h81 W82 A83 => ?_)
  refine go_dup (pc' := 452) (hb hby d14_451) rfl rfl ?_
  refine go_bipush (pc' := 454) (v := 7) (hb hby d14_452) rfl rfl ?_
  refine go_iload (pc' := 456) (hb hby d14_454) rfl rfl ?_
  refine go_stC (pc' := 457) (i := 7) (x' := r31) (vs' := [(.int r3), (.int r7), (.int r11), (.int r15), (.int r19), (.int r23), (.int r27), (.int r31), (.int (0 : Int32)), (.int (0 : Int32)), (.int (0 : Int32)), (.int (0 : Int32))]) A83 (Nat.le_trans O0.2.1 (Nat.le_trans K65.1 (Nat.le_of_eq g58))) (by decide) (by decide) rfl (Nat.le_of_ble_eq_true rfl) (i2c_c8 f32) rfl (hb hby d14_456) rfl (fun h84 W85 A86 => ?_)
  refine go_dup (pc' := 458) (hb hby d14_457) rfl rfl ?_
  refine go_bipush (pc' := 460) (v := 8) (hb hby d14_458) rfl rfl ?_
  refine go_iload (pc' := 462) (hb hby d14_460) rfl rfl ?_
  refine go_stC (pc' := 463) (i := 8) (x' := r35) (vs' := [(.int r3), (.int r7), (.int r11), (.int r15), (.int r19), (.int r23), (.int r27), (.int r31), (.int r35), (.int (0 : Int32)), (.int (0 : Int32)), (.int (0 : Int32))]) A86 (Nat.le_trans O0.2.1 (Nat.le_trans K65.1 (Nat.le_of_eq g58))) (by decide) (by decide) rfl (Nat.le_of_ble_eq_true rfl) (i2c_c8 f36) rfl (hb hby d14_462) rfl (fun h87 W88 A89 => ?_)
  refine go_dup (pc' := 464) (hb hby d14_463) rfl rfl ?_
  refine go_bipush (pc' := 466) (v := 9) (hb hby d14_464) rfl rfl ?_
  refine go_iload (pc' := 468) (hb hby d14_466) rfl rfl ?_
  refine go_stC (pc' := 469) (i := 9) (x' := r39) (vs' := [(.int r3), (.int r7), (.int r11), (.int r15), (.int r19), (.int r23), (.int r27), (.int r31), (.int r35), (.int r39), (.int (0 : Int32)), (.int (0 : Int32))]) A89 (Nat.le_trans O0.2.1 (Nat.le_trans K65.1 (Nat.le_of_eq g58))) (by decide) (by decide) rfl (Nat.le_of_ble_eq_true rfl) (i2c_c8 f40) rfl (hb hby d14_468) rfl (fun h90 W91 A92 => ?_)
  refine go_dup (pc' := 470) (hb hby d14_469) rfl rfl ?_
  refine go_bipush (pc' := 472) (v := 10) (hb hby d14_470) rfl rfl ?_
  refine go_iload (pc' := 474) (hb hby d14_472) rfl rfl ?_
  refine go_stC (pc' := 475) (i := 10) (x' := r43) (vs' := [(.int r3), (.int r7), (.int r11), (.int r15), (.int r19), (.int r23), (.int r27), (.int r31), (.int r35), (.int r39), (.int r43), (.int (0 : Int32))]) A92 (Nat.le_trans O0.2.1 (Nat.le_trans K65.1 (Nat.le_of_eq g58))) (by decide) (by decide) rfl (Nat.le_of_ble_eq_true rfl) (i2c_c8 f44) rfl (hb hby d14_474) rfl (fun h93 W94 A95 => ?_)
  refine go_dup (pc' := 476) (hb hby d14_475) rfl rfl ?_
  refine go_bipush (pc' := 478) (v := 11) (hb hby d14_476) rfl rfl ?_
  refine go_iload (pc' := 480) (hb hby d14_478) rfl rfl ?_
  refine go_stC (pc' := 481) (i := 11) (x' := r47) (vs' := [(.int r3), (.int r7), (.int r11), (.int r15), (.int r19), (.int r23), (.int r27), (.int r31), (.int r35), (.int r39), (.int r43), (.int r47)]) A95 (Nat.le_trans O0.2.1 (Nat.le_trans K65.1 (Nat.le_of_eq g58))) (by decide) (by decide) rfl (Nat.le_of_ble_eq_true rfl) (i2c_c8 f48) rfl (hb hby d14_480) rfl (fun h96 W97 A98 => ?_)
  have K99 : Keep h49 h56 [] := ((Keep.refl h49 []).ext X59)
  have K100 : Keep h49 h62 [] := (K99.wr W63 (Or.inr (Nat.le_of_eq g58)))
  have K101 : Keep h49 h66 [] := (K100.wr W67 (Or.inr (Nat.le_of_eq g58)))
  have K102 : Keep h49 h69 [] := (K101.wr W70 (Or.inr (Nat.le_of_eq g58)))
  have K103 : Keep h49 h72 [] := (K102.wr W73 (Or.inr (Nat.le_of_eq g58)))
  have K104 : Keep h49 h75 [] := (K103.wr W76 (Or.inr (Nat.le_of_eq g58)))
  have K105 : Keep h49 h78 [] := (K104.wr W79 (Or.inr (Nat.le_of_eq g58)))
  have K106 : Keep h49 h81 [] := (K105.wr W82 (Or.inr (Nat.le_of_eq g58)))
  have K107 : Keep h49 h84 [] := (K106.wr W85 (Or.inr (Nat.le_of_eq g58)))
  have K108 : Keep h49 h87 [] := (K107.wr W88 (Or.inr (Nat.le_of_eq g58)))
  have K109 : Keep h49 h90 [] := (K108.wr W91 (Or.inr (Nat.le_of_eq g58)))
  have K110 : Keep h49 h93 [] := (K109.wr W94 (Or.inr (Nat.le_of_eq g58)))
  have K111 : Keep h49 h96 [] := (K110.wr W97 (Or.inr (Nat.le_of_eq g58)))
  have E112 := (E53.keep K111)
  have F113 := D54 (Or.inr (wk G 9 rfl)) (ty := (.array .byte)) (by decide)
  have F114 := (F113.keep K111 nin0)
  have F115 := D54 (Or.inr (wk G 10 rfl)) (ty := .byte) (by decide)
  have F116 := (F115.keep K111 nin0)
  refine go_old (fun O117 => ?_)
  refine callI0 (cells' := 3) (slots' := 28) (Wd := 1) (argsL := [(.ref a57)]) (rest := [(.ref a50)]) (pay_new G O117 (cs := [r3, r7, r11, r15, r19, r23, r27, r31, r35, r39, r43, r47]) (n := 12) (Nat.le_trans O0.2.1 (Nat.le_of_eq g51)) E112 F114 F116 A98 rfl rfl (by decide) (by decide) (c8c f4 (c8c f8 (c8c f12 (c8c f16 (c8c f20 (c8c f24 (c8c f28 (c8c f32 (c8c f36 (c8c f40 (c8c f44 (c8c f48 c8n)))))))))))) (by decide) (by decide)) rfl (wk G 113 rfl) (wk G 114 rfl) (wk G 115 rfl) (by decide) pd10 rfl rfl (by rw [hml]; rfl) (Nat.le_of_ble_eq_true rfl) rfl rfl (by decide) (by decide) (allS (Nat.le_trans O0.2.1 (Nat.le_of_eq g51)) all0) (fun _ hal => (sfS safe_nil sf0)) (hb hby d14_481) (k_n (pc' := 484) rfl ?_)
  rintro h118 S120 K119
  have K121 : Keep h0 h56 [] := (K65.ext X59)
  have K122 : Keep h0 h62 [] := (K121.wr W63 (Or.inr (Nat.le_trans K65.1 (Nat.le_of_eq g58))))
  have K123 : Keep h0 h66 [] := (K122.wr W67 (Or.inr (Nat.le_trans K65.1 (Nat.le_of_eq g58))))
  have K124 : Keep h0 h69 [] := (K123.wr W70 (Or.inr (Nat.le_trans K65.1 (Nat.le_of_eq g58))))
  have K125 : Keep h0 h72 [] := (K124.wr W73 (Or.inr (Nat.le_trans K65.1 (Nat.le_of_eq g58))))
  have K126 : Keep h0 h75 [] := (K125.wr W76 (Or.inr (Nat.le_trans K65.1 (Nat.le_of_eq g58))))
  have K127 : Keep h0 h78 [] := (K126.wr W79 (Or.inr (Nat.le_trans K65.1 (Nat.le_of_eq g58))))
  have K128 : Keep h0 h81 [] := (K127.wr W82 (Or.inr (Nat.le_trans K65.1 (Nat.le_of_eq g58))))
  have K129 : Keep h0 h84 [] := (K128.wr W85 (Or.inr (Nat.le_trans K65.1 (Nat.le_of_eq g58))))
  have K130 : Keep h0 h87 [] := (K129.wr W88 (Or.inr (Nat.le_trans K65.1 (Nat.le_of_eq g58))))
  have K131 : Keep h0 h90 [] := (K130.wr W91 (Or.inr (Nat.le_trans K65.1 (Nat.le_of_eq g58))))
  have K132 : Keep h0 h93 [] := (K131.wr W94 (Or.inr (Nat.le_trans K65.1 (Nat.le_of_eq g58))))
  have K133 : Keep h0 h96 [] := (K132.wr W97 (Or.inr (Nat.le_trans K65.1 (Nat.le_of_eq g58))))
  have K134 : Keep h0 h118 [] := (K133.trans K119 (allS (Or.inr (Nat.le_of_eq g51)) all0))
  refine go_areturn hret hlk rfl rfl (hb hby d14_484) (by decide) (by decide) ⟨_, rfl, ⟨a50, [r3, r7, r11, r15, r19, r23, r27, r31, r35, r39, r43, r47], rfl, (Nat.le_of_eq g51), S120⟩⟩ K134
theorem ef_edit6_5 (m : MethodId) (a : Addr) (q : Int32) (u : Int32)  : entryFrame m #[(.ref a), (.int (5 : Int32)), (.int q), (.int u)] 16 = mkF m 0 #[.val (.ref a), .val (.int (5 : Int32)), .val (.int q), .val (.int u), .unset, .unset, .unset, .unset, .unset, .unset, .unset, .unset, .unset, .unset, .unset, .unset] [] := by first | (simp [entryFrame, mkF, argsToLocals, Value.category]; done) | rfl
def Q_edit6_5 (Z : State) (a : Addr) (q : Int32) (u : Int32) (c0 : Int32) (c1 : Int32) (c2 : Int32) (c3 : Int32) (c4 : Int32) (c5 : Int32) (h0 : Heap) (xv : Value) (h : Heap) : Prop := ∃ (r : Addr) (ds : List Int32), (.ref r) = xv ∧ h0.size ≤ r ∧ Str Z h r ds
set_option maxRecDepth 65536 in
set_option maxHeartbeats 40000000 in
theorem c_edit6_5 (l : Launch) {Z : State} {a0 : Array Value} (G : GH Z a0) (a : Addr) (q : Int32) (u : Int32) (c0 : Int32) (c1 : Int32) (c2 : Int32) (c3 : Int32) (c4 : Int32) (c5 : Int32) (h0 : Heap) (O0 : Old Z Z.heap.size h0) (p1 : C8 u) (p2 : Str Z h0 a [c0, c1, c2, c3, c4, c5]) : Con false [] l Z (⟨"com/example/ispol/ispol/walls/TransparencyOfPinLaw", "edit", "(Ljava/lang/String;IIC)Ljava/lang/String;"⟩ : MethodName) method_7_code 16 (some (.object "java/lang/String")) [] ({ frames := 5, cells := 3, slots := 14, locals := 68 } : Room) #[(.ref a), (.int (5 : Int32)), (.int q), (.int u)] h0 [] (rvl (Q_edit6_5 Z a q u c0 c1 c2 c3 c4 c5 h0)) := by
  refine con_of (a0 := a0) (plainFor_of_name pn4) (fun q => rfl) EW.nil O0 (fun m => ef_edit6_5 m a q u) ?_
  intro p_ e_ s_ m_ below_ meth_ c_ hby hml hret hlk hnm
  refine go_aload_n (pc' := 1) (hb hby d14_0) rfl rfl rfl ?_
  refine go_iconst (pc' := 2) (v := 0) (hb hby d14_1) rfl rfl ?_
  refine go_iload_n (pc' := 3) (hb hby d14_2) rfl rfl ?_
  refine go_iload_n (pc' := 4) (hb hby d14_3) rfl rfl ?_
  refine callS0 (cells' := 0) (slots' := 0) (Wd := 0) (argsL := [(.ref a), (.int (0 : Int32)), (.int q), (.int u)]) (rest := []) (pay_of (a0 := a0) (c_at6_0 l G a q u c0 c1 c2 c3 c4 c5 h0 O0 p1 p2) (wk G 89 rfl) (wk G 3 rfl) (by decide) (by decide)) (wk G 87 rfl) (wk G 88 rfl) (wk G 3 rfl) (wk G 89 rfl) (by decide) pd9 rfl rfl (by rw [hml]; rfl) (Nat.le_of_ble_eq_true rfl) rfl rfl (by decide) (by decide) all0 (fun _ _ => sf0) (hb hby d14_4) (k_v (pc' := 7) rfl ?_)
  rintro _ h1 ⟨r3, rfl, rfl, f4⟩ K2
  refine go_istore (pc' := 9) (ls' := #[.val (.ref a), .val (.int (5 : Int32)), .val (.int q), .val (.int u), .val (.int r3), .unset, .unset, .unset, .unset, .unset, .unset, .unset, .unset, .unset, .unset, .unset]) (hb hby d14_7) rfl rfl ?_
  refine go_aload_n (pc' := 10) (hb hby d14_9) rfl rfl rfl ?_
  refine go_iconst (pc' := 11) (v := 1) (hb hby d14_10) rfl rfl ?_
  refine go_iload_n (pc' := 12) (hb hby d14_11) rfl rfl ?_
  refine go_iload_n (pc' := 13) (hb hby d14_12) rfl rfl ?_
  refine callS0 (cells' := 0) (slots' := 0) (Wd := 0) (argsL := [(.ref a), (.int (1 : Int32)), (.int q), (.int u)]) (rest := []) (pay_of (a0 := a0) (c_at6_1 l G a q u c0 c1 c2 c3 c4 c5 h0 O0 p1 p2) (wk G 89 rfl) (wk G 3 rfl) (by decide) (by decide)) (wk G 87 rfl) (wk G 88 rfl) (wk G 3 rfl) (wk G 89 rfl) (by decide) pd9 rfl rfl (by rw [hml]; rfl) (Nat.le_of_ble_eq_true rfl) rfl rfl (by decide) (by decide) all0 (fun _ _ => sf0) (hb hby d14_13) (k_v (pc' := 16) rfl ?_)
  rintro _ h5 ⟨r7, rfl, rfl, f8⟩ K6
  refine go_istore (pc' := 18) (ls' := #[.val (.ref a), .val (.int (5 : Int32)), .val (.int q), .val (.int u), .val (.int r3), .val (.int r7), .unset, .unset, .unset, .unset, .unset, .unset, .unset, .unset, .unset, .unset]) (hb hby d14_16) rfl rfl ?_
  refine go_aload_n (pc' := 19) (hb hby d14_18) rfl rfl rfl ?_
  refine go_iconst (pc' := 20) (v := 2) (hb hby d14_19) rfl rfl ?_
  refine go_iload_n (pc' := 21) (hb hby d14_20) rfl rfl ?_
  refine go_iload_n (pc' := 22) (hb hby d14_21) rfl rfl ?_
  refine callS0 (cells' := 0) (slots' := 0) (Wd := 0) (argsL := [(.ref a), (.int (2 : Int32)), (.int q), (.int u)]) (rest := []) (pay_of (a0 := a0) (c_at6_2 l G a q u c0 c1 c2 c3 c4 c5 h0 O0 p1 p2) (wk G 89 rfl) (wk G 3 rfl) (by decide) (by decide)) (wk G 87 rfl) (wk G 88 rfl) (wk G 3 rfl) (wk G 89 rfl) (by decide) pd9 rfl rfl (by rw [hml]; rfl) (Nat.le_of_ble_eq_true rfl) rfl rfl (by decide) (by decide) all0 (fun _ _ => sf0) (hb hby d14_22) (k_v (pc' := 25) rfl ?_)
  rintro _ h9 ⟨r11, rfl, rfl, f12⟩ K10
  refine go_istore (pc' := 27) (ls' := #[.val (.ref a), .val (.int (5 : Int32)), .val (.int q), .val (.int u), .val (.int r3), .val (.int r7), .val (.int r11), .unset, .unset, .unset, .unset, .unset, .unset, .unset, .unset, .unset]) (hb hby d14_25) rfl rfl ?_
  refine go_aload_n (pc' := 28) (hb hby d14_27) rfl rfl rfl ?_
  refine go_iconst (pc' := 29) (v := 3) (hb hby d14_28) rfl rfl ?_
  refine go_iload_n (pc' := 30) (hb hby d14_29) rfl rfl ?_
  refine go_iload_n (pc' := 31) (hb hby d14_30) rfl rfl ?_
  refine callS0 (cells' := 0) (slots' := 0) (Wd := 0) (argsL := [(.ref a), (.int (3 : Int32)), (.int q), (.int u)]) (rest := []) (pay_of (a0 := a0) (c_at6_3 l G a q u c0 c1 c2 c3 c4 c5 h0 O0 p1 p2) (wk G 89 rfl) (wk G 3 rfl) (by decide) (by decide)) (wk G 87 rfl) (wk G 88 rfl) (wk G 3 rfl) (wk G 89 rfl) (by decide) pd9 rfl rfl (by rw [hml]; rfl) (Nat.le_of_ble_eq_true rfl) rfl rfl (by decide) (by decide) all0 (fun _ _ => sf0) (hb hby d14_31) (k_v (pc' := 34) rfl ?_)
  rintro _ h13 ⟨r15, rfl, rfl, f16⟩ K14
  refine go_istore (pc' := 36) (ls' := #[.val (.ref a), .val (.int (5 : Int32)), .val (.int q), .val (.int u), .val (.int r3), .val (.int r7), .val (.int r11), .val (.int r15), .unset, .unset, .unset, .unset, .unset, .unset, .unset, .unset]) (hb hby d14_34) rfl rfl ?_
  refine go_aload_n (pc' := 37) (hb hby d14_36) rfl rfl rfl ?_
  refine go_iconst (pc' := 38) (v := 4) (hb hby d14_37) rfl rfl ?_
  refine go_iload_n (pc' := 39) (hb hby d14_38) rfl rfl ?_
  refine go_iload_n (pc' := 40) (hb hby d14_39) rfl rfl ?_
  refine callS0 (cells' := 0) (slots' := 0) (Wd := 0) (argsL := [(.ref a), (.int (4 : Int32)), (.int q), (.int u)]) (rest := []) (pay_of (a0 := a0) (c_at6_4 l G a q u c0 c1 c2 c3 c4 c5 h0 O0 p1 p2) (wk G 89 rfl) (wk G 3 rfl) (by decide) (by decide)) (wk G 87 rfl) (wk G 88 rfl) (wk G 3 rfl) (wk G 89 rfl) (by decide) pd9 rfl rfl (by rw [hml]; rfl) (Nat.le_of_ble_eq_true rfl) rfl rfl (by decide) (by decide) all0 (fun _ _ => sf0) (hb hby d14_40) (k_v (pc' := 43) rfl ?_)
  rintro _ h17 ⟨r19, rfl, rfl, f20⟩ K18
  refine go_istore (pc' := 45) (ls' := #[.val (.ref a), .val (.int (5 : Int32)), .val (.int q), .val (.int u), .val (.int r3), .val (.int r7), .val (.int r11), .val (.int r15), .val (.int r19), .unset, .unset, .unset, .unset, .unset, .unset, .unset]) (hb hby d14_43) rfl rfl ?_
  refine go_aload_n (pc' := 46) (hb hby d14_45) rfl rfl rfl ?_
  refine go_iconst (pc' := 47) (v := 5) (hb hby d14_46) rfl rfl ?_
  refine go_iload_n (pc' := 48) (hb hby d14_47) rfl rfl ?_
  refine go_iload_n (pc' := 49) (hb hby d14_48) rfl rfl ?_
  refine callS0 (cells' := 0) (slots' := 0) (Wd := 0) (argsL := [(.ref a), (.int (5 : Int32)), (.int q), (.int u)]) (rest := []) (pay_of (a0 := a0) (c_at6_5 l G a q u c0 c1 c2 c3 c4 c5 h0 O0 p1 p2) (wk G 89 rfl) (wk G 3 rfl) (by decide) (by decide)) (wk G 87 rfl) (wk G 88 rfl) (wk G 3 rfl) (wk G 89 rfl) (by decide) pd9 rfl rfl (by rw [hml]; rfl) (Nat.le_of_ble_eq_true rfl) rfl rfl (by decide) (by decide) all0 (fun _ _ => sf0) (hb hby d14_49) (k_v (pc' := 52) rfl ?_)
  rintro _ h21 ⟨r23, rfl, rfl, f24⟩ K22
  refine go_istore (pc' := 54) (ls' := #[.val (.ref a), .val (.int (5 : Int32)), .val (.int q), .val (.int u), .val (.int r3), .val (.int r7), .val (.int r11), .val (.int r15), .val (.int r19), .val (.int r23), .unset, .unset, .unset, .unset, .unset, .unset]) (hb hby d14_52) rfl rfl ?_
  refine go_aload_n (pc' := 55) (hb hby d14_54) rfl rfl rfl ?_
  refine go_bipush (pc' := 57) (v := 6) (hb hby d14_55) rfl rfl ?_
  refine go_iload_n (pc' := 58) (hb hby d14_57) rfl rfl ?_
  refine go_iload_n (pc' := 59) (hb hby d14_58) rfl rfl ?_
  refine callS0 (cells' := 0) (slots' := 0) (Wd := 0) (argsL := [(.ref a), (.int (6 : Int32)), (.int q), (.int u)]) (rest := []) (pay_of (a0 := a0) (c_at6_6 l G a q u c0 c1 c2 c3 c4 c5 h0 O0 p1 p2) (wk G 89 rfl) (wk G 3 rfl) (by decide) (by decide)) (wk G 87 rfl) (wk G 88 rfl) (wk G 3 rfl) (wk G 89 rfl) (by decide) pd9 rfl rfl (by rw [hml]; rfl) (Nat.le_of_ble_eq_true rfl) rfl rfl (by decide) (by decide) all0 (fun _ _ => sf0) (hb hby d14_59) (k_v (pc' := 62) rfl ?_)
  rintro _ h25 ⟨r27, rfl, rfl, f28⟩ K26
  refine go_istore (pc' := 64) (ls' := #[.val (.ref a), .val (.int (5 : Int32)), .val (.int q), .val (.int u), .val (.int r3), .val (.int r7), .val (.int r11), .val (.int r15), .val (.int r19), .val (.int r23), .val (.int r27), .unset, .unset, .unset, .unset, .unset]) (hb hby d14_62) rfl rfl ?_
  refine go_aload_n (pc' := 65) (hb hby d14_64) rfl rfl rfl ?_
  refine go_bipush (pc' := 67) (v := 7) (hb hby d14_65) rfl rfl ?_
  refine go_iload_n (pc' := 68) (hb hby d14_67) rfl rfl ?_
  refine go_iload_n (pc' := 69) (hb hby d14_68) rfl rfl ?_
  refine callS0 (cells' := 0) (slots' := 0) (Wd := 0) (argsL := [(.ref a), (.int (7 : Int32)), (.int q), (.int u)]) (rest := []) (pay_of (a0 := a0) (c_at6_7 l G a q u c0 c1 c2 c3 c4 c5 h0 O0 p1 p2) (wk G 89 rfl) (wk G 3 rfl) (by decide) (by decide)) (wk G 87 rfl) (wk G 88 rfl) (wk G 3 rfl) (wk G 89 rfl) (by decide) pd9 rfl rfl (by rw [hml]; rfl) (Nat.le_of_ble_eq_true rfl) rfl rfl (by decide) (by decide) all0 (fun _ _ => sf0) (hb hby d14_69) (k_v (pc' := 72) rfl ?_)
  rintro _ h29 ⟨r31, rfl, rfl, f32⟩ K30
  refine go_istore (pc' := 74) (ls' := #[.val (.ref a), .val (.int (5 : Int32)), .val (.int q), .val (.int u), .val (.int r3), .val (.int r7), .val (.int r11), .val (.int r15), .val (.int r19), .val (.int r23), .val (.int r27), .val (.int r31), .unset, .unset, .unset, .unset]) (hb hby d14_72) rfl rfl ?_
  refine go_aload_n (pc' := 75) (hb hby d14_74) rfl rfl rfl ?_
  refine go_bipush (pc' := 77) (v := 8) (hb hby d14_75) rfl rfl ?_
  refine go_iload_n (pc' := 78) (hb hby d14_77) rfl rfl ?_
  refine go_iload_n (pc' := 79) (hb hby d14_78) rfl rfl ?_
  refine callS0 (cells' := 0) (slots' := 0) (Wd := 0) (argsL := [(.ref a), (.int (8 : Int32)), (.int q), (.int u)]) (rest := []) (pay_of (a0 := a0) (c_at6_8 l G a q u c0 c1 c2 c3 c4 c5 h0 O0 p1 p2) (wk G 89 rfl) (wk G 3 rfl) (by decide) (by decide)) (wk G 87 rfl) (wk G 88 rfl) (wk G 3 rfl) (wk G 89 rfl) (by decide) pd9 rfl rfl (by rw [hml]; rfl) (Nat.le_of_ble_eq_true rfl) rfl rfl (by decide) (by decide) all0 (fun _ _ => sf0) (hb hby d14_79) (k_v (pc' := 82) rfl ?_)
  rintro _ h33 ⟨r35, rfl, rfl, f36⟩ K34
  refine go_istore (pc' := 84) (ls' := #[.val (.ref a), .val (.int (5 : Int32)), .val (.int q), .val (.int u), .val (.int r3), .val (.int r7), .val (.int r11), .val (.int r15), .val (.int r19), .val (.int r23), .val (.int r27), .val (.int r31), .val (.int r35), .unset, .unset, .unset]) (hb hby d14_82) rfl rfl ?_
  refine go_aload_n (pc' := 85) (hb hby d14_84) rfl rfl rfl ?_
  refine go_bipush (pc' := 87) (v := 9) (hb hby d14_85) rfl rfl ?_
  refine go_iload_n (pc' := 88) (hb hby d14_87) rfl rfl ?_
  refine go_iload_n (pc' := 89) (hb hby d14_88) rfl rfl ?_
  refine callS0 (cells' := 0) (slots' := 0) (Wd := 0) (argsL := [(.ref a), (.int (9 : Int32)), (.int q), (.int u)]) (rest := []) (pay_of (a0 := a0) (c_at6_9 l G a q u c0 c1 c2 c3 c4 c5 h0 O0 p1 p2) (wk G 89 rfl) (wk G 3 rfl) (by decide) (by decide)) (wk G 87 rfl) (wk G 88 rfl) (wk G 3 rfl) (wk G 89 rfl) (by decide) pd9 rfl rfl (by rw [hml]; rfl) (Nat.le_of_ble_eq_true rfl) rfl rfl (by decide) (by decide) all0 (fun _ _ => sf0) (hb hby d14_89) (k_v (pc' := 92) rfl ?_)
  rintro _ h37 ⟨r39, rfl, rfl, f40⟩ K38
  refine go_istore (pc' := 94) (ls' := #[.val (.ref a), .val (.int (5 : Int32)), .val (.int q), .val (.int u), .val (.int r3), .val (.int r7), .val (.int r11), .val (.int r15), .val (.int r19), .val (.int r23), .val (.int r27), .val (.int r31), .val (.int r35), .val (.int r39), .unset, .unset]) (hb hby d14_92) rfl rfl ?_
  refine go_aload_n (pc' := 95) (hb hby d14_94) rfl rfl rfl ?_
  refine go_bipush (pc' := 97) (v := 10) (hb hby d14_95) rfl rfl ?_
  refine go_iload_n (pc' := 98) (hb hby d14_97) rfl rfl ?_
  refine go_iload_n (pc' := 99) (hb hby d14_98) rfl rfl ?_
  refine callS0 (cells' := 0) (slots' := 0) (Wd := 0) (argsL := [(.ref a), (.int (10 : Int32)), (.int q), (.int u)]) (rest := []) (pay_of (a0 := a0) (c_at6_10 l G a q u c0 c1 c2 c3 c4 c5 h0 O0 p1 p2) (wk G 89 rfl) (wk G 3 rfl) (by decide) (by decide)) (wk G 87 rfl) (wk G 88 rfl) (wk G 3 rfl) (wk G 89 rfl) (by decide) pd9 rfl rfl (by rw [hml]; rfl) (Nat.le_of_ble_eq_true rfl) rfl rfl (by decide) (by decide) all0 (fun _ _ => sf0) (hb hby d14_99) (k_v (pc' := 102) rfl ?_)
  rintro _ h41 ⟨r43, rfl, rfl, f44⟩ K42
  refine go_istore (pc' := 104) (ls' := #[.val (.ref a), .val (.int (5 : Int32)), .val (.int q), .val (.int u), .val (.int r3), .val (.int r7), .val (.int r11), .val (.int r15), .val (.int r19), .val (.int r23), .val (.int r27), .val (.int r31), .val (.int r35), .val (.int r39), .val (.int r43), .unset]) (hb hby d14_102) rfl rfl ?_
  refine go_aload_n (pc' := 105) (hb hby d14_104) rfl rfl rfl ?_
  refine go_bipush (pc' := 107) (v := 11) (hb hby d14_105) rfl rfl ?_
  refine go_iload_n (pc' := 108) (hb hby d14_107) rfl rfl ?_
  refine go_iload_n (pc' := 109) (hb hby d14_108) rfl rfl ?_
  refine callS0 (cells' := 0) (slots' := 0) (Wd := 0) (argsL := [(.ref a), (.int (11 : Int32)), (.int q), (.int u)]) (rest := []) (pay_of (a0 := a0) (c_at6_11 l G a q u c0 c1 c2 c3 c4 c5 h0 O0 p1 p2) (wk G 89 rfl) (wk G 3 rfl) (by decide) (by decide)) (wk G 87 rfl) (wk G 88 rfl) (wk G 3 rfl) (wk G 89 rfl) (by decide) pd9 rfl rfl (by rw [hml]; rfl) (Nat.le_of_ble_eq_true rfl) rfl rfl (by decide) (by decide) all0 (fun _ _ => sf0) (hb hby d14_109) (k_v (pc' := 112) rfl ?_)
  rintro _ h45 ⟨r47, rfl, rfl, f48⟩ K46
  refine go_istore (pc' := 114) (ls' := #[.val (.ref a), .val (.int (5 : Int32)), .val (.int q), .val (.int u), .val (.int r3), .val (.int r7), .val (.int r11), .val (.int r15), .val (.int r19), .val (.int r23), .val (.int r27), .val (.int r31), .val (.int r35), .val (.int r39), .val (.int r43), .val (.int r47)]) (hb hby d14_112) rfl rfl ?_
  refine go_iload_n (pc' := 115) (hb hby d14_114) rfl rfl ?_
  refine go_iconst (pc' := 116) (v := 5) (hb hby d14_115) rfl rfl ?_
  refine go_icF (pc' := 119) (hb hby d14_116) rfl (by decide) ?_
  refine go_newO (pc' := 122) (cells' := 1) (slots' := 4) (wk G 111 rfl) (wk G 7 rfl) (wk G 6 rfl) (hb hby d14_119) rfl rfl rfl (by decide) (by decide) (fun h49 a50 g51 X52 E53 D54 U55 => ?_)
  refine go_dup (pc' := 123) (hb hby d14_122) rfl rfl ?_
  refine go_iconst (pc' := 124) (v := 5) (hb hby d14_123) rfl rfl ?_
  refine go_newP (pc' := 126) (cells' := 2) (slots' := 9) (cap := 5) (vs := [(.int (0 : Int32)), (.int (0 : Int32)), (.int (0 : Int32)), (.int (0 : Int32)), (.int (0 : Int32))]) (ty := .char) (dv := .int 0) (wk G 112 rfl) rfl rfl (hb hby d14_124) rfl (by decide) rfl (by decide) rfl rfl rfl (by decide) (by decide) (fun h56 a57 k61 g58 X59 A60 => ?_)
  refine go_dup (pc' := 127) (hb hby d14_126) rfl rfl ?_
  refine go_iconst (pc' := 128) (v := 0) (hb hby d14_127) rfl rfl ?_
  refine go_iload (pc' := 130) (hb hby d14_128) rfl rfl ?_
  have K65 : Keep h0 h49 [] := ((Keep.refl h0 []).ext X52)
  refine go_stC (pc' := 131) (i := 0) (x' := r3) (vs' := [(.int r3), (.int (0 : Int32)), (.int (0 : Int32)), (.int (0 : Int32)), (.int (0 : Int32))]) A60 (Nat.le_trans O0.2.1 (Nat.le_trans K65.1 (Nat.le_of_eq g58))) (by decide) (by decide) rfl (Nat.le_of_ble_eq_true rfl) (i2c_c8 f4) rfl (hb hby d14_130) rfl (fun h62 W63 A64 => ?_)
  refine go_dup (pc' := 132) (hb hby d14_131) rfl rfl ?_
  refine go_iconst (pc' := 133) (v := 1) (hb hby d14_132) rfl rfl ?_
  refine go_iload (pc' := 135) (hb hby d14_133) rfl rfl ?_
  refine go_stC (pc' := 136) (i := 1) (x' := r7) (vs' := [(.int r3), (.int r7), (.int (0 : Int32)), (.int (0 : Int32)), (.int (0 : Int32))]) A64 (Nat.le_trans O0.2.1 (Nat.le_trans K65.1 (Nat.le_of_eq g58))) (by decide) (by decide) rfl (Nat.le_of_ble_eq_true rfl) (i2c_c8 f8) rfl (hb hby d14_135) rfl (fun h66 W67 A68 => ?_)
  refine go_dup (pc' := 137) (hb hby d14_136) rfl rfl ?_
  refine go_iconst (pc' := 138) (v := 2) (hb hby d14_137) rfl rfl ?_
  refine go_iload (pc' := 140) (hb hby d14_138) rfl rfl ?_
  refine go_stC (pc' := 141) (i := 2) (x' := r11) (vs' := [(.int r3), (.int r7), (.int r11), (.int (0 : Int32)), (.int (0 : Int32))]) A68 (Nat.le_trans O0.2.1 (Nat.le_trans K65.1 (Nat.le_of_eq g58))) (by decide) (by decide) rfl (Nat.le_of_ble_eq_true rfl) (i2c_c8 f12) rfl (hb hby d14_140) rfl (fun h69 W70 A71 => ?_)
  refine go_dup (pc' := 142) (hb hby d14_141) rfl rfl ?_
  refine go_iconst (pc' := 143) (v := 3) (hb hby d14_142) rfl rfl ?_
  refine go_iload (pc' := 145) (hb hby d14_143) rfl rfl ?_
  refine go_stC (pc' := 146) (i := 3) (x' := r15) (vs' := [(.int r3), (.int r7), (.int r11), (.int r15), (.int (0 : Int32))]) A71 (Nat.le_trans O0.2.1 (Nat.le_trans K65.1 (Nat.le_of_eq g58))) (by decide) (by decide) rfl (Nat.le_of_ble_eq_true rfl) (i2c_c8 f16) rfl (hb hby d14_145) rfl (fun h72 W73 A74 => ?_)
  refine go_dup (pc' := 147) (hb hby d14_146) rfl rfl ?_
  refine go_iconst (pc' := 148) (v := 4) (hb hby d14_147) rfl rfl ?_
  refine go_iload (pc' := 150) (hb hby d14_148) rfl rfl ?_
  refine go_stC (pc' := 151) (i := 4) (x' := r19) (vs' := [(.int r3), (.int r7), (.int r11), (.int r15), (.int r19)]) A74 (Nat.le_trans O0.2.1 (Nat.le_trans K65.1 (Nat.le_of_eq g58))) (by decide) (by decide) rfl (Nat.le_of_ble_eq_true rfl) (i2c_c8 f20) rfl (hb hby d14_150) rfl (fun h75 W76 A77 => ?_)
  have K78 : Keep h49 h56 [] := ((Keep.refl h49 []).ext X59)
  have K79 : Keep h49 h62 [] := (K78.wr W63 (Or.inr (Nat.le_of_eq g58)))
  have K80 : Keep h49 h66 [] := (K79.wr W67 (Or.inr (Nat.le_of_eq g58)))
  have K81 : Keep h49 h69 [] := (K80.wr W70 (Or.inr (Nat.le_of_eq g58)))
  have K82 : Keep h49 h72 [] := (K81.wr W73 (Or.inr (Nat.le_of_eq g58)))
  have K83 : Keep h49 h75 [] := (K82.wr W76 (Or.inr (Nat.le_of_eq g58)))
  have E84 := (E53.keep K83)
  have F85 := D54 (Or.inr (wk G 9 rfl)) (ty := (.array .byte)) (by decide)
  have F86 := (F85.keep K83 nin0)
  have F87 := D54 (Or.inr (wk G 10 rfl)) (ty := .byte) (by decide)
  have F88 := (F87.keep K83 nin0)
  refine go_old (fun O89 => ?_)
  refine callI0 (cells' := 3) (slots' := 14) (Wd := 1) (argsL := [(.ref a57)]) (rest := [(.ref a50)]) (pay_new G O89 (cs := [r3, r7, r11, r15, r19]) (n := 5) (Nat.le_trans O0.2.1 (Nat.le_of_eq g51)) E84 F86 F88 A77 rfl rfl (by decide) (by decide) (c8c f4 (c8c f8 (c8c f12 (c8c f16 (c8c f20 c8n))))) (by decide) (by decide)) rfl (wk G 113 rfl) (wk G 114 rfl) (wk G 115 rfl) (by decide) pd10 rfl rfl (by rw [hml]; rfl) (Nat.le_of_ble_eq_true rfl) rfl rfl (by decide) (by decide) (allS (Nat.le_trans O0.2.1 (Nat.le_of_eq g51)) all0) (fun _ hal => (sfS safe_nil sf0)) (hb hby d14_151) (k_n (pc' := 154) rfl ?_)
  rintro h90 S92 K91
  have K93 : Keep h0 h56 [] := (K65.ext X59)
  have K94 : Keep h0 h62 [] := (K93.wr W63 (Or.inr (Nat.le_trans K65.1 (Nat.le_of_eq g58))))
  have K95 : Keep h0 h66 [] := (K94.wr W67 (Or.inr (Nat.le_trans K65.1 (Nat.le_of_eq g58))))
  have K96 : Keep h0 h69 [] := (K95.wr W70 (Or.inr (Nat.le_trans K65.1 (Nat.le_of_eq g58))))
  have K97 : Keep h0 h72 [] := (K96.wr W73 (Or.inr (Nat.le_trans K65.1 (Nat.le_of_eq g58))))
  have K98 : Keep h0 h75 [] := (K97.wr W76 (Or.inr (Nat.le_trans K65.1 (Nat.le_of_eq g58))))
  have K99 : Keep h0 h90 [] := (K98.trans K91 (allS (Or.inr (Nat.le_of_eq g51)) all0))
  refine go_areturn hret hlk rfl rfl (hb hby d14_154) (by decide) (by decide) ⟨_, rfl, ⟨a50, [r3, r7, r11, r15, r19], rfl, (Nat.le_of_eq g51), S92⟩⟩ K99
theorem ef_edit6_6 (m : MethodId) (a : Addr) (q : Int32) (u : Int32)  : entryFrame m #[(.ref a), (.int (6 : Int32)), (.int q), (.int u)] 16 = mkF m 0 #[.val (.ref a), .val (.int (6 : Int32)), .val (.int q), .val (.int u), .unset, .unset, .unset, .unset, .unset, .unset, .unset, .unset, .unset, .unset, .unset, .unset] [] := by first | (simp [entryFrame, mkF, argsToLocals, Value.category]; done) | rfl
def Q_edit6_6 (Z : State) (a : Addr) (q : Int32) (u : Int32) (c0 : Int32) (c1 : Int32) (c2 : Int32) (c3 : Int32) (c4 : Int32) (c5 : Int32) (h0 : Heap) (xv : Value) (h : Heap) : Prop := ∃ (r : Addr) (ds : List Int32), (.ref r) = xv ∧ h0.size ≤ r ∧ Str Z h r ds
set_option maxRecDepth 65536 in
set_option maxHeartbeats 40000000 in
theorem c_edit6_6 (l : Launch) {Z : State} {a0 : Array Value} (G : GH Z a0) (a : Addr) (q : Int32) (u : Int32) (c0 : Int32) (c1 : Int32) (c2 : Int32) (c3 : Int32) (c4 : Int32) (c5 : Int32) (h0 : Heap) (O0 : Old Z Z.heap.size h0) (p1 : C8 u) (p2 : Str Z h0 a [c0, c1, c2, c3, c4, c5]) : Con false [] l Z (⟨"com/example/ispol/ispol/walls/TransparencyOfPinLaw", "edit", "(Ljava/lang/String;IIC)Ljava/lang/String;"⟩ : MethodName) method_7_code 16 (some (.object "java/lang/String")) [] ({ frames := 5, cells := 3, slots := 16, locals := 68 } : Room) #[(.ref a), (.int (6 : Int32)), (.int q), (.int u)] h0 [] (rvl (Q_edit6_6 Z a q u c0 c1 c2 c3 c4 c5 h0)) := by
  refine con_of (a0 := a0) (plainFor_of_name pn4) (fun q => rfl) EW.nil O0 (fun m => ef_edit6_6 m a q u) ?_
  intro p_ e_ s_ m_ below_ meth_ c_ hby hml hret hlk hnm
  refine go_aload_n (pc' := 1) (hb hby d14_0) rfl rfl rfl ?_
  refine go_iconst (pc' := 2) (v := 0) (hb hby d14_1) rfl rfl ?_
  refine go_iload_n (pc' := 3) (hb hby d14_2) rfl rfl ?_
  refine go_iload_n (pc' := 4) (hb hby d14_3) rfl rfl ?_
  refine callS0 (cells' := 0) (slots' := 0) (Wd := 0) (argsL := [(.ref a), (.int (0 : Int32)), (.int q), (.int u)]) (rest := []) (pay_of (a0 := a0) (c_at6_0 l G a q u c0 c1 c2 c3 c4 c5 h0 O0 p1 p2) (wk G 89 rfl) (wk G 3 rfl) (by decide) (by decide)) (wk G 87 rfl) (wk G 88 rfl) (wk G 3 rfl) (wk G 89 rfl) (by decide) pd9 rfl rfl (by rw [hml]; rfl) (Nat.le_of_ble_eq_true rfl) rfl rfl (by decide) (by decide) all0 (fun _ _ => sf0) (hb hby d14_4) (k_v (pc' := 7) rfl ?_)
  rintro _ h1 ⟨r3, rfl, rfl, f4⟩ K2
  refine go_istore (pc' := 9) (ls' := #[.val (.ref a), .val (.int (6 : Int32)), .val (.int q), .val (.int u), .val (.int r3), .unset, .unset, .unset, .unset, .unset, .unset, .unset, .unset, .unset, .unset, .unset]) (hb hby d14_7) rfl rfl ?_
  refine go_aload_n (pc' := 10) (hb hby d14_9) rfl rfl rfl ?_
  refine go_iconst (pc' := 11) (v := 1) (hb hby d14_10) rfl rfl ?_
  refine go_iload_n (pc' := 12) (hb hby d14_11) rfl rfl ?_
  refine go_iload_n (pc' := 13) (hb hby d14_12) rfl rfl ?_
  refine callS0 (cells' := 0) (slots' := 0) (Wd := 0) (argsL := [(.ref a), (.int (1 : Int32)), (.int q), (.int u)]) (rest := []) (pay_of (a0 := a0) (c_at6_1 l G a q u c0 c1 c2 c3 c4 c5 h0 O0 p1 p2) (wk G 89 rfl) (wk G 3 rfl) (by decide) (by decide)) (wk G 87 rfl) (wk G 88 rfl) (wk G 3 rfl) (wk G 89 rfl) (by decide) pd9 rfl rfl (by rw [hml]; rfl) (Nat.le_of_ble_eq_true rfl) rfl rfl (by decide) (by decide) all0 (fun _ _ => sf0) (hb hby d14_13) (k_v (pc' := 16) rfl ?_)
  rintro _ h5 ⟨r7, rfl, rfl, f8⟩ K6
  refine go_istore (pc' := 18) (ls' := #[.val (.ref a), .val (.int (6 : Int32)), .val (.int q), .val (.int u), .val (.int r3), .val (.int r7), .unset, .unset, .unset, .unset, .unset, .unset, .unset, .unset, .unset, .unset]) (hb hby d14_16) rfl rfl ?_
  refine go_aload_n (pc' := 19) (hb hby d14_18) rfl rfl rfl ?_
  refine go_iconst (pc' := 20) (v := 2) (hb hby d14_19) rfl rfl ?_
  refine go_iload_n (pc' := 21) (hb hby d14_20) rfl rfl ?_
  refine go_iload_n (pc' := 22) (hb hby d14_21) rfl rfl ?_
  refine callS0 (cells' := 0) (slots' := 0) (Wd := 0) (argsL := [(.ref a), (.int (2 : Int32)), (.int q), (.int u)]) (rest := []) (pay_of (a0 := a0) (c_at6_2 l G a q u c0 c1 c2 c3 c4 c5 h0 O0 p1 p2) (wk G 89 rfl) (wk G 3 rfl) (by decide) (by decide)) (wk G 87 rfl) (wk G 88 rfl) (wk G 3 rfl) (wk G 89 rfl) (by decide) pd9 rfl rfl (by rw [hml]; rfl) (Nat.le_of_ble_eq_true rfl) rfl rfl (by decide) (by decide) all0 (fun _ _ => sf0) (hb hby d14_22) (k_v (pc' := 25) rfl ?_)
  rintro _ h9 ⟨r11, rfl, rfl, f12⟩ K10
  refine go_istore (pc' := 27) (ls' := #[.val (.ref a), .val (.int (6 : Int32)), .val (.int q), .val (.int u), .val (.int r3), .val (.int r7), .val (.int r11), .unset, .unset, .unset, .unset, .unset, .unset, .unset, .unset, .unset]) (hb hby d14_25) rfl rfl ?_
  refine go_aload_n (pc' := 28) (hb hby d14_27) rfl rfl rfl ?_
  refine go_iconst (pc' := 29) (v := 3) (hb hby d14_28) rfl rfl ?_
  refine go_iload_n (pc' := 30) (hb hby d14_29) rfl rfl ?_
  refine go_iload_n (pc' := 31) (hb hby d14_30) rfl rfl ?_
  refine callS0 (cells' := 0) (slots' := 0) (Wd := 0) (argsL := [(.ref a), (.int (3 : Int32)), (.int q), (.int u)]) (rest := []) (pay_of (a0 := a0) (c_at6_3 l G a q u c0 c1 c2 c3 c4 c5 h0 O0 p1 p2) (wk G 89 rfl) (wk G 3 rfl) (by decide) (by decide)) (wk G 87 rfl) (wk G 88 rfl) (wk G 3 rfl) (wk G 89 rfl) (by decide) pd9 rfl rfl (by rw [hml]; rfl) (Nat.le_of_ble_eq_true rfl) rfl rfl (by decide) (by decide) all0 (fun _ _ => sf0) (hb hby d14_31) (k_v (pc' := 34) rfl ?_)
  rintro _ h13 ⟨r15, rfl, rfl, f16⟩ K14
  refine go_istore (pc' := 36) (ls' := #[.val (.ref a), .val (.int (6 : Int32)), .val (.int q), .val (.int u), .val (.int r3), .val (.int r7), .val (.int r11), .val (.int r15), .unset, .unset, .unset, .unset, .unset, .unset, .unset, .unset]) (hb hby d14_34) rfl rfl ?_
  refine go_aload_n (pc' := 37) (hb hby d14_36) rfl rfl rfl ?_
  refine go_iconst (pc' := 38) (v := 4) (hb hby d14_37) rfl rfl ?_
  refine go_iload_n (pc' := 39) (hb hby d14_38) rfl rfl ?_
  refine go_iload_n (pc' := 40) (hb hby d14_39) rfl rfl ?_
  refine callS0 (cells' := 0) (slots' := 0) (Wd := 0) (argsL := [(.ref a), (.int (4 : Int32)), (.int q), (.int u)]) (rest := []) (pay_of (a0 := a0) (c_at6_4 l G a q u c0 c1 c2 c3 c4 c5 h0 O0 p1 p2) (wk G 89 rfl) (wk G 3 rfl) (by decide) (by decide)) (wk G 87 rfl) (wk G 88 rfl) (wk G 3 rfl) (wk G 89 rfl) (by decide) pd9 rfl rfl (by rw [hml]; rfl) (Nat.le_of_ble_eq_true rfl) rfl rfl (by decide) (by decide) all0 (fun _ _ => sf0) (hb hby d14_40) (k_v (pc' := 43) rfl ?_)
  rintro _ h17 ⟨r19, rfl, rfl, f20⟩ K18
  refine go_istore (pc' := 45) (ls' := #[.val (.ref a), .val (.int (6 : Int32)), .val (.int q), .val (.int u), .val (.int r3), .val (.int r7), .val (.int r11), .val (.int r15), .val (.int r19), .unset, .unset, .unset, .unset, .unset, .unset, .unset]) (hb hby d14_43) rfl rfl ?_
  refine go_aload_n (pc' := 46) (hb hby d14_45) rfl rfl rfl ?_
  refine go_iconst (pc' := 47) (v := 5) (hb hby d14_46) rfl rfl ?_
  refine go_iload_n (pc' := 48) (hb hby d14_47) rfl rfl ?_
  refine go_iload_n (pc' := 49) (hb hby d14_48) rfl rfl ?_
  refine callS0 (cells' := 0) (slots' := 0) (Wd := 0) (argsL := [(.ref a), (.int (5 : Int32)), (.int q), (.int u)]) (rest := []) (pay_of (a0 := a0) (c_at6_5 l G a q u c0 c1 c2 c3 c4 c5 h0 O0 p1 p2) (wk G 89 rfl) (wk G 3 rfl) (by decide) (by decide)) (wk G 87 rfl) (wk G 88 rfl) (wk G 3 rfl) (wk G 89 rfl) (by decide) pd9 rfl rfl (by rw [hml]; rfl) (Nat.le_of_ble_eq_true rfl) rfl rfl (by decide) (by decide) all0 (fun _ _ => sf0) (hb hby d14_49) (k_v (pc' := 52) rfl ?_)
  rintro _ h21 ⟨r23, rfl, rfl, f24⟩ K22
  refine go_istore (pc' := 54) (ls' := #[.val (.ref a), .val (.int (6 : Int32)), .val (.int q), .val (.int u), .val (.int r3), .val (.int r7), .val (.int r11), .val (.int r15), .val (.int r19), .val (.int r23), .unset, .unset, .unset, .unset, .unset, .unset]) (hb hby d14_52) rfl rfl ?_
  refine go_aload_n (pc' := 55) (hb hby d14_54) rfl rfl rfl ?_
  refine go_bipush (pc' := 57) (v := 6) (hb hby d14_55) rfl rfl ?_
  refine go_iload_n (pc' := 58) (hb hby d14_57) rfl rfl ?_
  refine go_iload_n (pc' := 59) (hb hby d14_58) rfl rfl ?_
  refine callS0 (cells' := 0) (slots' := 0) (Wd := 0) (argsL := [(.ref a), (.int (6 : Int32)), (.int q), (.int u)]) (rest := []) (pay_of (a0 := a0) (c_at6_6 l G a q u c0 c1 c2 c3 c4 c5 h0 O0 p1 p2) (wk G 89 rfl) (wk G 3 rfl) (by decide) (by decide)) (wk G 87 rfl) (wk G 88 rfl) (wk G 3 rfl) (wk G 89 rfl) (by decide) pd9 rfl rfl (by rw [hml]; rfl) (Nat.le_of_ble_eq_true rfl) rfl rfl (by decide) (by decide) all0 (fun _ _ => sf0) (hb hby d14_59) (k_v (pc' := 62) rfl ?_)
  rintro _ h25 ⟨r27, rfl, rfl, f28⟩ K26
  refine go_istore (pc' := 64) (ls' := #[.val (.ref a), .val (.int (6 : Int32)), .val (.int q), .val (.int u), .val (.int r3), .val (.int r7), .val (.int r11), .val (.int r15), .val (.int r19), .val (.int r23), .val (.int r27), .unset, .unset, .unset, .unset, .unset]) (hb hby d14_62) rfl rfl ?_
  refine go_aload_n (pc' := 65) (hb hby d14_64) rfl rfl rfl ?_
  refine go_bipush (pc' := 67) (v := 7) (hb hby d14_65) rfl rfl ?_
  refine go_iload_n (pc' := 68) (hb hby d14_67) rfl rfl ?_
  refine go_iload_n (pc' := 69) (hb hby d14_68) rfl rfl ?_
  refine callS0 (cells' := 0) (slots' := 0) (Wd := 0) (argsL := [(.ref a), (.int (7 : Int32)), (.int q), (.int u)]) (rest := []) (pay_of (a0 := a0) (c_at6_7 l G a q u c0 c1 c2 c3 c4 c5 h0 O0 p1 p2) (wk G 89 rfl) (wk G 3 rfl) (by decide) (by decide)) (wk G 87 rfl) (wk G 88 rfl) (wk G 3 rfl) (wk G 89 rfl) (by decide) pd9 rfl rfl (by rw [hml]; rfl) (Nat.le_of_ble_eq_true rfl) rfl rfl (by decide) (by decide) all0 (fun _ _ => sf0) (hb hby d14_69) (k_v (pc' := 72) rfl ?_)
  rintro _ h29 ⟨r31, rfl, rfl, f32⟩ K30
  refine go_istore (pc' := 74) (ls' := #[.val (.ref a), .val (.int (6 : Int32)), .val (.int q), .val (.int u), .val (.int r3), .val (.int r7), .val (.int r11), .val (.int r15), .val (.int r19), .val (.int r23), .val (.int r27), .val (.int r31), .unset, .unset, .unset, .unset]) (hb hby d14_72) rfl rfl ?_
  refine go_aload_n (pc' := 75) (hb hby d14_74) rfl rfl rfl ?_
  refine go_bipush (pc' := 77) (v := 8) (hb hby d14_75) rfl rfl ?_
  refine go_iload_n (pc' := 78) (hb hby d14_77) rfl rfl ?_
  refine go_iload_n (pc' := 79) (hb hby d14_78) rfl rfl ?_
  refine callS0 (cells' := 0) (slots' := 0) (Wd := 0) (argsL := [(.ref a), (.int (8 : Int32)), (.int q), (.int u)]) (rest := []) (pay_of (a0 := a0) (c_at6_8 l G a q u c0 c1 c2 c3 c4 c5 h0 O0 p1 p2) (wk G 89 rfl) (wk G 3 rfl) (by decide) (by decide)) (wk G 87 rfl) (wk G 88 rfl) (wk G 3 rfl) (wk G 89 rfl) (by decide) pd9 rfl rfl (by rw [hml]; rfl) (Nat.le_of_ble_eq_true rfl) rfl rfl (by decide) (by decide) all0 (fun _ _ => sf0) (hb hby d14_79) (k_v (pc' := 82) rfl ?_)
  rintro _ h33 ⟨r35, rfl, rfl, f36⟩ K34
  refine go_istore (pc' := 84) (ls' := #[.val (.ref a), .val (.int (6 : Int32)), .val (.int q), .val (.int u), .val (.int r3), .val (.int r7), .val (.int r11), .val (.int r15), .val (.int r19), .val (.int r23), .val (.int r27), .val (.int r31), .val (.int r35), .unset, .unset, .unset]) (hb hby d14_82) rfl rfl ?_
  refine go_aload_n (pc' := 85) (hb hby d14_84) rfl rfl rfl ?_
  refine go_bipush (pc' := 87) (v := 9) (hb hby d14_85) rfl rfl ?_
  refine go_iload_n (pc' := 88) (hb hby d14_87) rfl rfl ?_
  refine go_iload_n (pc' := 89) (hb hby d14_88) rfl rfl ?_
  refine callS0 (cells' := 0) (slots' := 0) (Wd := 0) (argsL := [(.ref a), (.int (9 : Int32)), (.int q), (.int u)]) (rest := []) (pay_of (a0 := a0) (c_at6_9 l G a q u c0 c1 c2 c3 c4 c5 h0 O0 p1 p2) (wk G 89 rfl) (wk G 3 rfl) (by decide) (by decide)) (wk G 87 rfl) (wk G 88 rfl) (wk G 3 rfl) (wk G 89 rfl) (by decide) pd9 rfl rfl (by rw [hml]; rfl) (Nat.le_of_ble_eq_true rfl) rfl rfl (by decide) (by decide) all0 (fun _ _ => sf0) (hb hby d14_89) (k_v (pc' := 92) rfl ?_)
  rintro _ h37 ⟨r39, rfl, rfl, f40⟩ K38
  refine go_istore (pc' := 94) (ls' := #[.val (.ref a), .val (.int (6 : Int32)), .val (.int q), .val (.int u), .val (.int r3), .val (.int r7), .val (.int r11), .val (.int r15), .val (.int r19), .val (.int r23), .val (.int r27), .val (.int r31), .val (.int r35), .val (.int r39), .unset, .unset]) (hb hby d14_92) rfl rfl ?_
  refine go_aload_n (pc' := 95) (hb hby d14_94) rfl rfl rfl ?_
  refine go_bipush (pc' := 97) (v := 10) (hb hby d14_95) rfl rfl ?_
  refine go_iload_n (pc' := 98) (hb hby d14_97) rfl rfl ?_
  refine go_iload_n (pc' := 99) (hb hby d14_98) rfl rfl ?_
  refine callS0 (cells' := 0) (slots' := 0) (Wd := 0) (argsL := [(.ref a), (.int (10 : Int32)), (.int q), (.int u)]) (rest := []) (pay_of (a0 := a0) (c_at6_10 l G a q u c0 c1 c2 c3 c4 c5 h0 O0 p1 p2) (wk G 89 rfl) (wk G 3 rfl) (by decide) (by decide)) (wk G 87 rfl) (wk G 88 rfl) (wk G 3 rfl) (wk G 89 rfl) (by decide) pd9 rfl rfl (by rw [hml]; rfl) (Nat.le_of_ble_eq_true rfl) rfl rfl (by decide) (by decide) all0 (fun _ _ => sf0) (hb hby d14_99) (k_v (pc' := 102) rfl ?_)
  rintro _ h41 ⟨r43, rfl, rfl, f44⟩ K42
  refine go_istore (pc' := 104) (ls' := #[.val (.ref a), .val (.int (6 : Int32)), .val (.int q), .val (.int u), .val (.int r3), .val (.int r7), .val (.int r11), .val (.int r15), .val (.int r19), .val (.int r23), .val (.int r27), .val (.int r31), .val (.int r35), .val (.int r39), .val (.int r43), .unset]) (hb hby d14_102) rfl rfl ?_
  refine go_aload_n (pc' := 105) (hb hby d14_104) rfl rfl rfl ?_
  refine go_bipush (pc' := 107) (v := 11) (hb hby d14_105) rfl rfl ?_
  refine go_iload_n (pc' := 108) (hb hby d14_107) rfl rfl ?_
  refine go_iload_n (pc' := 109) (hb hby d14_108) rfl rfl ?_
  refine callS0 (cells' := 0) (slots' := 0) (Wd := 0) (argsL := [(.ref a), (.int (11 : Int32)), (.int q), (.int u)]) (rest := []) (pay_of (a0 := a0) (c_at6_11 l G a q u c0 c1 c2 c3 c4 c5 h0 O0 p1 p2) (wk G 89 rfl) (wk G 3 rfl) (by decide) (by decide)) (wk G 87 rfl) (wk G 88 rfl) (wk G 3 rfl) (wk G 89 rfl) (by decide) pd9 rfl rfl (by rw [hml]; rfl) (Nat.le_of_ble_eq_true rfl) rfl rfl (by decide) (by decide) all0 (fun _ _ => sf0) (hb hby d14_109) (k_v (pc' := 112) rfl ?_)
  rintro _ h45 ⟨r47, rfl, rfl, f48⟩ K46
  refine go_istore (pc' := 114) (ls' := #[.val (.ref a), .val (.int (6 : Int32)), .val (.int q), .val (.int u), .val (.int r3), .val (.int r7), .val (.int r11), .val (.int r15), .val (.int r19), .val (.int r23), .val (.int r27), .val (.int r31), .val (.int r35), .val (.int r39), .val (.int r43), .val (.int r47)]) (hb hby d14_112) rfl rfl ?_
  refine go_iload_n (pc' := 115) (hb hby d14_114) rfl rfl ?_
  refine go_iconst (pc' := 116) (v := 5) (hb hby d14_115) rfl rfl ?_
  refine go_icT (pc' := 155) (hb hby d14_116) (by decide) rfl (by decide) ?_
  refine go_iload_n (pc' := 156) (hb hby d14_155) rfl rfl ?_
  refine go_bipush (pc' := 158) (v := 6) (hb hby d14_156) rfl rfl ?_
  refine go_icF (pc' := 161) (hb hby d14_158) rfl (by decide) ?_
  refine go_newO (pc' := 164) (cells' := 1) (slots' := 4) (wk G 111 rfl) (wk G 7 rfl) (wk G 6 rfl) (hb hby d14_161) rfl rfl rfl (by decide) (by decide) (fun h49 a50 g51 X52 E53 D54 U55 => ?_)
  refine go_dup (pc' := 165) (hb hby d14_164) rfl rfl ?_
  refine go_bipush (pc' := 167) (v := 6) (hb hby d14_165) rfl rfl ?_
  refine go_newP (pc' := 169) (cells' := 2) (slots' := 10) (cap := 6) (vs := [(.int (0 : Int32)), (.int (0 : Int32)), (.int (0 : Int32)), (.int (0 : Int32)), (.int (0 : Int32)), (.int (0 : Int32))]) (ty := .char) (dv := .int 0) (wk G 112 rfl) rfl rfl (hb hby d14_167) rfl (by decide) rfl (by decide) rfl rfl rfl (by decide) (by decide) (fun h56 a57 k61 g58 X59 A60 => ?_)
  refine go_dup (pc' := 170) (hb hby d14_169) rfl rfl ?_
  refine go_iconst (pc' := 171) (v := 0) (hb hby d14_170) rfl rfl ?_
  refine go_iload (pc' := 173) (hb hby d14_171) rfl rfl ?_
  have K65 : Keep h0 h49 [] := ((Keep.refl h0 []).ext X52)
  refine go_stC (pc' := 174) (i := 0) (x' := r3) (vs' := [(.int r3), (.int (0 : Int32)), (.int (0 : Int32)), (.int (0 : Int32)), (.int (0 : Int32)), (.int (0 : Int32))]) A60 (Nat.le_trans O0.2.1 (Nat.le_trans K65.1 (Nat.le_of_eq g58))) (by decide) (by decide) rfl (Nat.le_of_ble_eq_true rfl) (i2c_c8 f4) rfl (hb hby d14_173) rfl (fun h62 W63 A64 => ?_)
  refine go_dup (pc' := 175) (hb hby d14_174) rfl rfl ?_
  refine go_iconst (pc' := 176) (v := 1) (hb hby d14_175) rfl rfl ?_
  refine go_iload (pc' := 178) (hb hby d14_176) rfl rfl ?_
  refine go_stC (pc' := 179) (i := 1) (x' := r7) (vs' := [(.int r3), (.int r7), (.int (0 : Int32)), (.int (0 : Int32)), (.int (0 : Int32)), (.int (0 : Int32))]) A64 (Nat.le_trans O0.2.1 (Nat.le_trans K65.1 (Nat.le_of_eq g58))) (by decide) (by decide) rfl (Nat.le_of_ble_eq_true rfl) (i2c_c8 f8) rfl (hb hby d14_178) rfl (fun h66 W67 A68 => ?_)
  refine go_dup (pc' := 180) (hb hby d14_179) rfl rfl ?_
  refine go_iconst (pc' := 181) (v := 2) (hb hby d14_180) rfl rfl ?_
  refine go_iload (pc' := 183) (hb hby d14_181) rfl rfl ?_
  refine go_stC (pc' := 184) (i := 2) (x' := r11) (vs' := [(.int r3), (.int r7), (.int r11), (.int (0 : Int32)), (.int (0 : Int32)), (.int (0 : Int32))]) A68 (Nat.le_trans O0.2.1 (Nat.le_trans K65.1 (Nat.le_of_eq g58))) (by decide) (by decide) rfl (Nat.le_of_ble_eq_true rfl) (i2c_c8 f12) rfl (hb hby d14_183) rfl (fun h69 W70 A71 => ?_)
  refine go_dup (pc' := 185) (hb hby d14_184) rfl rfl ?_
  refine go_iconst (pc' := 186) (v := 3) (hb hby d14_185) rfl rfl ?_
  refine go_iload (pc' := 188) (hb hby d14_186) rfl rfl ?_
  refine go_stC (pc' := 189) (i := 3) (x' := r15) (vs' := [(.int r3), (.int r7), (.int r11), (.int r15), (.int (0 : Int32)), (.int (0 : Int32))]) A71 (Nat.le_trans O0.2.1 (Nat.le_trans K65.1 (Nat.le_of_eq g58))) (by decide) (by decide) rfl (Nat.le_of_ble_eq_true rfl) (i2c_c8 f16) rfl (hb hby d14_188) rfl (fun h72 W73 A74 => ?_)
  refine go_dup (pc' := 190) (hb hby d14_189) rfl rfl ?_
  refine go_iconst (pc' := 191) (v := 4) (hb hby d14_190) rfl rfl ?_
  refine go_iload (pc' := 193) (hb hby d14_191) rfl rfl ?_
  refine go_stC (pc' := 194) (i := 4) (x' := r19) (vs' := [(.int r3), (.int r7), (.int r11), (.int r15), (.int r19), (.int (0 : Int32))]) A74 (Nat.le_trans O0.2.1 (Nat.le_trans K65.1 (Nat.le_of_eq g58))) (by decide) (by decide) rfl (Nat.le_of_ble_eq_true rfl) (i2c_c8 f20) rfl (hb hby d14_193) rfl (fun h75 W76 A77 => ?_)
  refine go_dup (pc' := 195) (hb hby d14_194) rfl rfl ?_
  refine go_iconst (pc' := 196) (v := 5) (hb hby d14_195) rfl rfl ?_
  refine go_iload (pc' := 198) (hb hby d14_196) rfl rfl ?_
  refine go_stC (pc' := 199) (i := 5) (x' := r23) (vs' := [(.int r3), (.int r7), (.int r11), (.int r15), (.int r19), (.int r23)]) A77 (Nat.le_trans O0.2.1 (Nat.le_trans K65.1 (Nat.le_of_eq g58))) (by decide) (by decide) rfl (Nat.le_of_ble_eq_true rfl) (i2c_c8 f24) rfl (hb hby d14_198) rfl (fun h78 W79 A80 => ?_)
  have K81 : Keep h49 h56 [] := ((Keep.refl h49 []).ext X59)
  have K82 : Keep h49 h62 [] := (K81.wr W63 (Or.inr (Nat.le_of_eq g58)))
  have K83 : Keep h49 h66 [] := (K82.wr W67 (Or.inr (Nat.le_of_eq g58)))
  have K84 : Keep h49 h69 [] := (K83.wr W70 (Or.inr (Nat.le_of_eq g58)))
  have K85 : Keep h49 h72 [] := (K84.wr W73 (Or.inr (Nat.le_of_eq g58)))
  have K86 : Keep h49 h75 [] := (K85.wr W76 (Or.inr (Nat.le_of_eq g58)))
  have K87 : Keep h49 h78 [] := (K86.wr W79 (Or.inr (Nat.le_of_eq g58)))
  have E88 := (E53.keep K87)
  have F89 := D54 (Or.inr (wk G 9 rfl)) (ty := (.array .byte)) (by decide)
  have F90 := (F89.keep K87 nin0)
  have F91 := D54 (Or.inr (wk G 10 rfl)) (ty := .byte) (by decide)
  have F92 := (F91.keep K87 nin0)
  refine go_old (fun O93 => ?_)
  refine callI0 (cells' := 3) (slots' := 16) (Wd := 1) (argsL := [(.ref a57)]) (rest := [(.ref a50)]) (pay_new G O93 (cs := [r3, r7, r11, r15, r19, r23]) (n := 6) (Nat.le_trans O0.2.1 (Nat.le_of_eq g51)) E88 F90 F92 A80 rfl rfl (by decide) (by decide) (c8c f4 (c8c f8 (c8c f12 (c8c f16 (c8c f20 (c8c f24 c8n)))))) (by decide) (by decide)) rfl (wk G 113 rfl) (wk G 114 rfl) (wk G 115 rfl) (by decide) pd10 rfl rfl (by rw [hml]; rfl) (Nat.le_of_ble_eq_true rfl) rfl rfl (by decide) (by decide) (allS (Nat.le_trans O0.2.1 (Nat.le_of_eq g51)) all0) (fun _ hal => (sfS safe_nil sf0)) (hb hby d14_199) (k_n (pc' := 202) rfl ?_)
  rintro h94 S96 K95
  have K97 : Keep h0 h56 [] := (K65.ext X59)
  have K98 : Keep h0 h62 [] := (K97.wr W63 (Or.inr (Nat.le_trans K65.1 (Nat.le_of_eq g58))))
  have K99 : Keep h0 h66 [] := (K98.wr W67 (Or.inr (Nat.le_trans K65.1 (Nat.le_of_eq g58))))
  have K100 : Keep h0 h69 [] := (K99.wr W70 (Or.inr (Nat.le_trans K65.1 (Nat.le_of_eq g58))))
  have K101 : Keep h0 h72 [] := (K100.wr W73 (Or.inr (Nat.le_trans K65.1 (Nat.le_of_eq g58))))
  have K102 : Keep h0 h75 [] := (K101.wr W76 (Or.inr (Nat.le_trans K65.1 (Nat.le_of_eq g58))))
  have K103 : Keep h0 h78 [] := (K102.wr W79 (Or.inr (Nat.le_trans K65.1 (Nat.le_of_eq g58))))
  have K104 : Keep h0 h94 [] := (K103.trans K95 (allS (Or.inr (Nat.le_of_eq g51)) all0))
  refine go_areturn hret hlk rfl rfl (hb hby d14_202) (by decide) (by decide) ⟨_, rfl, ⟨a50, [r3, r7, r11, r15, r19, r23], rfl, (Nat.le_of_eq g51), S96⟩⟩ K104
theorem ef_edit6_7 (m : MethodId) (a : Addr) (q : Int32) (u : Int32)  : entryFrame m #[(.ref a), (.int (7 : Int32)), (.int q), (.int u)] 16 = mkF m 0 #[.val (.ref a), .val (.int (7 : Int32)), .val (.int q), .val (.int u), .unset, .unset, .unset, .unset, .unset, .unset, .unset, .unset, .unset, .unset, .unset, .unset] [] := by first | (simp [entryFrame, mkF, argsToLocals, Value.category]; done) | rfl
def Q_edit6_7 (Z : State) (a : Addr) (q : Int32) (u : Int32) (c0 : Int32) (c1 : Int32) (c2 : Int32) (c3 : Int32) (c4 : Int32) (c5 : Int32) (h0 : Heap) (xv : Value) (h : Heap) : Prop := ∃ (r : Addr) (ds : List Int32), (.ref r) = xv ∧ h0.size ≤ r ∧ Str Z h r ds
set_option maxRecDepth 65536 in
set_option maxHeartbeats 40000000 in
theorem c_edit6_7 (l : Launch) {Z : State} {a0 : Array Value} (G : GH Z a0) (a : Addr) (q : Int32) (u : Int32) (c0 : Int32) (c1 : Int32) (c2 : Int32) (c3 : Int32) (c4 : Int32) (c5 : Int32) (h0 : Heap) (O0 : Old Z Z.heap.size h0) (p1 : C8 u) (p2 : Str Z h0 a [c0, c1, c2, c3, c4, c5]) : Con false [] l Z (⟨"com/example/ispol/ispol/walls/TransparencyOfPinLaw", "edit", "(Ljava/lang/String;IIC)Ljava/lang/String;"⟩ : MethodName) method_7_code 16 (some (.object "java/lang/String")) [] ({ frames := 5, cells := 3, slots := 18, locals := 68 } : Room) #[(.ref a), (.int (7 : Int32)), (.int q), (.int u)] h0 [] (rvl (Q_edit6_7 Z a q u c0 c1 c2 c3 c4 c5 h0)) := by
  refine con_of (a0 := a0) (plainFor_of_name pn4) (fun q => rfl) EW.nil O0 (fun m => ef_edit6_7 m a q u) ?_
  intro p_ e_ s_ m_ below_ meth_ c_ hby hml hret hlk hnm
  refine go_aload_n (pc' := 1) (hb hby d14_0) rfl rfl rfl ?_
  refine go_iconst (pc' := 2) (v := 0) (hb hby d14_1) rfl rfl ?_
  refine go_iload_n (pc' := 3) (hb hby d14_2) rfl rfl ?_
  refine go_iload_n (pc' := 4) (hb hby d14_3) rfl rfl ?_
  refine callS0 (cells' := 0) (slots' := 0) (Wd := 0) (argsL := [(.ref a), (.int (0 : Int32)), (.int q), (.int u)]) (rest := []) (pay_of (a0 := a0) (c_at6_0 l G a q u c0 c1 c2 c3 c4 c5 h0 O0 p1 p2) (wk G 89 rfl) (wk G 3 rfl) (by decide) (by decide)) (wk G 87 rfl) (wk G 88 rfl) (wk G 3 rfl) (wk G 89 rfl) (by decide) pd9 rfl rfl (by rw [hml]; rfl) (Nat.le_of_ble_eq_true rfl) rfl rfl (by decide) (by decide) all0 (fun _ _ => sf0) (hb hby d14_4) (k_v (pc' := 7) rfl ?_)
  rintro _ h1 ⟨r3, rfl, rfl, f4⟩ K2
  refine go_istore (pc' := 9) (ls' := #[.val (.ref a), .val (.int (7 : Int32)), .val (.int q), .val (.int u), .val (.int r3), .unset, .unset, .unset, .unset, .unset, .unset, .unset, .unset, .unset, .unset, .unset]) (hb hby d14_7) rfl rfl ?_
  refine go_aload_n (pc' := 10) (hb hby d14_9) rfl rfl rfl ?_
  refine go_iconst (pc' := 11) (v := 1) (hb hby d14_10) rfl rfl ?_
  refine go_iload_n (pc' := 12) (hb hby d14_11) rfl rfl ?_
  refine go_iload_n (pc' := 13) (hb hby d14_12) rfl rfl ?_
  refine callS0 (cells' := 0) (slots' := 0) (Wd := 0) (argsL := [(.ref a), (.int (1 : Int32)), (.int q), (.int u)]) (rest := []) (pay_of (a0 := a0) (c_at6_1 l G a q u c0 c1 c2 c3 c4 c5 h0 O0 p1 p2) (wk G 89 rfl) (wk G 3 rfl) (by decide) (by decide)) (wk G 87 rfl) (wk G 88 rfl) (wk G 3 rfl) (wk G 89 rfl) (by decide) pd9 rfl rfl (by rw [hml]; rfl) (Nat.le_of_ble_eq_true rfl) rfl rfl (by decide) (by decide) all0 (fun _ _ => sf0) (hb hby d14_13) (k_v (pc' := 16) rfl ?_)
  rintro _ h5 ⟨r7, rfl, rfl, f8⟩ K6
  refine go_istore (pc' := 18) (ls' := #[.val (.ref a), .val (.int (7 : Int32)), .val (.int q), .val (.int u), .val (.int r3), .val (.int r7), .unset, .unset, .unset, .unset, .unset, .unset, .unset, .unset, .unset, .unset]) (hb hby d14_16) rfl rfl ?_
  refine go_aload_n (pc' := 19) (hb hby d14_18) rfl rfl rfl ?_
  refine go_iconst (pc' := 20) (v := 2) (hb hby d14_19) rfl rfl ?_
  refine go_iload_n (pc' := 21) (hb hby d14_20) rfl rfl ?_
  refine go_iload_n (pc' := 22) (hb hby d14_21) rfl rfl ?_
  refine callS0 (cells' := 0) (slots' := 0) (Wd := 0) (argsL := [(.ref a), (.int (2 : Int32)), (.int q), (.int u)]) (rest := []) (pay_of (a0 := a0) (c_at6_2 l G a q u c0 c1 c2 c3 c4 c5 h0 O0 p1 p2) (wk G 89 rfl) (wk G 3 rfl) (by decide) (by decide)) (wk G 87 rfl) (wk G 88 rfl) (wk G 3 rfl) (wk G 89 rfl) (by decide) pd9 rfl rfl (by rw [hml]; rfl) (Nat.le_of_ble_eq_true rfl) rfl rfl (by decide) (by decide) all0 (fun _ _ => sf0) (hb hby d14_22) (k_v (pc' := 25) rfl ?_)
  rintro _ h9 ⟨r11, rfl, rfl, f12⟩ K10
  refine go_istore (pc' := 27) (ls' := #[.val (.ref a), .val (.int (7 : Int32)), .val (.int q), .val (.int u), .val (.int r3), .val (.int r7), .val (.int r11), .unset, .unset, .unset, .unset, .unset, .unset, .unset, .unset, .unset]) (hb hby d14_25) rfl rfl ?_
  refine go_aload_n (pc' := 28) (hb hby d14_27) rfl rfl rfl ?_
  refine go_iconst (pc' := 29) (v := 3) (hb hby d14_28) rfl rfl ?_
  refine go_iload_n (pc' := 30) (hb hby d14_29) rfl rfl ?_
  refine go_iload_n (pc' := 31) (hb hby d14_30) rfl rfl ?_
  refine callS0 (cells' := 0) (slots' := 0) (Wd := 0) (argsL := [(.ref a), (.int (3 : Int32)), (.int q), (.int u)]) (rest := []) (pay_of (a0 := a0) (c_at6_3 l G a q u c0 c1 c2 c3 c4 c5 h0 O0 p1 p2) (wk G 89 rfl) (wk G 3 rfl) (by decide) (by decide)) (wk G 87 rfl) (wk G 88 rfl) (wk G 3 rfl) (wk G 89 rfl) (by decide) pd9 rfl rfl (by rw [hml]; rfl) (Nat.le_of_ble_eq_true rfl) rfl rfl (by decide) (by decide) all0 (fun _ _ => sf0) (hb hby d14_31) (k_v (pc' := 34) rfl ?_)
  rintro _ h13 ⟨r15, rfl, rfl, f16⟩ K14
  refine go_istore (pc' := 36) (ls' := #[.val (.ref a), .val (.int (7 : Int32)), .val (.int q), .val (.int u), .val (.int r3), .val (.int r7), .val (.int r11), .val (.int r15), .unset, .unset, .unset, .unset, .unset, .unset, .unset, .unset]) (hb hby d14_34) rfl rfl ?_
  refine go_aload_n (pc' := 37) (hb hby d14_36) rfl rfl rfl ?_
  refine go_iconst (pc' := 38) (v := 4) (hb hby d14_37) rfl rfl ?_
  refine go_iload_n (pc' := 39) (hb hby d14_38) rfl rfl ?_
  refine go_iload_n (pc' := 40) (hb hby d14_39) rfl rfl ?_
  refine callS0 (cells' := 0) (slots' := 0) (Wd := 0) (argsL := [(.ref a), (.int (4 : Int32)), (.int q), (.int u)]) (rest := []) (pay_of (a0 := a0) (c_at6_4 l G a q u c0 c1 c2 c3 c4 c5 h0 O0 p1 p2) (wk G 89 rfl) (wk G 3 rfl) (by decide) (by decide)) (wk G 87 rfl) (wk G 88 rfl) (wk G 3 rfl) (wk G 89 rfl) (by decide) pd9 rfl rfl (by rw [hml]; rfl) (Nat.le_of_ble_eq_true rfl) rfl rfl (by decide) (by decide) all0 (fun _ _ => sf0) (hb hby d14_40) (k_v (pc' := 43) rfl ?_)
  rintro _ h17 ⟨r19, rfl, rfl, f20⟩ K18
  refine go_istore (pc' := 45) (ls' := #[.val (.ref a), .val (.int (7 : Int32)), .val (.int q), .val (.int u), .val (.int r3), .val (.int r7), .val (.int r11), .val (.int r15), .val (.int r19), .unset, .unset, .unset, .unset, .unset, .unset, .unset]) (hb hby d14_43) rfl rfl ?_
  refine go_aload_n (pc' := 46) (hb hby d14_45) rfl rfl rfl ?_
  refine go_iconst (pc' := 47) (v := 5) (hb hby d14_46) rfl rfl ?_
  refine go_iload_n (pc' := 48) (hb hby d14_47) rfl rfl ?_
  refine go_iload_n (pc' := 49) (hb hby d14_48) rfl rfl ?_
  refine callS0 (cells' := 0) (slots' := 0) (Wd := 0) (argsL := [(.ref a), (.int (5 : Int32)), (.int q), (.int u)]) (rest := []) (pay_of (a0 := a0) (c_at6_5 l G a q u c0 c1 c2 c3 c4 c5 h0 O0 p1 p2) (wk G 89 rfl) (wk G 3 rfl) (by decide) (by decide)) (wk G 87 rfl) (wk G 88 rfl) (wk G 3 rfl) (wk G 89 rfl) (by decide) pd9 rfl rfl (by rw [hml]; rfl) (Nat.le_of_ble_eq_true rfl) rfl rfl (by decide) (by decide) all0 (fun _ _ => sf0) (hb hby d14_49) (k_v (pc' := 52) rfl ?_)
  rintro _ h21 ⟨r23, rfl, rfl, f24⟩ K22
  refine go_istore (pc' := 54) (ls' := #[.val (.ref a), .val (.int (7 : Int32)), .val (.int q), .val (.int u), .val (.int r3), .val (.int r7), .val (.int r11), .val (.int r15), .val (.int r19), .val (.int r23), .unset, .unset, .unset, .unset, .unset, .unset]) (hb hby d14_52) rfl rfl ?_
  refine go_aload_n (pc' := 55) (hb hby d14_54) rfl rfl rfl ?_
  refine go_bipush (pc' := 57) (v := 6) (hb hby d14_55) rfl rfl ?_
  refine go_iload_n (pc' := 58) (hb hby d14_57) rfl rfl ?_
  refine go_iload_n (pc' := 59) (hb hby d14_58) rfl rfl ?_
  refine callS0 (cells' := 0) (slots' := 0) (Wd := 0) (argsL := [(.ref a), (.int (6 : Int32)), (.int q), (.int u)]) (rest := []) (pay_of (a0 := a0) (c_at6_6 l G a q u c0 c1 c2 c3 c4 c5 h0 O0 p1 p2) (wk G 89 rfl) (wk G 3 rfl) (by decide) (by decide)) (wk G 87 rfl) (wk G 88 rfl) (wk G 3 rfl) (wk G 89 rfl) (by decide) pd9 rfl rfl (by rw [hml]; rfl) (Nat.le_of_ble_eq_true rfl) rfl rfl (by decide) (by decide) all0 (fun _ _ => sf0) (hb hby d14_59) (k_v (pc' := 62) rfl ?_)
  rintro _ h25 ⟨r27, rfl, rfl, f28⟩ K26
  refine go_istore (pc' := 64) (ls' := #[.val (.ref a), .val (.int (7 : Int32)), .val (.int q), .val (.int u), .val (.int r3), .val (.int r7), .val (.int r11), .val (.int r15), .val (.int r19), .val (.int r23), .val (.int r27), .unset, .unset, .unset, .unset, .unset]) (hb hby d14_62) rfl rfl ?_
  refine go_aload_n (pc' := 65) (hb hby d14_64) rfl rfl rfl ?_
  refine go_bipush (pc' := 67) (v := 7) (hb hby d14_65) rfl rfl ?_
  refine go_iload_n (pc' := 68) (hb hby d14_67) rfl rfl ?_
  refine go_iload_n (pc' := 69) (hb hby d14_68) rfl rfl ?_
  refine callS0 (cells' := 0) (slots' := 0) (Wd := 0) (argsL := [(.ref a), (.int (7 : Int32)), (.int q), (.int u)]) (rest := []) (pay_of (a0 := a0) (c_at6_7 l G a q u c0 c1 c2 c3 c4 c5 h0 O0 p1 p2) (wk G 89 rfl) (wk G 3 rfl) (by decide) (by decide)) (wk G 87 rfl) (wk G 88 rfl) (wk G 3 rfl) (wk G 89 rfl) (by decide) pd9 rfl rfl (by rw [hml]; rfl) (Nat.le_of_ble_eq_true rfl) rfl rfl (by decide) (by decide) all0 (fun _ _ => sf0) (hb hby d14_69) (k_v (pc' := 72) rfl ?_)
  rintro _ h29 ⟨r31, rfl, rfl, f32⟩ K30
  refine go_istore (pc' := 74) (ls' := #[.val (.ref a), .val (.int (7 : Int32)), .val (.int q), .val (.int u), .val (.int r3), .val (.int r7), .val (.int r11), .val (.int r15), .val (.int r19), .val (.int r23), .val (.int r27), .val (.int r31), .unset, .unset, .unset, .unset]) (hb hby d14_72) rfl rfl ?_
  refine go_aload_n (pc' := 75) (hb hby d14_74) rfl rfl rfl ?_
  refine go_bipush (pc' := 77) (v := 8) (hb hby d14_75) rfl rfl ?_
  refine go_iload_n (pc' := 78) (hb hby d14_77) rfl rfl ?_
  refine go_iload_n (pc' := 79) (hb hby d14_78) rfl rfl ?_
  refine callS0 (cells' := 0) (slots' := 0) (Wd := 0) (argsL := [(.ref a), (.int (8 : Int32)), (.int q), (.int u)]) (rest := []) (pay_of (a0 := a0) (c_at6_8 l G a q u c0 c1 c2 c3 c4 c5 h0 O0 p1 p2) (wk G 89 rfl) (wk G 3 rfl) (by decide) (by decide)) (wk G 87 rfl) (wk G 88 rfl) (wk G 3 rfl) (wk G 89 rfl) (by decide) pd9 rfl rfl (by rw [hml]; rfl) (Nat.le_of_ble_eq_true rfl) rfl rfl (by decide) (by decide) all0 (fun _ _ => sf0) (hb hby d14_79) (k_v (pc' := 82) rfl ?_)
  rintro _ h33 ⟨r35, rfl, rfl, f36⟩ K34
  refine go_istore (pc' := 84) (ls' := #[.val (.ref a), .val (.int (7 : Int32)), .val (.int q), .val (.int u), .val (.int r3), .val (.int r7), .val (.int r11), .val (.int r15), .val (.int r19), .val (.int r23), .val (.int r27), .val (.int r31), .val (.int r35), .unset, .unset, .unset]) (hb hby d14_82) rfl rfl ?_
  refine go_aload_n (pc' := 85) (hb hby d14_84) rfl rfl rfl ?_
  refine go_bipush (pc' := 87) (v := 9) (hb hby d14_85) rfl rfl ?_
  refine go_iload_n (pc' := 88) (hb hby d14_87) rfl rfl ?_
  refine go_iload_n (pc' := 89) (hb hby d14_88) rfl rfl ?_
  refine callS0 (cells' := 0) (slots' := 0) (Wd := 0) (argsL := [(.ref a), (.int (9 : Int32)), (.int q), (.int u)]) (rest := []) (pay_of (a0 := a0) (c_at6_9 l G a q u c0 c1 c2 c3 c4 c5 h0 O0 p1 p2) (wk G 89 rfl) (wk G 3 rfl) (by decide) (by decide)) (wk G 87 rfl) (wk G 88 rfl) (wk G 3 rfl) (wk G 89 rfl) (by decide) pd9 rfl rfl (by rw [hml]; rfl) (Nat.le_of_ble_eq_true rfl) rfl rfl (by decide) (by decide) all0 (fun _ _ => sf0) (hb hby d14_89) (k_v (pc' := 92) rfl ?_)
  rintro _ h37 ⟨r39, rfl, rfl, f40⟩ K38
  refine go_istore (pc' := 94) (ls' := #[.val (.ref a), .val (.int (7 : Int32)), .val (.int q), .val (.int u), .val (.int r3), .val (.int r7), .val (.int r11), .val (.int r15), .val (.int r19), .val (.int r23), .val (.int r27), .val (.int r31), .val (.int r35), .val (.int r39), .unset, .unset]) (hb hby d14_92) rfl rfl ?_
  refine go_aload_n (pc' := 95) (hb hby d14_94) rfl rfl rfl ?_
  refine go_bipush (pc' := 97) (v := 10) (hb hby d14_95) rfl rfl ?_
  refine go_iload_n (pc' := 98) (hb hby d14_97) rfl rfl ?_
  refine go_iload_n (pc' := 99) (hb hby d14_98) rfl rfl ?_
  refine callS0 (cells' := 0) (slots' := 0) (Wd := 0) (argsL := [(.ref a), (.int (10 : Int32)), (.int q), (.int u)]) (rest := []) (pay_of (a0 := a0) (c_at6_10 l G a q u c0 c1 c2 c3 c4 c5 h0 O0 p1 p2) (wk G 89 rfl) (wk G 3 rfl) (by decide) (by decide)) (wk G 87 rfl) (wk G 88 rfl) (wk G 3 rfl) (wk G 89 rfl) (by decide) pd9 rfl rfl (by rw [hml]; rfl) (Nat.le_of_ble_eq_true rfl) rfl rfl (by decide) (by decide) all0 (fun _ _ => sf0) (hb hby d14_99) (k_v (pc' := 102) rfl ?_)
  rintro _ h41 ⟨r43, rfl, rfl, f44⟩ K42
  refine go_istore (pc' := 104) (ls' := #[.val (.ref a), .val (.int (7 : Int32)), .val (.int q), .val (.int u), .val (.int r3), .val (.int r7), .val (.int r11), .val (.int r15), .val (.int r19), .val (.int r23), .val (.int r27), .val (.int r31), .val (.int r35), .val (.int r39), .val (.int r43), .unset]) (hb hby d14_102) rfl rfl ?_
  refine go_aload_n (pc' := 105) (hb hby d14_104) rfl rfl rfl ?_
  refine go_bipush (pc' := 107) (v := 11) (hb hby d14_105) rfl rfl ?_
  refine go_iload_n (pc' := 108) (hb hby d14_107) rfl rfl ?_
  refine go_iload_n (pc' := 109) (hb hby d14_108) rfl rfl ?_
  refine callS0 (cells' := 0) (slots' := 0) (Wd := 0) (argsL := [(.ref a), (.int (11 : Int32)), (.int q), (.int u)]) (rest := []) (pay_of (a0 := a0) (c_at6_11 l G a q u c0 c1 c2 c3 c4 c5 h0 O0 p1 p2) (wk G 89 rfl) (wk G 3 rfl) (by decide) (by decide)) (wk G 87 rfl) (wk G 88 rfl) (wk G 3 rfl) (wk G 89 rfl) (by decide) pd9 rfl rfl (by rw [hml]; rfl) (Nat.le_of_ble_eq_true rfl) rfl rfl (by decide) (by decide) all0 (fun _ _ => sf0) (hb hby d14_109) (k_v (pc' := 112) rfl ?_)
  rintro _ h45 ⟨r47, rfl, rfl, f48⟩ K46
  refine go_istore (pc' := 114) (ls' := #[.val (.ref a), .val (.int (7 : Int32)), .val (.int q), .val (.int u), .val (.int r3), .val (.int r7), .val (.int r11), .val (.int r15), .val (.int r19), .val (.int r23), .val (.int r27), .val (.int r31), .val (.int r35), .val (.int r39), .val (.int r43), .val (.int r47)]) (hb hby d14_112) rfl rfl ?_
  refine go_iload_n (pc' := 115) (hb hby d14_114) rfl rfl ?_
  refine go_iconst (pc' := 116) (v := 5) (hb hby d14_115) rfl rfl ?_
  refine go_icT (pc' := 155) (hb hby d14_116) (by decide) rfl (by decide) ?_
  refine go_iload_n (pc' := 156) (hb hby d14_155) rfl rfl ?_
  refine go_bipush (pc' := 158) (v := 6) (hb hby d14_156) rfl rfl ?_
  refine go_icT (pc' := 203) (hb hby d14_158) (by decide) rfl (by decide) ?_
  refine go_iload_n (pc' := 204) (hb hby d14_203) rfl rfl ?_
  refine go_bipush (pc' := 206) (v := 7) (hb hby d14_204) rfl rfl ?_
  refine go_icF (pc' := 209) (hb hby d14_206) rfl (by decide) ?_
  refine go_newO (pc' := 212) (cells' := 1) (slots' := 4) (wk G 111 rfl) (wk G 7 rfl) (wk G 6 rfl) (hb hby d14_209) rfl rfl rfl (by decide) (by decide) (fun h49 a50 g51 X52 E53 D54 U55 => ?_)
  refine go_dup (pc' := 213) (hb hby d14_212) rfl rfl ?_
  refine go_bipush (pc' := 215) (v := 7) (hb hby d14_213) rfl rfl ?_
  refine go_newP (pc' := 217) (cells' := 2) (slots' := 11) (cap := 7) (vs := [(.int (0 : Int32)), (.int (0 : Int32)), (.int (0 : Int32)), (.int (0 : Int32)), (.int (0 : Int32)), (.int (0 : Int32)), (.int (0 : Int32))]) (ty := .char) (dv := .int 0) (wk G 112 rfl) rfl rfl (hb hby d14_215) rfl (by decide) rfl (by decide) rfl rfl rfl (by decide) (by decide) (fun h56 a57 k61 g58 X59 A60 => ?_)
  refine go_dup (pc' := 218) (hb hby d14_217) rfl rfl ?_
  refine go_iconst (pc' := 219) (v := 0) (hb hby d14_218) rfl rfl ?_
  refine go_iload (pc' := 221) (hb hby d14_219) rfl rfl ?_
  have K65 : Keep h0 h49 [] := ((Keep.refl h0 []).ext X52)
  refine go_stC (pc' := 222) (i := 0) (x' := r3) (vs' := [(.int r3), (.int (0 : Int32)), (.int (0 : Int32)), (.int (0 : Int32)), (.int (0 : Int32)), (.int (0 : Int32)), (.int (0 : Int32))]) A60 (Nat.le_trans O0.2.1 (Nat.le_trans K65.1 (Nat.le_of_eq g58))) (by decide) (by decide) rfl (Nat.le_of_ble_eq_true rfl) (i2c_c8 f4) rfl (hb hby d14_221) rfl (fun h62 W63 A64 => ?_)
  refine go_dup (pc' := 223) (hb hby d14_222) rfl rfl ?_
  refine go_iconst (pc' := 224) (v := 1) (hb hby d14_223) rfl rfl ?_
  refine go_iload (pc' := 226) (hb hby d14_224) rfl rfl ?_
  refine go_stC (pc' := 227) (i := 1) (x' := r7) (vs' := [(.int r3), (.int r7), (.int (0 : Int32)), (.int (0 : Int32)), (.int (0 : Int32)), (.int (0 : Int32)), (.int (0 : Int32))]) A64 (Nat.le_trans O0.2.1 (Nat.le_trans K65.1 (Nat.le_of_eq g58))) (by decide) (by decide) rfl (Nat.le_of_ble_eq_true rfl) (i2c_c8 f8) rfl (hb hby d14_226) rfl (fun h66 W67 A68 => ?_)
  refine go_dup (pc' := 228) (hb hby d14_227) rfl rfl ?_
  refine go_iconst (pc' := 229) (v := 2) (hb hby d14_228) rfl rfl ?_
  refine go_iload (pc' := 231) (hb hby d14_229) rfl rfl ?_
  refine go_stC (pc' := 232) (i := 2) (x' := r11) (vs' := [(.int r3), (.int r7), (.int r11), (.int (0 : Int32)), (.int (0 : Int32)), (.int (0 : Int32)), (.int (0 : Int32))]) A68 (Nat.le_trans O0.2.1 (Nat.le_trans K65.1 (Nat.le_of_eq g58))) (by decide) (by decide) rfl (Nat.le_of_ble_eq_true rfl) (i2c_c8 f12) rfl (hb hby d14_231) rfl (fun h69 W70 A71 => ?_)
  refine go_dup (pc' := 233) (hb hby d14_232) rfl rfl ?_
  refine go_iconst (pc' := 234) (v := 3) (hb hby d14_233) rfl rfl ?_
  refine go_iload (pc' := 236) (hb hby d14_234) rfl rfl ?_
  refine go_stC (pc' := 237) (i := 3) (x' := r15) (vs' := [(.int r3), (.int r7), (.int r11), (.int r15), (.int (0 : Int32)), (.int (0 : Int32)), (.int (0 : Int32))]) A71 (Nat.le_trans O0.2.1 (Nat.le_trans K65.1 (Nat.le_of_eq g58))) (by decide) (by decide) rfl (Nat.le_of_ble_eq_true rfl) (i2c_c8 f16) rfl (hb hby d14_236) rfl (fun h72 W73 A74 => ?_)
  refine go_dup (pc' := 238) (hb hby d14_237) rfl rfl ?_
  refine go_iconst (pc' := 239) (v := 4) (hb hby d14_238) rfl rfl ?_
  refine go_iload (pc' := 241) (hb hby d14_239) rfl rfl ?_
  refine go_stC (pc' := 242) (i := 4) (x' := r19) (vs' := [(.int r3), (.int r7), (.int r11), (.int r15), (.int r19), (.int (0 : Int32)), (.int (0 : Int32))]) A74 (Nat.le_trans O0.2.1 (Nat.le_trans K65.1 (Nat.le_of_eq g58))) (by decide) (by decide) rfl (Nat.le_of_ble_eq_true rfl) (i2c_c8 f20) rfl (hb hby d14_241) rfl (fun h75 W76 A77 => ?_)
  refine go_dup (pc' := 243) (hb hby d14_242) rfl rfl ?_
  refine go_iconst (pc' := 244) (v := 5) (hb hby d14_243) rfl rfl ?_
  refine go_iload (pc' := 246) (hb hby d14_244) rfl rfl ?_
  refine go_stC (pc' := 247) (i := 5) (x' := r23) (vs' := [(.int r3), (.int r7), (.int r11), (.int r15), (.int r19), (.int r23), (.int (0 : Int32))]) A77 (Nat.le_trans O0.2.1 (Nat.le_trans K65.1 (Nat.le_of_eq g58))) (by decide) (by decide) rfl (Nat.le_of_ble_eq_true rfl) (i2c_c8 f24) rfl (hb hby d14_246) rfl (fun h78 W79 A80 => ?_)
  refine go_dup (pc' := 248) (hb hby d14_247) rfl rfl ?_
  refine go_bipush (pc' := 250) (v := 6) (hb hby d14_248) rfl rfl ?_
  refine go_iload (pc' := 252) (hb hby d14_250) rfl rfl ?_
  refine go_stC (pc' := 253) (i := 6) (x' := r27) (vs' := [(.int r3), (.int r7), (.int r11), (.int r15), (.int r19), (.int r23), (.int r27)]) A80 (Nat.le_trans O0.2.1 (Nat.le_trans K65.1 (Nat.le_of_eq g58))) (by decide) (by decide) rfl (Nat.le_of_ble_eq_true rfl) (i2c_c8 f28) rfl (hb hby d14_252) rfl (fun h81 W82 A83 => ?_)
  have K84 : Keep h49 h56 [] := ((Keep.refl h49 []).ext X59)
  have K85 : Keep h49 h62 [] := (K84.wr W63 (Or.inr (Nat.le_of_eq g58)))
  have K86 : Keep h49 h66 [] := (K85.wr W67 (Or.inr (Nat.le_of_eq g58)))
  have K87 : Keep h49 h69 [] := (K86.wr W70 (Or.inr (Nat.le_of_eq g58)))
  have K88 : Keep h49 h72 [] := (K87.wr W73 (Or.inr (Nat.le_of_eq g58)))
  have K89 : Keep h49 h75 [] := (K88.wr W76 (Or.inr (Nat.le_of_eq g58)))
  have K90 : Keep h49 h78 [] := (K89.wr W79 (Or.inr (Nat.le_of_eq g58)))
  have K91 : Keep h49 h81 [] := (K90.wr W82 (Or.inr (Nat.le_of_eq g58)))
  have E92 := (E53.keep K91)
  have F93 := D54 (Or.inr (wk G 9 rfl)) (ty := (.array .byte)) (by decide)
  have F94 := (F93.keep K91 nin0)
  have F95 := D54 (Or.inr (wk G 10 rfl)) (ty := .byte) (by decide)
  have F96 := (F95.keep K91 nin0)
  refine go_old (fun O97 => ?_)
  refine callI0 (cells' := 3) (slots' := 18) (Wd := 1) (argsL := [(.ref a57)]) (rest := [(.ref a50)]) (pay_new G O97 (cs := [r3, r7, r11, r15, r19, r23, r27]) (n := 7) (Nat.le_trans O0.2.1 (Nat.le_of_eq g51)) E92 F94 F96 A83 rfl rfl (by decide) (by decide) (c8c f4 (c8c f8 (c8c f12 (c8c f16 (c8c f20 (c8c f24 (c8c f28 c8n))))))) (by decide) (by decide)) rfl (wk G 113 rfl) (wk G 114 rfl) (wk G 115 rfl) (by decide) pd10 rfl rfl (by rw [hml]; rfl) (Nat.le_of_ble_eq_true rfl) rfl rfl (by decide) (by decide) (allS (Nat.le_trans O0.2.1 (Nat.le_of_eq g51)) all0) (fun _ hal => (sfS safe_nil sf0)) (hb hby d14_253) (k_n (pc' := 256) rfl ?_)
  rintro h98 S100 K99
  have K101 : Keep h0 h56 [] := (K65.ext X59)
  have K102 : Keep h0 h62 [] := (K101.wr W63 (Or.inr (Nat.le_trans K65.1 (Nat.le_of_eq g58))))
  have K103 : Keep h0 h66 [] := (K102.wr W67 (Or.inr (Nat.le_trans K65.1 (Nat.le_of_eq g58))))
  have K104 : Keep h0 h69 [] := (K103.wr W70 (Or.inr (Nat.le_trans K65.1 (Nat.le_of_eq g58))))
  have K105 : Keep h0 h72 [] := (K104.wr W73 (Or.inr (Nat.le_trans K65.1 (Nat.le_of_eq g58))))
  have K106 : Keep h0 h75 [] := (K105.wr W76 (Or.inr (Nat.le_trans K65.1 (Nat.le_of_eq g58))))
  have K107 : Keep h0 h78 [] := (K106.wr W79 (Or.inr (Nat.le_trans K65.1 (Nat.le_of_eq g58))))
  have K108 : Keep h0 h81 [] := (K107.wr W82 (Or.inr (Nat.le_trans K65.1 (Nat.le_of_eq g58))))
  have K109 : Keep h0 h98 [] := (K108.trans K99 (allS (Or.inr (Nat.le_of_eq g51)) all0))
  refine go_areturn hret hlk rfl rfl (hb hby d14_256) (by decide) (by decide) ⟨_, rfl, ⟨a50, [r3, r7, r11, r15, r19, r23, r27], rfl, (Nat.le_of_eq g51), S100⟩⟩ K109
theorem ef_law (m : MethodId) (x0 : Int32) (x1 : Int32) (x2 : Int32) (x3 : Int64)  : entryFrame m #[(.int x0), (.int x1), (.int x2), (.long x3)] maxLocals = mkF m 0 #[.val (.int x0), .val (.int x1), .val (.int x2), .val (.long x3), .second, .unset, .unset, .unset, .unset, .unset] [] := by first | (simp [entryFrame, mkF, argsToLocals, Value.category, maxLocals]; done) | rfl
def Q_law (Z : State) (x0 : Int32) (x1 : Int32) (x2 : Int32) (x3 : Int64)  (h0 : Heap) (xv : Value) (h : Heap) : Prop := (.int (1 : Int32)) = xv
set_option maxRecDepth 65536 in
set_option maxHeartbeats 40000000 in
theorem c_law (l : Launch) {Z : State} {a0 : Array Value} (G : GH Z a0) (x0 : Int32) (x1 : Int32) (x2 : Int32) (x3 : Int64)  (h0 : Heap) (O0 : Old Z Z.heap.size h0)  : Con true EL1 l Z x code maxLocals ret tables_1 room_1 #[(.int x0), (.int x1), (.int x2), (.long x3)] h0 [] (rvl (Q_law Z x0 x1 x2 x3 h0)) := by
  refine con_of (a0 := a0) (plainFor_of_name pn4) (fun q => nomatch q) (ew1 G) O0 (fun m => ef_law m x0 x1 x2 x3) ?_
  intro p_ e_ s_ m_ below_ meth_ c_ hby hml hret hlk hnm
  refine go_iload_n (pc' := 1) (hb hby at_0) rfl rfl ?_
  refine go_bipush (pc' := 3) (v := 7) (hb hby at_1) rfl rfl ?_
  refine go_iand (pc' := 4) (z := (x0 &&& (7 : Int32))) (hb hby at_3) rfl rfl ?_
  refine go_istore (pc' := 6) (ls' := #[.val (.int x0), .val (.int x1), .val (.int x2), .val (.long x3), .second, .val (.int (x0 &&& (7 : Int32))), .unset, .unset, .unset, .unset]) (hb hby at_4) rfl rfl ?_
  refine go_iload_n (pc' := 7) (hb hby at_6) rfl rfl ?_
  refine go_ldcI (pc' := 9) (v := (2147483647 : Int32)) (wk G 0 rfl) (hb hby at_7) rfl ?_
  refine go_iand (pc' := 10) (z := (x1 &&& (2147483647 : Int32))) (hb hby at_9) rfl rfl ?_
  refine go_iconst (pc' := 11) (v := 3) (hb hby at_10) rfl rfl ?_
  refine go_irem (pc' := 12) (z := ((x1 &&& (2147483647 : Int32)) % (3 : Int32))) (hb hby at_11) rfl (by decide) rfl ?_
  refine callSW0 rfl (cells' := 2) (slots' := 48) (Wd := 0) (argsL := [(.int ((x1 &&& (2147483647 : Int32)) % (3 : Int32)))]) (rest := []) (payW_of (a0 := a0) (c_word l G ((x1 &&& (2147483647 : Int32)) % (3 : Int32)) h0 O0 ) (wk G 4 rfl) (wk G 3 rfl) (by decide) (by decide) (ew1 G)) (wk G 1 rfl) (wk G 2 rfl) (wk G 3 rfl) (wk G 4 rfl) (by decide) pd11 rfl rfl (by rw [hml]; rfl) (Nat.le_of_ble_eq_true rfl) rfl rfl (by decide) (by decide) all0 (hb hby at_12) (k_v (pc' := 15) rfl ?_)
  rintro _ h1 (⟨r3, rfl, f4⟩ | ⟨r5, rfl, f6⟩ | ⟨r7, rfl, f8⟩) K2
  · refine go_astore (pc' := 17) (ls' := #[.val (.int x0), .val (.int x1), .val (.int x2), .val (.long x3), .second, .val (.int (x0 &&& (7 : Int32))), .val (.ref r3), .unset, .unset, .unset]) (hb hby at_15) rfl rfl rfl ?_
    refine go_aload (pc' := 19) (hb hby at_17) rfl rfl rfl ?_
    refine go_old (fun O9 => ?_)
    refine callV0 (cells' := 2) (slots' := 48) (Wd := 0) (argsL := []) (rest := []) (pay_len G O9 (n := (11 : Int32)) f4 rfl (by decide) (by decide)) f4.exa (wk G 13 rfl) (wk G 14 rfl) (wk G 16 rfl) (wk G 16 rfl) (wk G 15 rfl) (by decide) pd7 rfl rfl (by rw [hml]; rfl) (Nat.le_of_ble_eq_true rfl) rfl rfl (by decide) (by decide) all0 (fun _ _ => sf0) (hb hby at_19) (k_v (pc' := 22) rfl ?_)
    rintro _ _ ⟨rfl, rfl⟩ -
    refine go_istore (pc' := 24) (ls' := #[.val (.int x0), .val (.int x1), .val (.int x2), .val (.long x3), .second, .val (.int (x0 &&& (7 : Int32))), .val (.ref r3), .val (.int (11 : Int32)), .unset, .unset]) (hb hby at_22) rfl rfl ?_
    refine go_lload_n (pc' := 25) (hb hby at_24) rfl rfl ?_
    refine go_ldcJ (pc' := 28) (v := (255 : Int64)) (wk G 26 rfl) (hb hby at_25) rfl ?_
    refine go_land (pc' := 29) (z := (x3 &&& (255 : Int64))) (hb hby at_28) rfl rfl ?_
    refine go_l2i (pc' := 30) (z := ((x3 &&& (255 : Int64)).toInt32)) (hb hby at_29) rfl rfl ?_
    refine go_i2c (pc' := 31) (z := ((x3 &&& (255 : Int64)).toInt32)) (hb hby at_30) rfl (i2c_c8 (c8_l _)) ?_
    refine go_istore (pc' := 33) (ls' := #[.val (.int x0), .val (.int x1), .val (.int x2), .val (.long x3), .second, .val (.int (x0 &&& (7 : Int32))), .val (.ref r3), .val (.int (11 : Int32)), .val (.int ((x3 &&& (255 : Int64)).toInt32)), .unset]) (hb hby at_31) rfl rfl ?_
    refine go_iload (pc' := 35) (hb hby at_33) rfl rfl ?_
    by_cases cz10 : (x0 &&& (7 : Int32)) = (0 : Int32)
    · refine go_ifF (pc' := 38) (hb hby at_35) rfl (XT.i0_ne_f cz10) ?_
      refine go_aload (pc' := 40) (hb hby at_38) rfl rfl rfl ?_
      refine go_astore (pc' := 42) (ls' := #[.val (.int x0), .val (.int x1), .val (.int x2), .val (.long x3), .second, .val (.int (x0 &&& (7 : Int32))), .val (.ref r3), .val (.int (11 : Int32)), .val (.int ((x3 &&& (255 : Int64)).toInt32)), .val (.ref r3)]) (hb hby at_40) rfl rfl rfl ?_
      refine go_goto (pc' := 230) (hb hby at_42) (by decide) rfl ?_
      refine go_aload (pc' := 232) (hb hby at_230) rfl rfl rfl ?_
      refine callS0 (cells' := 3) (slots' := 51) (Wd := 0) (argsL := [(.ref r3)]) (rest := []) (pay_of (a0 := a0) (c_of l G r3 [(116 : Int32), (114 : Int32), (97 : Int32), (110 : Int32), (115 : Int32), (112 : Int32), (97 : Int32), (114 : Int32), (101 : Int32), (110 : Int32), (116 : Int32)] h1 O9 f4) (wk G 30 rfl) (wk G 29 rfl) (by decide) (by decide)) (wk G 27 rfl) (wk G 28 rfl) (wk G 29 rfl) (wk G 30 rfl) (by decide) pd12 rfl rfl (by rw [hml]; rfl) (Nat.le_of_ble_eq_true rfl) rfl rfl (by decide) (by decide) all0 (fun _ _ => sf0) (hb hby at_232) (k_v (pc' := 235) rfl ?_)
      rintro _ h11 (⟨rfl, f13⟩ | ⟨rfl, f14⟩ | ⟨rfl, f15⟩ | ⟨rfl, f16, f17, f18⟩) K12
      · refine go_aload (pc' := 237) (hb hby at_235) rfl rfl rfl ?_
        have K19 : Keep h1 h11 [] := ((Keep.refl h1 []).trans K12 all0)
        have S20 := (f4.keep K19)
        refine go_old (fun O21 => ?_)
        refine callSW0 rfl (cells' := 9) (slots' := 175) (Wd := 1) (argsL := [(.ref r3)]) (rest := [(.ref (s_TRANSPARENT Z))]) (payW_of (a0 := a0) (c_expd l G r3 [(116 : Int32), (114 : Int32), (97 : Int32), (110 : Int32), (115 : Int32), (112 : Int32), (97 : Int32), (114 : Int32), (101 : Int32), (110 : Int32), (116 : Int32)] h11 O21 S20) (wk G 64 rfl) (wk G 3 rfl) (by decide) (by decide) (ew1 G)) (wk G 62 rfl) (wk G 63 rfl) (wk G 3 rfl) (wk G 64 rfl) (by decide) pd12 rfl rfl (by rw [hml]; rfl) (Nat.le_of_ble_eq_true rfl) rfl rfl (by decide) (by decide) all0 (hb hby at_237) (k_v (pc' := 240) rfl ?_)
        rintro _ h22 (⟨rfl, f24⟩ | ⟨rfl, f25⟩ | ⟨rfl, f26⟩ | ⟨rfl, f27, f28, f29⟩) K23
        · refine go_acF (pc' := 243) (hb hby at_240) rfl rfl rfl (XT.aa_ne_f rfl) ?_
          refine go_iconst (pc' := 244) (v := 1) (hb hby at_243) rfl rfl ?_
          refine go_goto (pc' := 248) (hb hby at_244) (by decide) rfl ?_
          have K30 : Keep h0 h1 [] := ((Keep.refl h0 []).trans K2 all0)
          have K31 : Keep h0 h11 [] := (K30.trans K12 all0)
          have K32 : Keep h0 h22 [] := (K31.trans K23 all0)
          refine go_ireturn hret hlk rfl (by simp) (hb hby at_248) (by decide) (by decide) ⟨_, rfl, rfl⟩ K32
        · exact absurd (f13.trans f25) (by decide)
        · exact absurd (f13.trans f26) (by decide)
        · exact absurd f13.symm f27
      · refine go_aload (pc' := 237) (hb hby at_235) rfl rfl rfl ?_
        have K33 : Keep h1 h11 [] := ((Keep.refl h1 []).trans K12 all0)
        have S34 := (f4.keep K33)
        refine go_old (fun O35 => ?_)
        refine callSW0 rfl (cells' := 9) (slots' := 175) (Wd := 1) (argsL := [(.ref r3)]) (rest := [(.ref (s_TRANSLUCENT Z))]) (payW_of (a0 := a0) (c_expd l G r3 [(116 : Int32), (114 : Int32), (97 : Int32), (110 : Int32), (115 : Int32), (112 : Int32), (97 : Int32), (114 : Int32), (101 : Int32), (110 : Int32), (116 : Int32)] h11 O35 S34) (wk G 64 rfl) (wk G 3 rfl) (by decide) (by decide) (ew1 G)) (wk G 62 rfl) (wk G 63 rfl) (wk G 3 rfl) (wk G 64 rfl) (by decide) pd12 rfl rfl (by rw [hml]; rfl) (Nat.le_of_ble_eq_true rfl) rfl rfl (by decide) (by decide) all0 (hb hby at_237) (k_v (pc' := 240) rfl ?_)
        rintro _ h36 (⟨rfl, f38⟩ | ⟨rfl, f39⟩ | ⟨rfl, f40⟩ | ⟨rfl, f41, f42, f43⟩) K37
        · exact absurd (f14.trans f38) (by decide)
        · refine go_acF (pc' := 243) (hb hby at_240) rfl rfl rfl (XT.aa_ne_f rfl) ?_
          refine go_iconst (pc' := 244) (v := 1) (hb hby at_243) rfl rfl ?_
          refine go_goto (pc' := 248) (hb hby at_244) (by decide) rfl ?_
          have K44 : Keep h0 h1 [] := ((Keep.refl h0 []).trans K2 all0)
          have K45 : Keep h0 h11 [] := (K44.trans K12 all0)
          have K46 : Keep h0 h36 [] := (K45.trans K37 all0)
          refine go_ireturn hret hlk rfl (by simp) (hb hby at_248) (by decide) (by decide) ⟨_, rfl, rfl⟩ K46
        · exact absurd (f14.trans f40) (by decide)
        · exact absurd f14.symm f42
      · refine go_aload (pc' := 237) (hb hby at_235) rfl rfl rfl ?_
        have K47 : Keep h1 h11 [] := ((Keep.refl h1 []).trans K12 all0)
        have S48 := (f4.keep K47)
        refine go_old (fun O49 => ?_)
        refine callSW0 rfl (cells' := 9) (slots' := 175) (Wd := 1) (argsL := [(.ref r3)]) (rest := [(.ref (s_OPAQUE Z))]) (payW_of (a0 := a0) (c_expd l G r3 [(116 : Int32), (114 : Int32), (97 : Int32), (110 : Int32), (115 : Int32), (112 : Int32), (97 : Int32), (114 : Int32), (101 : Int32), (110 : Int32), (116 : Int32)] h11 O49 S48) (wk G 64 rfl) (wk G 3 rfl) (by decide) (by decide) (ew1 G)) (wk G 62 rfl) (wk G 63 rfl) (wk G 3 rfl) (wk G 64 rfl) (by decide) pd12 rfl rfl (by rw [hml]; rfl) (Nat.le_of_ble_eq_true rfl) rfl rfl (by decide) (by decide) all0 (hb hby at_237) (k_v (pc' := 240) rfl ?_)
        rintro _ h50 (⟨rfl, f52⟩ | ⟨rfl, f53⟩ | ⟨rfl, f54⟩ | ⟨rfl, f55, f56, f57⟩) K51
        · exact absurd (f15.trans f52) (by decide)
        · exact absurd (f15.trans f53) (by decide)
        · refine go_acF (pc' := 243) (hb hby at_240) rfl rfl rfl (XT.aa_ne_f rfl) ?_
          refine go_iconst (pc' := 244) (v := 1) (hb hby at_243) rfl rfl ?_
          refine go_goto (pc' := 248) (hb hby at_244) (by decide) rfl ?_
          have K58 : Keep h0 h1 [] := ((Keep.refl h0 []).trans K2 all0)
          have K59 : Keep h0 h11 [] := (K58.trans K12 all0)
          have K60 : Keep h0 h50 [] := (K59.trans K51 all0)
          refine go_ireturn hret hlk rfl (by simp) (hb hby at_248) (by decide) (by decide) ⟨_, rfl, rfl⟩ K60
        · exact absurd f15.symm f57
      · refine go_aload (pc' := 237) (hb hby at_235) rfl rfl rfl ?_
        have K61 : Keep h1 h11 [] := ((Keep.refl h1 []).trans K12 all0)
        have S62 := (f4.keep K61)
        refine go_old (fun O63 => ?_)
        refine callSW0 rfl (cells' := 9) (slots' := 175) (Wd := 1) (argsL := [(.ref r3)]) (rest := [.null]) (payW_of (a0 := a0) (c_expd l G r3 [(116 : Int32), (114 : Int32), (97 : Int32), (110 : Int32), (115 : Int32), (112 : Int32), (97 : Int32), (114 : Int32), (101 : Int32), (110 : Int32), (116 : Int32)] h11 O63 S62) (wk G 64 rfl) (wk G 3 rfl) (by decide) (by decide) (ew1 G)) (wk G 62 rfl) (wk G 63 rfl) (wk G 3 rfl) (wk G 64 rfl) (by decide) pd12 rfl rfl (by rw [hml]; rfl) (Nat.le_of_ble_eq_true rfl) rfl rfl (by decide) (by decide) all0 (hb hby at_237) (k_v (pc' := 240) rfl ?_)
        rintro _ h64 (⟨rfl, f66⟩ | ⟨rfl, f67⟩ | ⟨rfl, f68⟩ | ⟨rfl, f69, f70, f71⟩) K65
        · exact absurd f66.symm f16
        · exact absurd f67.symm f17
        · exact absurd f68.symm f18
        · refine go_acF (pc' := 243) (hb hby at_240) rfl rfl rfl (XT.aa_ne_f rfl) ?_
          refine go_iconst (pc' := 244) (v := 1) (hb hby at_243) rfl rfl ?_
          refine go_goto (pc' := 248) (hb hby at_244) (by decide) rfl ?_
          have K72 : Keep h0 h1 [] := ((Keep.refl h0 []).trans K2 all0)
          have K73 : Keep h0 h11 [] := (K72.trans K12 all0)
          have K74 : Keep h0 h64 [] := (K73.trans K65 all0)
          refine go_ireturn hret hlk rfl (by simp) (hb hby at_248) (by decide) (by decide) ⟨_, rfl, rfl⟩ K74
    · refine go_ifT (pc' := 45) (hb hby at_35) (by decide) rfl (XT.i0_ne_t cz10) ?_
      refine go_iload (pc' := 47) (hb hby at_45) rfl rfl ?_
      refine go_iconst (pc' := 48) (v := 1) (hb hby at_47) rfl rfl ?_
      by_cases cz75 : (x0 &&& (7 : Int32)) = (1 : Int32)
      · refine go_icF (pc' := 51) (hb hby at_48) rfl (XT.ii_ne_f cz75) ?_
        refine go_aload (pc' := 53) (hb hby at_51) rfl rfl rfl ?_
        refine go_iload (pc' := 55) (hb hby at_53) rfl rfl ?_
        refine go_iload_n (pc' := 56) (hb hby at_55) rfl rfl ?_
        refine go_ldcI (pc' := 58) (v := (2147483647 : Int32)) (wk G 0 rfl) (hb hby at_56) rfl ?_
        refine go_iand (pc' := 59) (z := (x2 &&& (2147483647 : Int32))) (hb hby at_58) rfl rfl ?_
        refine go_iload (pc' := 61) (hb hby at_59) rfl rfl ?_
        refine go_irem (pc' := 62) (z := ((x2 &&& (2147483647 : Int32)) % (11 : Int32))) (hb hby at_61) rfl (by decide) rfl ?_
        refine go_iload (pc' := 64) (hb hby at_62) rfl rfl ?_
        refine callS0 (cells' := 5) (slots' := 74) (Wd := 0) (argsL := [(.ref r3), (.int (11 : Int32)), (.int ((x2 &&& (2147483647 : Int32)) % (11 : Int32))), (.int ((x3 &&& (255 : Int64)).toInt32))]) (rest := []) (pay_of (a0 := a0) (c_edit11_11 l G r3 ((x2 &&& (2147483647 : Int32)) % (11 : Int32)) ((x3 &&& (255 : Int64)).toInt32) (116 : Int32) (114 : Int32) (97 : Int32) (110 : Int32) (115 : Int32) (112 : Int32) (97 : Int32) (114 : Int32) (101 : Int32) (110 : Int32) (116 : Int32) h1 O9 (c8_l _) f4) (wk G 86 rfl) (wk G 3 rfl) (by decide) (by decide)) (wk G 84 rfl) (wk G 85 rfl) (wk G 3 rfl) (wk G 86 rfl) (by decide) pd13 rfl rfl (by rw [hml]; rfl) (Nat.le_of_ble_eq_true rfl) rfl rfl (by decide) (by decide) all0 (fun _ _ => sf0) (hb hby at_64) (k_v (pc' := 67) rfl ?_)
        rintro _ h76 ⟨r78, r79, rfl, f80, f81⟩ K77
        refine go_astore (pc' := 69) (ls' := #[.val (.int x0), .val (.int x1), .val (.int x2), .val (.long x3), .second, .val (.int (x0 &&& (7 : Int32))), .val (.ref r3), .val (.int (11 : Int32)), .val (.int ((x3 &&& (255 : Int64)).toInt32)), .val (.ref r78)]) (hb hby at_67) rfl rfl rfl ?_
        refine go_goto (pc' := 230) (hb hby at_69) (by decide) rfl ?_
        refine go_aload (pc' := 232) (hb hby at_230) rfl rfl rfl ?_
        refine go_old (fun O82 => ?_)
        refine callS0 (cells' := 6) (slots' := 77) (Wd := 0) (argsL := [(.ref r78)]) (rest := []) (pay_of (a0 := a0) (c_of l G r78 r79 h76 O82 f81) (wk G 30 rfl) (wk G 29 rfl) (by decide) (by decide)) (wk G 27 rfl) (wk G 28 rfl) (wk G 29 rfl) (wk G 30 rfl) (by decide) pd12 rfl rfl (by rw [hml]; rfl) (Nat.le_of_ble_eq_true rfl) rfl rfl (by decide) (by decide) all0 (fun _ _ => sf0) (hb hby at_232) (k_v (pc' := 235) rfl ?_)
        rintro _ h83 (⟨rfl, f85⟩ | ⟨rfl, f86⟩ | ⟨rfl, f87⟩ | ⟨rfl, f88, f89, f90⟩) K84
        · refine go_aload (pc' := 237) (hb hby at_235) rfl rfl rfl ?_
          have K91 : Keep h76 h83 [] := ((Keep.refl h76 []).trans K84 all0)
          have S92 := (f81.keep K91)
          refine go_old (fun O93 => ?_)
          refine callSW0 rfl (cells' := 12) (slots' := 201) (Wd := 1) (argsL := [(.ref r78)]) (rest := [(.ref (s_TRANSPARENT Z))]) (payW_of (a0 := a0) (c_expd l G r78 r79 h83 O93 S92) (wk G 64 rfl) (wk G 3 rfl) (by decide) (by decide) (ew1 G)) (wk G 62 rfl) (wk G 63 rfl) (wk G 3 rfl) (wk G 64 rfl) (by decide) pd12 rfl rfl (by rw [hml]; rfl) (Nat.le_of_ble_eq_true rfl) rfl rfl (by decide) (by decide) all0 (hb hby at_237) (k_v (pc' := 240) rfl ?_)
          rintro _ h94 (⟨rfl, f96⟩ | ⟨rfl, f97⟩ | ⟨rfl, f98⟩ | ⟨rfl, f99, f100, f101⟩) K95
          · refine go_acF (pc' := 243) (hb hby at_240) rfl rfl rfl (XT.aa_ne_f rfl) ?_
            refine go_iconst (pc' := 244) (v := 1) (hb hby at_243) rfl rfl ?_
            refine go_goto (pc' := 248) (hb hby at_244) (by decide) rfl ?_
            have K102 : Keep h0 h1 [] := ((Keep.refl h0 []).trans K2 all0)
            have K103 : Keep h0 h76 [] := (K102.trans K77 all0)
            have K104 : Keep h0 h83 [] := (K103.trans K84 all0)
            have K105 : Keep h0 h94 [] := (K104.trans K95 all0)
            refine go_ireturn hret hlk rfl (by simp) (hb hby at_248) (by decide) (by decide) ⟨_, rfl, rfl⟩ K105
          · exact absurd (f85.trans f97) (by decide)
          · exact absurd (f85.trans f98) (by decide)
          · exact absurd f85.symm f99
        · refine go_aload (pc' := 237) (hb hby at_235) rfl rfl rfl ?_
          have K106 : Keep h76 h83 [] := ((Keep.refl h76 []).trans K84 all0)
          have S107 := (f81.keep K106)
          refine go_old (fun O108 => ?_)
          refine callSW0 rfl (cells' := 12) (slots' := 201) (Wd := 1) (argsL := [(.ref r78)]) (rest := [(.ref (s_TRANSLUCENT Z))]) (payW_of (a0 := a0) (c_expd l G r78 r79 h83 O108 S107) (wk G 64 rfl) (wk G 3 rfl) (by decide) (by decide) (ew1 G)) (wk G 62 rfl) (wk G 63 rfl) (wk G 3 rfl) (wk G 64 rfl) (by decide) pd12 rfl rfl (by rw [hml]; rfl) (Nat.le_of_ble_eq_true rfl) rfl rfl (by decide) (by decide) all0 (hb hby at_237) (k_v (pc' := 240) rfl ?_)
          rintro _ h109 (⟨rfl, f111⟩ | ⟨rfl, f112⟩ | ⟨rfl, f113⟩ | ⟨rfl, f114, f115, f116⟩) K110
          · exact absurd (f86.trans f111) (by decide)
          · refine go_acF (pc' := 243) (hb hby at_240) rfl rfl rfl (XT.aa_ne_f rfl) ?_
            refine go_iconst (pc' := 244) (v := 1) (hb hby at_243) rfl rfl ?_
            refine go_goto (pc' := 248) (hb hby at_244) (by decide) rfl ?_
            have K117 : Keep h0 h1 [] := ((Keep.refl h0 []).trans K2 all0)
            have K118 : Keep h0 h76 [] := (K117.trans K77 all0)
            have K119 : Keep h0 h83 [] := (K118.trans K84 all0)
            have K120 : Keep h0 h109 [] := (K119.trans K110 all0)
            refine go_ireturn hret hlk rfl (by simp) (hb hby at_248) (by decide) (by decide) ⟨_, rfl, rfl⟩ K120
          · exact absurd (f86.trans f113) (by decide)
          · exact absurd f86.symm f115
        · refine go_aload (pc' := 237) (hb hby at_235) rfl rfl rfl ?_
          have K121 : Keep h76 h83 [] := ((Keep.refl h76 []).trans K84 all0)
          have S122 := (f81.keep K121)
          refine go_old (fun O123 => ?_)
          refine callSW0 rfl (cells' := 12) (slots' := 201) (Wd := 1) (argsL := [(.ref r78)]) (rest := [(.ref (s_OPAQUE Z))]) (payW_of (a0 := a0) (c_expd l G r78 r79 h83 O123 S122) (wk G 64 rfl) (wk G 3 rfl) (by decide) (by decide) (ew1 G)) (wk G 62 rfl) (wk G 63 rfl) (wk G 3 rfl) (wk G 64 rfl) (by decide) pd12 rfl rfl (by rw [hml]; rfl) (Nat.le_of_ble_eq_true rfl) rfl rfl (by decide) (by decide) all0 (hb hby at_237) (k_v (pc' := 240) rfl ?_)
          rintro _ h124 (⟨rfl, f126⟩ | ⟨rfl, f127⟩ | ⟨rfl, f128⟩ | ⟨rfl, f129, f130, f131⟩) K125
          · exact absurd (f87.trans f126) (by decide)
          · exact absurd (f87.trans f127) (by decide)
          · refine go_acF (pc' := 243) (hb hby at_240) rfl rfl rfl (XT.aa_ne_f rfl) ?_
            refine go_iconst (pc' := 244) (v := 1) (hb hby at_243) rfl rfl ?_
            refine go_goto (pc' := 248) (hb hby at_244) (by decide) rfl ?_
            have K132 : Keep h0 h1 [] := ((Keep.refl h0 []).trans K2 all0)
            have K133 : Keep h0 h76 [] := (K132.trans K77 all0)
            have K134 : Keep h0 h83 [] := (K133.trans K84 all0)
            have K135 : Keep h0 h124 [] := (K134.trans K125 all0)
            refine go_ireturn hret hlk rfl (by simp) (hb hby at_248) (by decide) (by decide) ⟨_, rfl, rfl⟩ K135
          · exact absurd f87.symm f131
        · refine go_aload (pc' := 237) (hb hby at_235) rfl rfl rfl ?_
          have K136 : Keep h76 h83 [] := ((Keep.refl h76 []).trans K84 all0)
          have S137 := (f81.keep K136)
          refine go_old (fun O138 => ?_)
          refine callSW0 rfl (cells' := 12) (slots' := 201) (Wd := 1) (argsL := [(.ref r78)]) (rest := [.null]) (payW_of (a0 := a0) (c_expd l G r78 r79 h83 O138 S137) (wk G 64 rfl) (wk G 3 rfl) (by decide) (by decide) (ew1 G)) (wk G 62 rfl) (wk G 63 rfl) (wk G 3 rfl) (wk G 64 rfl) (by decide) pd12 rfl rfl (by rw [hml]; rfl) (Nat.le_of_ble_eq_true rfl) rfl rfl (by decide) (by decide) all0 (hb hby at_237) (k_v (pc' := 240) rfl ?_)
          rintro _ h139 (⟨rfl, f141⟩ | ⟨rfl, f142⟩ | ⟨rfl, f143⟩ | ⟨rfl, f144, f145, f146⟩) K140
          · exact absurd f141.symm f88
          · exact absurd f142.symm f89
          · exact absurd f143.symm f90
          · refine go_acF (pc' := 243) (hb hby at_240) rfl rfl rfl (XT.aa_ne_f rfl) ?_
            refine go_iconst (pc' := 244) (v := 1) (hb hby at_243) rfl rfl ?_
            refine go_goto (pc' := 248) (hb hby at_244) (by decide) rfl ?_
            have K147 : Keep h0 h1 [] := ((Keep.refl h0 []).trans K2 all0)
            have K148 : Keep h0 h76 [] := (K147.trans K77 all0)
            have K149 : Keep h0 h83 [] := (K148.trans K84 all0)
            have K150 : Keep h0 h139 [] := (K149.trans K140 all0)
            refine go_ireturn hret hlk rfl (by simp) (hb hby at_248) (by decide) (by decide) ⟨_, rfl, rfl⟩ K150
      · refine go_icT (pc' := 72) (hb hby at_48) (by decide) rfl (XT.ii_ne_t cz75) ?_
        refine go_iload (pc' := 74) (hb hby at_72) rfl rfl ?_
        refine go_iconst (pc' := 75) (v := 2) (hb hby at_74) rfl rfl ?_
        by_cases cz151 : (x0 &&& (7 : Int32)) = (2 : Int32)
        · refine go_icF (pc' := 78) (hb hby at_75) rfl (XT.ii_ne_f cz151) ?_
          refine go_aload (pc' := 80) (hb hby at_78) rfl rfl rfl ?_
          refine go_iload (pc' := 82) (hb hby at_80) rfl rfl ?_
          refine go_iconst (pc' := 83) (v := 1) (hb hby at_82) rfl rfl ?_
          refine go_isub (pc' := 84) (z := (10 : Int32)) (hb hby at_83) rfl (by decide) ?_
          refine go_iconst (pc' := 85) (v := (-1)) (hb hby at_84) rfl rfl ?_
          refine go_iload (pc' := 87) (hb hby at_85) rfl rfl ?_
          refine callS0 (cells' := 5) (slots' := 72) (Wd := 0) (argsL := [(.ref r3), (.int (10 : Int32)), (.int (-1 : Int32)), (.int ((x3 &&& (255 : Int64)).toInt32))]) (rest := []) (pay_of (a0 := a0) (c_edit11_10 l G r3 (-1 : Int32) ((x3 &&& (255 : Int64)).toInt32) (116 : Int32) (114 : Int32) (97 : Int32) (110 : Int32) (115 : Int32) (112 : Int32) (97 : Int32) (114 : Int32) (101 : Int32) (110 : Int32) (116 : Int32) h1 O9 (c8_l _) f4) (wk G 86 rfl) (wk G 3 rfl) (by decide) (by decide)) (wk G 84 rfl) (wk G 85 rfl) (wk G 3 rfl) (wk G 86 rfl) (by decide) pd13 rfl rfl (by rw [hml]; rfl) (Nat.le_of_ble_eq_true rfl) rfl rfl (by decide) (by decide) all0 (fun _ _ => sf0) (hb hby at_87) (k_v (pc' := 90) rfl ?_)
          rintro _ h152 ⟨r154, r155, rfl, f156, f157⟩ K153
          refine go_astore (pc' := 92) (ls' := #[.val (.int x0), .val (.int x1), .val (.int x2), .val (.long x3), .second, .val (.int (x0 &&& (7 : Int32))), .val (.ref r3), .val (.int (11 : Int32)), .val (.int ((x3 &&& (255 : Int64)).toInt32)), .val (.ref r154)]) (hb hby at_90) rfl rfl rfl ?_
          refine go_goto (pc' := 230) (hb hby at_92) (by decide) rfl ?_
          refine go_aload (pc' := 232) (hb hby at_230) rfl rfl rfl ?_
          refine go_old (fun O158 => ?_)
          refine callS0 (cells' := 6) (slots' := 75) (Wd := 0) (argsL := [(.ref r154)]) (rest := []) (pay_of (a0 := a0) (c_of l G r154 r155 h152 O158 f157) (wk G 30 rfl) (wk G 29 rfl) (by decide) (by decide)) (wk G 27 rfl) (wk G 28 rfl) (wk G 29 rfl) (wk G 30 rfl) (by decide) pd12 rfl rfl (by rw [hml]; rfl) (Nat.le_of_ble_eq_true rfl) rfl rfl (by decide) (by decide) all0 (fun _ _ => sf0) (hb hby at_232) (k_v (pc' := 235) rfl ?_)
          rintro _ h159 (⟨rfl, f161⟩ | ⟨rfl, f162⟩ | ⟨rfl, f163⟩ | ⟨rfl, f164, f165, f166⟩) K160
          · refine go_aload (pc' := 237) (hb hby at_235) rfl rfl rfl ?_
            have K167 : Keep h152 h159 [] := ((Keep.refl h152 []).trans K160 all0)
            have S168 := (f157.keep K167)
            refine go_old (fun O169 => ?_)
            refine callSW0 rfl (cells' := 12) (slots' := 199) (Wd := 1) (argsL := [(.ref r154)]) (rest := [(.ref (s_TRANSPARENT Z))]) (payW_of (a0 := a0) (c_expd l G r154 r155 h159 O169 S168) (wk G 64 rfl) (wk G 3 rfl) (by decide) (by decide) (ew1 G)) (wk G 62 rfl) (wk G 63 rfl) (wk G 3 rfl) (wk G 64 rfl) (by decide) pd12 rfl rfl (by rw [hml]; rfl) (Nat.le_of_ble_eq_true rfl) rfl rfl (by decide) (by decide) all0 (hb hby at_237) (k_v (pc' := 240) rfl ?_)
            rintro _ h170 (⟨rfl, f172⟩ | ⟨rfl, f173⟩ | ⟨rfl, f174⟩ | ⟨rfl, f175, f176, f177⟩) K171
            · refine go_acF (pc' := 243) (hb hby at_240) rfl rfl rfl (XT.aa_ne_f rfl) ?_
              refine go_iconst (pc' := 244) (v := 1) (hb hby at_243) rfl rfl ?_
              refine go_goto (pc' := 248) (hb hby at_244) (by decide) rfl ?_
              have K178 : Keep h0 h1 [] := ((Keep.refl h0 []).trans K2 all0)
              have K179 : Keep h0 h152 [] := (K178.trans K153 all0)
              have K180 : Keep h0 h159 [] := (K179.trans K160 all0)
              have K181 : Keep h0 h170 [] := (K180.trans K171 all0)
              refine go_ireturn hret hlk rfl (by simp) (hb hby at_248) (by decide) (by decide) ⟨_, rfl, rfl⟩ K181
            · exact absurd (f161.trans f173) (by decide)
            · exact absurd (f161.trans f174) (by decide)
            · exact absurd f161.symm f175
          · refine go_aload (pc' := 237) (hb hby at_235) rfl rfl rfl ?_
            have K182 : Keep h152 h159 [] := ((Keep.refl h152 []).trans K160 all0)
            have S183 := (f157.keep K182)
            refine go_old (fun O184 => ?_)
            refine callSW0 rfl (cells' := 12) (slots' := 199) (Wd := 1) (argsL := [(.ref r154)]) (rest := [(.ref (s_TRANSLUCENT Z))]) (payW_of (a0 := a0) (c_expd l G r154 r155 h159 O184 S183) (wk G 64 rfl) (wk G 3 rfl) (by decide) (by decide) (ew1 G)) (wk G 62 rfl) (wk G 63 rfl) (wk G 3 rfl) (wk G 64 rfl) (by decide) pd12 rfl rfl (by rw [hml]; rfl) (Nat.le_of_ble_eq_true rfl) rfl rfl (by decide) (by decide) all0 (hb hby at_237) (k_v (pc' := 240) rfl ?_)
            rintro _ h185 (⟨rfl, f187⟩ | ⟨rfl, f188⟩ | ⟨rfl, f189⟩ | ⟨rfl, f190, f191, f192⟩) K186
            · exact absurd (f162.trans f187) (by decide)
            · refine go_acF (pc' := 243) (hb hby at_240) rfl rfl rfl (XT.aa_ne_f rfl) ?_
              refine go_iconst (pc' := 244) (v := 1) (hb hby at_243) rfl rfl ?_
              refine go_goto (pc' := 248) (hb hby at_244) (by decide) rfl ?_
              have K193 : Keep h0 h1 [] := ((Keep.refl h0 []).trans K2 all0)
              have K194 : Keep h0 h152 [] := (K193.trans K153 all0)
              have K195 : Keep h0 h159 [] := (K194.trans K160 all0)
              have K196 : Keep h0 h185 [] := (K195.trans K186 all0)
              refine go_ireturn hret hlk rfl (by simp) (hb hby at_248) (by decide) (by decide) ⟨_, rfl, rfl⟩ K196
            · exact absurd (f162.trans f189) (by decide)
            · exact absurd f162.symm f191
          · refine go_aload (pc' := 237) (hb hby at_235) rfl rfl rfl ?_
            have K197 : Keep h152 h159 [] := ((Keep.refl h152 []).trans K160 all0)
            have S198 := (f157.keep K197)
            refine go_old (fun O199 => ?_)
            refine callSW0 rfl (cells' := 12) (slots' := 199) (Wd := 1) (argsL := [(.ref r154)]) (rest := [(.ref (s_OPAQUE Z))]) (payW_of (a0 := a0) (c_expd l G r154 r155 h159 O199 S198) (wk G 64 rfl) (wk G 3 rfl) (by decide) (by decide) (ew1 G)) (wk G 62 rfl) (wk G 63 rfl) (wk G 3 rfl) (wk G 64 rfl) (by decide) pd12 rfl rfl (by rw [hml]; rfl) (Nat.le_of_ble_eq_true rfl) rfl rfl (by decide) (by decide) all0 (hb hby at_237) (k_v (pc' := 240) rfl ?_)
            rintro _ h200 (⟨rfl, f202⟩ | ⟨rfl, f203⟩ | ⟨rfl, f204⟩ | ⟨rfl, f205, f206, f207⟩) K201
            · exact absurd (f163.trans f202) (by decide)
            · exact absurd (f163.trans f203) (by decide)
            · refine go_acF (pc' := 243) (hb hby at_240) rfl rfl rfl (XT.aa_ne_f rfl) ?_
              refine go_iconst (pc' := 244) (v := 1) (hb hby at_243) rfl rfl ?_
              refine go_goto (pc' := 248) (hb hby at_244) (by decide) rfl ?_
              have K208 : Keep h0 h1 [] := ((Keep.refl h0 []).trans K2 all0)
              have K209 : Keep h0 h152 [] := (K208.trans K153 all0)
              have K210 : Keep h0 h159 [] := (K209.trans K160 all0)
              have K211 : Keep h0 h200 [] := (K210.trans K201 all0)
              refine go_ireturn hret hlk rfl (by simp) (hb hby at_248) (by decide) (by decide) ⟨_, rfl, rfl⟩ K211
            · exact absurd f163.symm f207
          · refine go_aload (pc' := 237) (hb hby at_235) rfl rfl rfl ?_
            have K212 : Keep h152 h159 [] := ((Keep.refl h152 []).trans K160 all0)
            have S213 := (f157.keep K212)
            refine go_old (fun O214 => ?_)
            refine callSW0 rfl (cells' := 12) (slots' := 199) (Wd := 1) (argsL := [(.ref r154)]) (rest := [.null]) (payW_of (a0 := a0) (c_expd l G r154 r155 h159 O214 S213) (wk G 64 rfl) (wk G 3 rfl) (by decide) (by decide) (ew1 G)) (wk G 62 rfl) (wk G 63 rfl) (wk G 3 rfl) (wk G 64 rfl) (by decide) pd12 rfl rfl (by rw [hml]; rfl) (Nat.le_of_ble_eq_true rfl) rfl rfl (by decide) (by decide) all0 (hb hby at_237) (k_v (pc' := 240) rfl ?_)
            rintro _ h215 (⟨rfl, f217⟩ | ⟨rfl, f218⟩ | ⟨rfl, f219⟩ | ⟨rfl, f220, f221, f222⟩) K216
            · exact absurd f217.symm f164
            · exact absurd f218.symm f165
            · exact absurd f219.symm f166
            · refine go_acF (pc' := 243) (hb hby at_240) rfl rfl rfl (XT.aa_ne_f rfl) ?_
              refine go_iconst (pc' := 244) (v := 1) (hb hby at_243) rfl rfl ?_
              refine go_goto (pc' := 248) (hb hby at_244) (by decide) rfl ?_
              have K223 : Keep h0 h1 [] := ((Keep.refl h0 []).trans K2 all0)
              have K224 : Keep h0 h152 [] := (K223.trans K153 all0)
              have K225 : Keep h0 h159 [] := (K224.trans K160 all0)
              have K226 : Keep h0 h215 [] := (K225.trans K216 all0)
              refine go_ireturn hret hlk rfl (by simp) (hb hby at_248) (by decide) (by decide) ⟨_, rfl, rfl⟩ K226
        · refine go_icT (pc' := 95) (hb hby at_75) (by decide) rfl (XT.ii_ne_t cz151) ?_
          refine go_iload (pc' := 97) (hb hby at_95) rfl rfl ?_
          refine go_iconst (pc' := 98) (v := 3) (hb hby at_97) rfl rfl ?_
          by_cases cz227 : (x0 &&& (7 : Int32)) = (3 : Int32)
          · refine go_icF (pc' := 101) (hb hby at_98) rfl (XT.ii_ne_f cz227) ?_
            refine go_aload (pc' := 103) (hb hby at_101) rfl rfl rfl ?_
            refine go_iload (pc' := 105) (hb hby at_103) rfl rfl ?_
            refine go_iconst (pc' := 106) (v := 1) (hb hby at_105) rfl rfl ?_
            refine go_iadd (pc' := 107) (z := (12 : Int32)) (hb hby at_106) rfl (by decide) ?_
            refine go_iload (pc' := 109) (hb hby at_107) rfl rfl ?_
            refine go_iload (pc' := 111) (hb hby at_109) rfl rfl ?_
            refine callS0 (cells' := 5) (slots' := 76) (Wd := 0) (argsL := [(.ref r3), (.int (12 : Int32)), (.int (11 : Int32)), (.int ((x3 &&& (255 : Int64)).toInt32))]) (rest := []) (pay_of (a0 := a0) (c_edit11_12 l G r3 (11 : Int32) ((x3 &&& (255 : Int64)).toInt32) (116 : Int32) (114 : Int32) (97 : Int32) (110 : Int32) (115 : Int32) (112 : Int32) (97 : Int32) (114 : Int32) (101 : Int32) (110 : Int32) (116 : Int32) h1 O9 (c8_l _) f4) (wk G 86 rfl) (wk G 3 rfl) (by decide) (by decide)) (wk G 84 rfl) (wk G 85 rfl) (wk G 3 rfl) (wk G 86 rfl) (by decide) pd13 rfl rfl (by rw [hml]; rfl) (Nat.le_of_ble_eq_true rfl) rfl rfl (by decide) (by decide) all0 (fun _ _ => sf0) (hb hby at_111) (k_v (pc' := 114) rfl ?_)
            rintro _ h228 ⟨r230, r231, rfl, f232, f233⟩ K229
            refine go_astore (pc' := 116) (ls' := #[.val (.int x0), .val (.int x1), .val (.int x2), .val (.long x3), .second, .val (.int (x0 &&& (7 : Int32))), .val (.ref r3), .val (.int (11 : Int32)), .val (.int ((x3 &&& (255 : Int64)).toInt32)), .val (.ref r230)]) (hb hby at_114) rfl rfl rfl ?_
            refine go_goto (pc' := 230) (hb hby at_116) (by decide) rfl ?_
            refine go_aload (pc' := 232) (hb hby at_230) rfl rfl rfl ?_
            refine go_old (fun O234 => ?_)
            refine callS0 (cells' := 6) (slots' := 79) (Wd := 0) (argsL := [(.ref r230)]) (rest := []) (pay_of (a0 := a0) (c_of l G r230 r231 h228 O234 f233) (wk G 30 rfl) (wk G 29 rfl) (by decide) (by decide)) (wk G 27 rfl) (wk G 28 rfl) (wk G 29 rfl) (wk G 30 rfl) (by decide) pd12 rfl rfl (by rw [hml]; rfl) (Nat.le_of_ble_eq_true rfl) rfl rfl (by decide) (by decide) all0 (fun _ _ => sf0) (hb hby at_232) (k_v (pc' := 235) rfl ?_)
            rintro _ h235 (⟨rfl, f237⟩ | ⟨rfl, f238⟩ | ⟨rfl, f239⟩ | ⟨rfl, f240, f241, f242⟩) K236
            · refine go_aload (pc' := 237) (hb hby at_235) rfl rfl rfl ?_
              have K243 : Keep h228 h235 [] := ((Keep.refl h228 []).trans K236 all0)
              have S244 := (f233.keep K243)
              refine go_old (fun O245 => ?_)
              refine callSW0 rfl (cells' := 12) (slots' := 203) (Wd := 1) (argsL := [(.ref r230)]) (rest := [(.ref (s_TRANSPARENT Z))]) (payW_of (a0 := a0) (c_expd l G r230 r231 h235 O245 S244) (wk G 64 rfl) (wk G 3 rfl) (by decide) (by decide) (ew1 G)) (wk G 62 rfl) (wk G 63 rfl) (wk G 3 rfl) (wk G 64 rfl) (by decide) pd12 rfl rfl (by rw [hml]; rfl) (Nat.le_of_ble_eq_true rfl) rfl rfl (by decide) (by decide) all0 (hb hby at_237) (k_v (pc' := 240) rfl ?_)
              rintro _ h246 (⟨rfl, f248⟩ | ⟨rfl, f249⟩ | ⟨rfl, f250⟩ | ⟨rfl, f251, f252, f253⟩) K247
              · refine go_acF (pc' := 243) (hb hby at_240) rfl rfl rfl (XT.aa_ne_f rfl) ?_
                refine go_iconst (pc' := 244) (v := 1) (hb hby at_243) rfl rfl ?_
                refine go_goto (pc' := 248) (hb hby at_244) (by decide) rfl ?_
                have K254 : Keep h0 h1 [] := ((Keep.refl h0 []).trans K2 all0)
                have K255 : Keep h0 h228 [] := (K254.trans K229 all0)
                have K256 : Keep h0 h235 [] := (K255.trans K236 all0)
                have K257 : Keep h0 h246 [] := (K256.trans K247 all0)
                refine go_ireturn hret hlk rfl (by simp) (hb hby at_248) (by decide) (by decide) ⟨_, rfl, rfl⟩ K257
              · exact absurd (f237.trans f249) (by decide)
              · exact absurd (f237.trans f250) (by decide)
              · exact absurd f237.symm f251
            · refine go_aload (pc' := 237) (hb hby at_235) rfl rfl rfl ?_
              have K258 : Keep h228 h235 [] := ((Keep.refl h228 []).trans K236 all0)
              have S259 := (f233.keep K258)
              refine go_old (fun O260 => ?_)
              refine callSW0 rfl (cells' := 12) (slots' := 203) (Wd := 1) (argsL := [(.ref r230)]) (rest := [(.ref (s_TRANSLUCENT Z))]) (payW_of (a0 := a0) (c_expd l G r230 r231 h235 O260 S259) (wk G 64 rfl) (wk G 3 rfl) (by decide) (by decide) (ew1 G)) (wk G 62 rfl) (wk G 63 rfl) (wk G 3 rfl) (wk G 64 rfl) (by decide) pd12 rfl rfl (by rw [hml]; rfl) (Nat.le_of_ble_eq_true rfl) rfl rfl (by decide) (by decide) all0 (hb hby at_237) (k_v (pc' := 240) rfl ?_)
              rintro _ h261 (⟨rfl, f263⟩ | ⟨rfl, f264⟩ | ⟨rfl, f265⟩ | ⟨rfl, f266, f267, f268⟩) K262
              · exact absurd (f238.trans f263) (by decide)
              · refine go_acF (pc' := 243) (hb hby at_240) rfl rfl rfl (XT.aa_ne_f rfl) ?_
                refine go_iconst (pc' := 244) (v := 1) (hb hby at_243) rfl rfl ?_
                refine go_goto (pc' := 248) (hb hby at_244) (by decide) rfl ?_
                have K269 : Keep h0 h1 [] := ((Keep.refl h0 []).trans K2 all0)
                have K270 : Keep h0 h228 [] := (K269.trans K229 all0)
                have K271 : Keep h0 h235 [] := (K270.trans K236 all0)
                have K272 : Keep h0 h261 [] := (K271.trans K262 all0)
                refine go_ireturn hret hlk rfl (by simp) (hb hby at_248) (by decide) (by decide) ⟨_, rfl, rfl⟩ K272
              · exact absurd (f238.trans f265) (by decide)
              · exact absurd f238.symm f267
            · refine go_aload (pc' := 237) (hb hby at_235) rfl rfl rfl ?_
              have K273 : Keep h228 h235 [] := ((Keep.refl h228 []).trans K236 all0)
              have S274 := (f233.keep K273)
              refine go_old (fun O275 => ?_)
              refine callSW0 rfl (cells' := 12) (slots' := 203) (Wd := 1) (argsL := [(.ref r230)]) (rest := [(.ref (s_OPAQUE Z))]) (payW_of (a0 := a0) (c_expd l G r230 r231 h235 O275 S274) (wk G 64 rfl) (wk G 3 rfl) (by decide) (by decide) (ew1 G)) (wk G 62 rfl) (wk G 63 rfl) (wk G 3 rfl) (wk G 64 rfl) (by decide) pd12 rfl rfl (by rw [hml]; rfl) (Nat.le_of_ble_eq_true rfl) rfl rfl (by decide) (by decide) all0 (hb hby at_237) (k_v (pc' := 240) rfl ?_)
              rintro _ h276 (⟨rfl, f278⟩ | ⟨rfl, f279⟩ | ⟨rfl, f280⟩ | ⟨rfl, f281, f282, f283⟩) K277
              · exact absurd (f239.trans f278) (by decide)
              · exact absurd (f239.trans f279) (by decide)
              · refine go_acF (pc' := 243) (hb hby at_240) rfl rfl rfl (XT.aa_ne_f rfl) ?_
                refine go_iconst (pc' := 244) (v := 1) (hb hby at_243) rfl rfl ?_
                refine go_goto (pc' := 248) (hb hby at_244) (by decide) rfl ?_
                have K284 : Keep h0 h1 [] := ((Keep.refl h0 []).trans K2 all0)
                have K285 : Keep h0 h228 [] := (K284.trans K229 all0)
                have K286 : Keep h0 h235 [] := (K285.trans K236 all0)
                have K287 : Keep h0 h276 [] := (K286.trans K277 all0)
                refine go_ireturn hret hlk rfl (by simp) (hb hby at_248) (by decide) (by decide) ⟨_, rfl, rfl⟩ K287
              · exact absurd f239.symm f283
            · refine go_aload (pc' := 237) (hb hby at_235) rfl rfl rfl ?_
              have K288 : Keep h228 h235 [] := ((Keep.refl h228 []).trans K236 all0)
              have S289 := (f233.keep K288)
              refine go_old (fun O290 => ?_)
              refine callSW0 rfl (cells' := 12) (slots' := 203) (Wd := 1) (argsL := [(.ref r230)]) (rest := [.null]) (payW_of (a0 := a0) (c_expd l G r230 r231 h235 O290 S289) (wk G 64 rfl) (wk G 3 rfl) (by decide) (by decide) (ew1 G)) (wk G 62 rfl) (wk G 63 rfl) (wk G 3 rfl) (wk G 64 rfl) (by decide) pd12 rfl rfl (by rw [hml]; rfl) (Nat.le_of_ble_eq_true rfl) rfl rfl (by decide) (by decide) all0 (hb hby at_237) (k_v (pc' := 240) rfl ?_)
              rintro _ h291 (⟨rfl, f293⟩ | ⟨rfl, f294⟩ | ⟨rfl, f295⟩ | ⟨rfl, f296, f297, f298⟩) K292
              · exact absurd f293.symm f240
              · exact absurd f294.symm f241
              · exact absurd f295.symm f242
              · refine go_acF (pc' := 243) (hb hby at_240) rfl rfl rfl (XT.aa_ne_f rfl) ?_
                refine go_iconst (pc' := 244) (v := 1) (hb hby at_243) rfl rfl ?_
                refine go_goto (pc' := 248) (hb hby at_244) (by decide) rfl ?_
                have K299 : Keep h0 h1 [] := ((Keep.refl h0 []).trans K2 all0)
                have K300 : Keep h0 h228 [] := (K299.trans K229 all0)
                have K301 : Keep h0 h235 [] := (K300.trans K236 all0)
                have K302 : Keep h0 h291 [] := (K301.trans K292 all0)
                refine go_ireturn hret hlk rfl (by simp) (hb hby at_248) (by decide) (by decide) ⟨_, rfl, rfl⟩ K302
          · refine go_icT (pc' := 119) (hb hby at_98) (by decide) rfl (XT.ii_ne_t cz227) ?_
            refine go_iload (pc' := 121) (hb hby at_119) rfl rfl ?_
            refine go_iconst (pc' := 122) (v := 4) (hb hby at_121) rfl rfl ?_
            by_cases cz303 : (x0 &&& (7 : Int32)) = (4 : Int32)
            · refine go_icF (pc' := 125) (hb hby at_122) rfl (XT.ii_ne_f cz303) ?_
              refine go_iload (pc' := 127) (hb hby at_125) rfl rfl ?_
              refine callS0 (cells' := 4) (slots' := 53) (Wd := 0) (argsL := [(.int ((x3 &&& (255 : Int64)).toInt32))]) (rest := []) (pay_of (a0 := a0) (c_valueof l G ((x3 &&& (255 : Int64)).toInt32) h1 O9 (c8_l _)) (wk G 70 rfl) (wk G 6 rfl) (by decide) (by decide)) (wk G 68 rfl) (wk G 69 rfl) (wk G 6 rfl) (wk G 70 rfl) (by decide) pd14 rfl rfl (by rw [hml]; rfl) (Nat.le_of_ble_eq_true rfl) rfl rfl (by decide) (by decide) all0 (fun _ _ => sf0) (hb hby at_127) (k_v (pc' := 130) rfl ?_)
              rintro _ h304 ⟨r306, rfl, f307, f308⟩ K305
              refine go_astore (pc' := 132) (ls' := #[.val (.int x0), .val (.int x1), .val (.int x2), .val (.long x3), .second, .val (.int (x0 &&& (7 : Int32))), .val (.ref r3), .val (.int (11 : Int32)), .val (.int ((x3 &&& (255 : Int64)).toInt32)), .val (.ref r306)]) (hb hby at_130) rfl rfl rfl ?_
              refine go_goto (pc' := 230) (hb hby at_132) (by decide) rfl ?_
              refine go_aload (pc' := 232) (hb hby at_230) rfl rfl rfl ?_
              refine go_old (fun O309 => ?_)
              refine callS0 (cells' := 5) (slots' := 56) (Wd := 0) (argsL := [(.ref r306)]) (rest := []) (pay_of (a0 := a0) (c_of l G r306 [((x3 &&& (255 : Int64)).toInt32)] h304 O309 f308) (wk G 30 rfl) (wk G 29 rfl) (by decide) (by decide)) (wk G 27 rfl) (wk G 28 rfl) (wk G 29 rfl) (wk G 30 rfl) (by decide) pd12 rfl rfl (by rw [hml]; rfl) (Nat.le_of_ble_eq_true rfl) rfl rfl (by decide) (by decide) all0 (fun _ _ => sf0) (hb hby at_232) (k_v (pc' := 235) rfl ?_)
              rintro _ h310 (⟨rfl, f312⟩ | ⟨rfl, f313⟩ | ⟨rfl, f314⟩ | ⟨rfl, f315, f316, f317⟩) K311
              · refine go_aload (pc' := 237) (hb hby at_235) rfl rfl rfl ?_
                have K318 : Keep h304 h310 [] := ((Keep.refl h304 []).trans K311 all0)
                have S319 := (f308.keep K318)
                refine go_old (fun O320 => ?_)
                refine callSW0 rfl (cells' := 11) (slots' := 180) (Wd := 1) (argsL := [(.ref r306)]) (rest := [(.ref (s_TRANSPARENT Z))]) (payW_of (a0 := a0) (c_expd l G r306 [((x3 &&& (255 : Int64)).toInt32)] h310 O320 S319) (wk G 64 rfl) (wk G 3 rfl) (by decide) (by decide) (ew1 G)) (wk G 62 rfl) (wk G 63 rfl) (wk G 3 rfl) (wk G 64 rfl) (by decide) pd12 rfl rfl (by rw [hml]; rfl) (Nat.le_of_ble_eq_true rfl) rfl rfl (by decide) (by decide) all0 (hb hby at_237) (k_v (pc' := 240) rfl ?_)
                rintro _ h321 (⟨rfl, f323⟩ | ⟨rfl, f324⟩ | ⟨rfl, f325⟩ | ⟨rfl, f326, f327, f328⟩) K322
                · refine go_acF (pc' := 243) (hb hby at_240) rfl rfl rfl (XT.aa_ne_f rfl) ?_
                  refine go_iconst (pc' := 244) (v := 1) (hb hby at_243) rfl rfl ?_
                  refine go_goto (pc' := 248) (hb hby at_244) (by decide) rfl ?_
                  have K329 : Keep h0 h1 [] := ((Keep.refl h0 []).trans K2 all0)
                  have K330 : Keep h0 h304 [] := (K329.trans K305 all0)
                  have K331 : Keep h0 h310 [] := (K330.trans K311 all0)
                  have K332 : Keep h0 h321 [] := (K331.trans K322 all0)
                  refine go_ireturn hret hlk rfl (by simp) (hb hby at_248) (by decide) (by decide) ⟨_, rfl, rfl⟩ K332
                · exact absurd (f312.trans f324) (by decide)
                · exact absurd (f312.trans f325) (by decide)
                · exact absurd f312.symm f326
              · refine go_aload (pc' := 237) (hb hby at_235) rfl rfl rfl ?_
                have K333 : Keep h304 h310 [] := ((Keep.refl h304 []).trans K311 all0)
                have S334 := (f308.keep K333)
                refine go_old (fun O335 => ?_)
                refine callSW0 rfl (cells' := 11) (slots' := 180) (Wd := 1) (argsL := [(.ref r306)]) (rest := [(.ref (s_TRANSLUCENT Z))]) (payW_of (a0 := a0) (c_expd l G r306 [((x3 &&& (255 : Int64)).toInt32)] h310 O335 S334) (wk G 64 rfl) (wk G 3 rfl) (by decide) (by decide) (ew1 G)) (wk G 62 rfl) (wk G 63 rfl) (wk G 3 rfl) (wk G 64 rfl) (by decide) pd12 rfl rfl (by rw [hml]; rfl) (Nat.le_of_ble_eq_true rfl) rfl rfl (by decide) (by decide) all0 (hb hby at_237) (k_v (pc' := 240) rfl ?_)
                rintro _ h336 (⟨rfl, f338⟩ | ⟨rfl, f339⟩ | ⟨rfl, f340⟩ | ⟨rfl, f341, f342, f343⟩) K337
                · exact absurd (f313.trans f338) (by decide)
                · refine go_acF (pc' := 243) (hb hby at_240) rfl rfl rfl (XT.aa_ne_f rfl) ?_
                  refine go_iconst (pc' := 244) (v := 1) (hb hby at_243) rfl rfl ?_
                  refine go_goto (pc' := 248) (hb hby at_244) (by decide) rfl ?_
                  have K344 : Keep h0 h1 [] := ((Keep.refl h0 []).trans K2 all0)
                  have K345 : Keep h0 h304 [] := (K344.trans K305 all0)
                  have K346 : Keep h0 h310 [] := (K345.trans K311 all0)
                  have K347 : Keep h0 h336 [] := (K346.trans K337 all0)
                  refine go_ireturn hret hlk rfl (by simp) (hb hby at_248) (by decide) (by decide) ⟨_, rfl, rfl⟩ K347
                · exact absurd (f313.trans f340) (by decide)
                · exact absurd f313.symm f342
              · refine go_aload (pc' := 237) (hb hby at_235) rfl rfl rfl ?_
                have K348 : Keep h304 h310 [] := ((Keep.refl h304 []).trans K311 all0)
                have S349 := (f308.keep K348)
                refine go_old (fun O350 => ?_)
                refine callSW0 rfl (cells' := 11) (slots' := 180) (Wd := 1) (argsL := [(.ref r306)]) (rest := [(.ref (s_OPAQUE Z))]) (payW_of (a0 := a0) (c_expd l G r306 [((x3 &&& (255 : Int64)).toInt32)] h310 O350 S349) (wk G 64 rfl) (wk G 3 rfl) (by decide) (by decide) (ew1 G)) (wk G 62 rfl) (wk G 63 rfl) (wk G 3 rfl) (wk G 64 rfl) (by decide) pd12 rfl rfl (by rw [hml]; rfl) (Nat.le_of_ble_eq_true rfl) rfl rfl (by decide) (by decide) all0 (hb hby at_237) (k_v (pc' := 240) rfl ?_)
                rintro _ h351 (⟨rfl, f353⟩ | ⟨rfl, f354⟩ | ⟨rfl, f355⟩ | ⟨rfl, f356, f357, f358⟩) K352
                · exact absurd (f314.trans f353) (by decide)
                · exact absurd (f314.trans f354) (by decide)
                · refine go_acF (pc' := 243) (hb hby at_240) rfl rfl rfl (XT.aa_ne_f rfl) ?_
                  refine go_iconst (pc' := 244) (v := 1) (hb hby at_243) rfl rfl ?_
                  refine go_goto (pc' := 248) (hb hby at_244) (by decide) rfl ?_
                  have K359 : Keep h0 h1 [] := ((Keep.refl h0 []).trans K2 all0)
                  have K360 : Keep h0 h304 [] := (K359.trans K305 all0)
                  have K361 : Keep h0 h310 [] := (K360.trans K311 all0)
                  have K362 : Keep h0 h351 [] := (K361.trans K352 all0)
                  refine go_ireturn hret hlk rfl (by simp) (hb hby at_248) (by decide) (by decide) ⟨_, rfl, rfl⟩ K362
                · exact absurd f314.symm f358
              · refine go_aload (pc' := 237) (hb hby at_235) rfl rfl rfl ?_
                have K363 : Keep h304 h310 [] := ((Keep.refl h304 []).trans K311 all0)
                have S364 := (f308.keep K363)
                refine go_old (fun O365 => ?_)
                refine callSW0 rfl (cells' := 11) (slots' := 180) (Wd := 1) (argsL := [(.ref r306)]) (rest := [.null]) (payW_of (a0 := a0) (c_expd l G r306 [((x3 &&& (255 : Int64)).toInt32)] h310 O365 S364) (wk G 64 rfl) (wk G 3 rfl) (by decide) (by decide) (ew1 G)) (wk G 62 rfl) (wk G 63 rfl) (wk G 3 rfl) (wk G 64 rfl) (by decide) pd12 rfl rfl (by rw [hml]; rfl) (Nat.le_of_ble_eq_true rfl) rfl rfl (by decide) (by decide) all0 (hb hby at_237) (k_v (pc' := 240) rfl ?_)
                rintro _ h366 (⟨rfl, f368⟩ | ⟨rfl, f369⟩ | ⟨rfl, f370⟩ | ⟨rfl, f371, f372, f373⟩) K367
                · exact absurd f368.symm f315
                · exact absurd f369.symm f316
                · exact absurd f370.symm f317
                · refine go_acF (pc' := 243) (hb hby at_240) rfl rfl rfl (XT.aa_ne_f rfl) ?_
                  refine go_iconst (pc' := 244) (v := 1) (hb hby at_243) rfl rfl ?_
                  refine go_goto (pc' := 248) (hb hby at_244) (by decide) rfl ?_
                  have K374 : Keep h0 h1 [] := ((Keep.refl h0 []).trans K2 all0)
                  have K375 : Keep h0 h304 [] := (K374.trans K305 all0)
                  have K376 : Keep h0 h310 [] := (K375.trans K311 all0)
                  have K377 : Keep h0 h366 [] := (K376.trans K367 all0)
                  refine go_ireturn hret hlk rfl (by simp) (hb hby at_248) (by decide) (by decide) ⟨_, rfl, rfl⟩ K377
            · refine go_icT (pc' := 135) (hb hby at_122) (by decide) rfl (XT.ii_ne_t cz303) ?_
              refine go_iload (pc' := 137) (hb hby at_135) rfl rfl ?_
              refine go_iconst (pc' := 138) (v := 5) (hb hby at_137) rfl rfl ?_
              by_cases cz378 : (x0 &&& (7 : Int32)) = (5 : Int32)
              · refine go_icF (pc' := 141) (hb hby at_138) rfl (XT.ii_ne_f cz378) ?_
                refine go_newO (pc' := 144) (cells' := 3) (slots' := 52) (wk G 111 rfl) (wk G 7 rfl) (wk G 6 rfl) (hb hby at_141) rfl rfl rfl (by decide) (by decide) (fun h379 a380 g381 X382 E383 D384 U385 => ?_)
                refine go_dup (pc' := 145) (hb hby at_144) rfl rfl ?_
                refine go_iconst (pc' := 146) (v := 0) (hb hby at_145) rfl rfl ?_
                refine go_newP (pc' := 148) (cells' := 4) (slots' := 52) (cap := 0) (vs := []) (ty := .char) (dv := .int 0) (wk G 112 rfl) rfl rfl (hb hby at_146) rfl (by decide) rfl (by decide) rfl rfl rfl (by decide) (by decide) (fun h386 a387 k391 g388 X389 A390 => ?_)
                have K392 : Keep h379 h386 [] := ((Keep.refl h379 []).ext X389)
                have E393 := (E383.keep K392)
                have K394 : Keep h0 h1 [] := ((Keep.refl h0 []).trans K2 all0)
                have F395 := D384 (Or.inr (wk G 9 rfl)) (ty := (.array .byte)) (by decide)
                have F396 := (F395.keep K392 nin0)
                have F397 := D384 (Or.inr (wk G 10 rfl)) (ty := .byte) (by decide)
                have F398 := (F397.keep K392 nin0)
                refine go_old (fun O399 => ?_)
                refine callIW0 rfl (cells' := 8) (slots' := 60) (Wd := 1) (argsL := [(.ref a387)]) (rest := [(.ref a380)]) (payW_of (a0 := a0) (c_new0 l G a380 a387 k391 h386 O399 E393 (Nat.le_trans O0.2.1 (Nat.le_trans K394.1 (Nat.le_of_eq g381))) F396 F398 A390) (wk G 115 rfl) (wk G 6 rfl) (by decide) (by decide) (ew1 G)) rfl (wk G 113 rfl) (wk G 114 rfl) (wk G 115 rfl) (by decide) pd10 rfl rfl (by rw [hml]; rfl) (Nat.le_of_ble_eq_true rfl) rfl rfl (by decide) (by decide) (allS (Nat.le_trans O0.2.1 (Nat.le_trans K394.1 (Nat.le_of_eq g381))) all0) (hb hby at_148) (k_n (pc' := 151) rfl ?_)
                rintro  h400 f402 K401
                refine go_astore (pc' := 153) (ls' := #[.val (.int x0), .val (.int x1), .val (.int x2), .val (.long x3), .second, .val (.int (x0 &&& (7 : Int32))), .val (.ref r3), .val (.int (11 : Int32)), .val (.int ((x3 &&& (255 : Int64)).toInt32)), .val (.ref a380)]) (hb hby at_151) rfl rfl rfl ?_
                refine go_goto (pc' := 230) (hb hby at_153) (by decide) rfl ?_
                refine go_aload (pc' := 232) (hb hby at_230) rfl rfl rfl ?_
                refine go_old (fun O403 => ?_)
                refine callS0 (cells' := 9) (slots' := 63) (Wd := 0) (argsL := [(.ref a380)]) (rest := []) (pay_of (a0 := a0) (c_of l G a380 [] h400 O403 f402) (wk G 30 rfl) (wk G 29 rfl) (by decide) (by decide)) (wk G 27 rfl) (wk G 28 rfl) (wk G 29 rfl) (wk G 30 rfl) (by decide) pd12 rfl rfl (by rw [hml]; rfl) (Nat.le_of_ble_eq_true rfl) rfl rfl (by decide) (by decide) all0 (fun _ _ => sf0) (hb hby at_232) (k_v (pc' := 235) rfl ?_)
                rintro _ h404 (⟨rfl, f406⟩ | ⟨rfl, f407⟩ | ⟨rfl, f408⟩ | ⟨rfl, f409, f410, f411⟩) K405
                · refine go_aload (pc' := 237) (hb hby at_235) rfl rfl rfl ?_
                  have K412 : Keep h400 h404 [] := ((Keep.refl h400 []).trans K405 all0)
                  have S413 := (f402.keep K412)
                  refine go_old (fun O414 => ?_)
                  refine callSW0 rfl (cells' := 15) (slots' := 187) (Wd := 1) (argsL := [(.ref a380)]) (rest := [(.ref (s_TRANSPARENT Z))]) (payW_of (a0 := a0) (c_expd l G a380 [] h404 O414 S413) (wk G 64 rfl) (wk G 3 rfl) (by decide) (by decide) (ew1 G)) (wk G 62 rfl) (wk G 63 rfl) (wk G 3 rfl) (wk G 64 rfl) (by decide) pd12 rfl rfl (by rw [hml]; rfl) (Nat.le_of_ble_eq_true rfl) rfl rfl (by decide) (by decide) all0 (hb hby at_237) (k_v (pc' := 240) rfl ?_)
                  rintro _ h415 (⟨rfl, f417⟩ | ⟨rfl, f418⟩ | ⟨rfl, f419⟩ | ⟨rfl, f420, f421, f422⟩) K416
                  · refine go_acF (pc' := 243) (hb hby at_240) rfl rfl rfl (XT.aa_ne_f rfl) ?_
                    refine go_iconst (pc' := 244) (v := 1) (hb hby at_243) rfl rfl ?_
                    refine go_goto (pc' := 248) (hb hby at_244) (by decide) rfl ?_
                    have K423 : Keep h0 h379 [] := (K394.ext X382)
                    have K424 : Keep h0 h386 [] := (K423.ext X389)
                    have K425 : Keep h0 h400 [] := (K424.trans K401 (allS (Or.inr (Nat.le_trans K394.1 (Nat.le_of_eq g381))) all0))
                    have K426 : Keep h0 h404 [] := (K425.trans K405 all0)
                    have K427 : Keep h0 h415 [] := (K426.trans K416 all0)
                    refine go_ireturn hret hlk rfl (by simp) (hb hby at_248) (by decide) (by decide) ⟨_, rfl, rfl⟩ K427
                  · exact absurd (f406.trans f418) (by decide)
                  · exact absurd (f406.trans f419) (by decide)
                  · exact absurd f406.symm f420
                · refine go_aload (pc' := 237) (hb hby at_235) rfl rfl rfl ?_
                  have K428 : Keep h400 h404 [] := ((Keep.refl h400 []).trans K405 all0)
                  have S429 := (f402.keep K428)
                  refine go_old (fun O430 => ?_)
                  refine callSW0 rfl (cells' := 15) (slots' := 187) (Wd := 1) (argsL := [(.ref a380)]) (rest := [(.ref (s_TRANSLUCENT Z))]) (payW_of (a0 := a0) (c_expd l G a380 [] h404 O430 S429) (wk G 64 rfl) (wk G 3 rfl) (by decide) (by decide) (ew1 G)) (wk G 62 rfl) (wk G 63 rfl) (wk G 3 rfl) (wk G 64 rfl) (by decide) pd12 rfl rfl (by rw [hml]; rfl) (Nat.le_of_ble_eq_true rfl) rfl rfl (by decide) (by decide) all0 (hb hby at_237) (k_v (pc' := 240) rfl ?_)
                  rintro _ h431 (⟨rfl, f433⟩ | ⟨rfl, f434⟩ | ⟨rfl, f435⟩ | ⟨rfl, f436, f437, f438⟩) K432
                  · exact absurd (f407.trans f433) (by decide)
                  · refine go_acF (pc' := 243) (hb hby at_240) rfl rfl rfl (XT.aa_ne_f rfl) ?_
                    refine go_iconst (pc' := 244) (v := 1) (hb hby at_243) rfl rfl ?_
                    refine go_goto (pc' := 248) (hb hby at_244) (by decide) rfl ?_
                    have K439 : Keep h0 h379 [] := (K394.ext X382)
                    have K440 : Keep h0 h386 [] := (K439.ext X389)
                    have K441 : Keep h0 h400 [] := (K440.trans K401 (allS (Or.inr (Nat.le_trans K394.1 (Nat.le_of_eq g381))) all0))
                    have K442 : Keep h0 h404 [] := (K441.trans K405 all0)
                    have K443 : Keep h0 h431 [] := (K442.trans K432 all0)
                    refine go_ireturn hret hlk rfl (by simp) (hb hby at_248) (by decide) (by decide) ⟨_, rfl, rfl⟩ K443
                  · exact absurd (f407.trans f435) (by decide)
                  · exact absurd f407.symm f437
                · refine go_aload (pc' := 237) (hb hby at_235) rfl rfl rfl ?_
                  have K444 : Keep h400 h404 [] := ((Keep.refl h400 []).trans K405 all0)
                  have S445 := (f402.keep K444)
                  refine go_old (fun O446 => ?_)
                  refine callSW0 rfl (cells' := 15) (slots' := 187) (Wd := 1) (argsL := [(.ref a380)]) (rest := [(.ref (s_OPAQUE Z))]) (payW_of (a0 := a0) (c_expd l G a380 [] h404 O446 S445) (wk G 64 rfl) (wk G 3 rfl) (by decide) (by decide) (ew1 G)) (wk G 62 rfl) (wk G 63 rfl) (wk G 3 rfl) (wk G 64 rfl) (by decide) pd12 rfl rfl (by rw [hml]; rfl) (Nat.le_of_ble_eq_true rfl) rfl rfl (by decide) (by decide) all0 (hb hby at_237) (k_v (pc' := 240) rfl ?_)
                  rintro _ h447 (⟨rfl, f449⟩ | ⟨rfl, f450⟩ | ⟨rfl, f451⟩ | ⟨rfl, f452, f453, f454⟩) K448
                  · exact absurd (f408.trans f449) (by decide)
                  · exact absurd (f408.trans f450) (by decide)
                  · refine go_acF (pc' := 243) (hb hby at_240) rfl rfl rfl (XT.aa_ne_f rfl) ?_
                    refine go_iconst (pc' := 244) (v := 1) (hb hby at_243) rfl rfl ?_
                    refine go_goto (pc' := 248) (hb hby at_244) (by decide) rfl ?_
                    have K455 : Keep h0 h379 [] := (K394.ext X382)
                    have K456 : Keep h0 h386 [] := (K455.ext X389)
                    have K457 : Keep h0 h400 [] := (K456.trans K401 (allS (Or.inr (Nat.le_trans K394.1 (Nat.le_of_eq g381))) all0))
                    have K458 : Keep h0 h404 [] := (K457.trans K405 all0)
                    have K459 : Keep h0 h447 [] := (K458.trans K448 all0)
                    refine go_ireturn hret hlk rfl (by simp) (hb hby at_248) (by decide) (by decide) ⟨_, rfl, rfl⟩ K459
                  · exact absurd f408.symm f454
                · refine go_aload (pc' := 237) (hb hby at_235) rfl rfl rfl ?_
                  have K460 : Keep h400 h404 [] := ((Keep.refl h400 []).trans K405 all0)
                  have S461 := (f402.keep K460)
                  refine go_old (fun O462 => ?_)
                  refine callSW0 rfl (cells' := 15) (slots' := 187) (Wd := 1) (argsL := [(.ref a380)]) (rest := [.null]) (payW_of (a0 := a0) (c_expd l G a380 [] h404 O462 S461) (wk G 64 rfl) (wk G 3 rfl) (by decide) (by decide) (ew1 G)) (wk G 62 rfl) (wk G 63 rfl) (wk G 3 rfl) (wk G 64 rfl) (by decide) pd12 rfl rfl (by rw [hml]; rfl) (Nat.le_of_ble_eq_true rfl) rfl rfl (by decide) (by decide) all0 (hb hby at_237) (k_v (pc' := 240) rfl ?_)
                  rintro _ h463 (⟨rfl, f465⟩ | ⟨rfl, f466⟩ | ⟨rfl, f467⟩ | ⟨rfl, f468, f469, f470⟩) K464
                  · exact absurd f465.symm f409
                  · exact absurd f466.symm f410
                  · exact absurd f467.symm f411
                  · refine go_acF (pc' := 243) (hb hby at_240) rfl rfl rfl (XT.aa_ne_f rfl) ?_
                    refine go_iconst (pc' := 244) (v := 1) (hb hby at_243) rfl rfl ?_
                    refine go_goto (pc' := 248) (hb hby at_244) (by decide) rfl ?_
                    have K471 : Keep h0 h379 [] := (K394.ext X382)
                    have K472 : Keep h0 h386 [] := (K471.ext X389)
                    have K473 : Keep h0 h400 [] := (K472.trans K401 (allS (Or.inr (Nat.le_trans K394.1 (Nat.le_of_eq g381))) all0))
                    have K474 : Keep h0 h404 [] := (K473.trans K405 all0)
                    have K475 : Keep h0 h463 [] := (K474.trans K464 all0)
                    refine go_ireturn hret hlk rfl (by simp) (hb hby at_248) (by decide) (by decide) ⟨_, rfl, rfl⟩ K475
              · refine go_icT (pc' := 156) (hb hby at_138) (by decide) rfl (XT.ii_ne_t cz378) ?_
                refine go_iload (pc' := 158) (hb hby at_156) rfl rfl ?_
                refine go_bipush (pc' := 160) (v := 6) (hb hby at_158) rfl rfl ?_
                by_cases cz476 : (x0 &&& (7 : Int32)) = (6 : Int32)
                · refine go_icF (pc' := 163) (hb hby at_160) rfl (XT.ii_ne_f cz476) ?_
                  refine go_aconst_null (pc' := 164) (hb hby at_163) rfl ?_
                  refine go_astore (pc' := 166) (ls' := #[.val (.int x0), .val (.int x1), .val (.int x2), .val (.long x3), .second, .val (.int (x0 &&& (7 : Int32))), .val (.ref r3), .val (.int (11 : Int32)), .val (.int ((x3 &&& (255 : Int64)).toInt32)), .val .null]) (hb hby at_164) rfl rfl rfl ?_
                  refine go_goto (pc' := 230) (hb hby at_166) (by decide) rfl ?_
                  refine go_aload (pc' := 232) (hb hby at_230) rfl rfl rfl ?_
                  refine callS0 (cells' := 3) (slots' := 51) (Wd := 0) (argsL := [.null]) (rest := []) (pay_of (a0 := a0) (c_ofnull l G  h1 O9 ) (wk G 30 rfl) (wk G 29 rfl) (by decide) (by decide)) (wk G 27 rfl) (wk G 28 rfl) (wk G 29 rfl) (wk G 30 rfl) (by decide) pd12 rfl rfl (by rw [hml]; rfl) (Nat.le_of_ble_eq_true rfl) rfl rfl (by decide) (by decide) all0 (fun _ _ => sf0) (hb hby at_232) (k_v (pc' := 235) rfl ?_)
                  rintro _ h477 rfl K478
                  refine go_aload (pc' := 237) (hb hby at_235) rfl rfl rfl ?_
                  refine go_old (fun O479 => ?_)
                  refine callSW0 rfl (cells' := 3) (slots' := 51) (Wd := 1) (argsL := [.null]) (rest := [.null]) (payW_of (a0 := a0) (c_expdN l G  h477 O479 ) (wk G 64 rfl) (wk G 3 rfl) (by decide) (by decide) (ew1 G)) (wk G 62 rfl) (wk G 63 rfl) (wk G 3 rfl) (wk G 64 rfl) (by decide) pd12 rfl rfl (by rw [hml]; rfl) (Nat.le_of_ble_eq_true rfl) rfl rfl (by decide) (by decide) all0 (hb hby at_237) (k_v (pc' := 240) rfl ?_)
                  rintro _ h480 ⟨rfl, rfl⟩ K481
                  refine go_acF (pc' := 243) (hb hby at_240) rfl rfl rfl (XT.aa_ne_f rfl) ?_
                  refine go_iconst (pc' := 244) (v := 1) (hb hby at_243) rfl rfl ?_
                  refine go_goto (pc' := 248) (hb hby at_244) (by decide) rfl ?_
                  have K482 : Keep h0 h1 [] := ((Keep.refl h0 []).trans K2 all0)
                  have K483 : Keep h0 h477 [] := (K482.trans K478 all0)
                  refine go_ireturn hret hlk rfl (by simp) (hb hby at_248) (by decide) (by decide) ⟨_, rfl, rfl⟩ K483
                · refine go_icT (pc' := 169) (hb hby at_160) (by decide) rfl (XT.ii_ne_t cz476) ?_
                  refine go_newO (pc' := 172) (cells' := 3) (slots' := 52) (wk G 111 rfl) (wk G 7 rfl) (wk G 6 rfl) (hb hby at_169) rfl rfl rfl (by decide) (by decide) (fun h484 a485 g486 X487 E488 D489 U490 => ?_)
                  refine go_dup (pc' := 173) (hb hby at_172) rfl rfl ?_
                  refine go_bipush (pc' := 175) (v := 6) (hb hby at_173) rfl rfl ?_
                  refine go_newP (pc' := 177) (cells' := 4) (slots' := 58) (cap := 6) (vs := [(.int (0 : Int32)), (.int (0 : Int32)), (.int (0 : Int32)), (.int (0 : Int32)), (.int (0 : Int32)), (.int (0 : Int32))]) (ty := .char) (dv := .int 0) (wk G 112 rfl) rfl rfl (hb hby at_175) rfl (by decide) rfl (by decide) rfl rfl rfl (by decide) (by decide) (fun h491 a492 k496 g493 X494 A495 => ?_)
                  refine go_dup (pc' := 178) (hb hby at_177) rfl rfl ?_
                  refine go_iconst (pc' := 179) (v := 0) (hb hby at_178) rfl rfl ?_
                  refine go_lload_n (pc' := 180) (hb hby at_179) rfl rfl ?_
                  refine go_iconst (pc' := 181) (v := 0) (hb hby at_180) rfl rfl ?_
                  refine go_old (fun O497 => ?_)
                  refine callS0 (cells' := 4) (slots' := 58) (Wd := 5) (argsL := [(.long x3), (.int (0 : Int32))]) (rest := [(.int (0 : Int32)), (.ref a492), (.ref a492), (.ref a485), (.ref a485)]) (pay_of (a0 := a0) (c_byteat0 l G x3 h491 O497 ) (wk G 131 rfl) (wk G 3 rfl) (by decide) (by decide)) (wk G 129 rfl) (wk G 130 rfl) (wk G 3 rfl) (wk G 131 rfl) (by decide) pd15 rfl rfl (by rw [hml]; rfl) (Nat.le_of_ble_eq_true rfl) rfl rfl (by decide) (by decide) all0 (fun _ _ => sf0) (hb hby at_181) (k_v (pc' := 184) rfl ?_)
                  rintro _ h498 ⟨r500, rfl, rfl, f501⟩ K499
                  have K505 : Keep h0 h1 [] := ((Keep.refl h0 []).trans K2 all0)
                  have K506 : Keep h0 h484 [] := (K505.ext X487)
                  refine go_stC (pc' := 185) (i := 0) (x' := r500) (vs' := [(.int r500), (.int (0 : Int32)), (.int (0 : Int32)), (.int (0 : Int32)), (.int (0 : Int32)), (.int (0 : Int32))]) A495 (Nat.le_trans O0.2.1 (Nat.le_trans K506.1 (Nat.le_of_eq g493))) (by decide) (by decide) rfl (Nat.le_of_ble_eq_true rfl) (i2c_c8 f501) rfl (hb hby at_184) rfl (fun h502 W503 A504 => ?_)
                  refine go_dup (pc' := 186) (hb hby at_185) rfl rfl ?_
                  refine go_iconst (pc' := 187) (v := 1) (hb hby at_186) rfl rfl ?_
                  refine go_lload_n (pc' := 188) (hb hby at_187) rfl rfl ?_
                  refine go_iconst (pc' := 189) (v := 1) (hb hby at_188) rfl rfl ?_
                  refine go_old (fun O507 => ?_)
                  refine callS0 (cells' := 4) (slots' := 58) (Wd := 5) (argsL := [(.long x3), (.int (1 : Int32))]) (rest := [(.int (1 : Int32)), (.ref a492), (.ref a492), (.ref a485), (.ref a485)]) (pay_of (a0 := a0) (c_byteat1 l G x3 h502 O507 ) (wk G 131 rfl) (wk G 3 rfl) (by decide) (by decide)) (wk G 129 rfl) (wk G 130 rfl) (wk G 3 rfl) (wk G 131 rfl) (by decide) pd15 rfl rfl (by rw [hml]; rfl) (Nat.le_of_ble_eq_true rfl) rfl rfl (by decide) (by decide) all0 (fun _ _ => sf0) (hb hby at_189) (k_v (pc' := 192) rfl ?_)
                  rintro _ h508 ⟨r510, rfl, rfl, f511⟩ K509
                  refine go_stC (pc' := 193) (i := 1) (x' := r510) (vs' := [(.int r500), (.int r510), (.int (0 : Int32)), (.int (0 : Int32)), (.int (0 : Int32)), (.int (0 : Int32))]) A504 (Nat.le_trans O0.2.1 (Nat.le_trans K506.1 (Nat.le_of_eq g493))) (by decide) (by decide) rfl (Nat.le_of_ble_eq_true rfl) (i2c_c8 f511) rfl (hb hby at_192) rfl (fun h512 W513 A514 => ?_)
                  refine go_dup (pc' := 194) (hb hby at_193) rfl rfl ?_
                  refine go_iconst (pc' := 195) (v := 2) (hb hby at_194) rfl rfl ?_
                  refine go_lload_n (pc' := 196) (hb hby at_195) rfl rfl ?_
                  refine go_iconst (pc' := 197) (v := 2) (hb hby at_196) rfl rfl ?_
                  refine go_old (fun O515 => ?_)
                  refine callS0 (cells' := 4) (slots' := 58) (Wd := 5) (argsL := [(.long x3), (.int (2 : Int32))]) (rest := [(.int (2 : Int32)), (.ref a492), (.ref a492), (.ref a485), (.ref a485)]) (pay_of (a0 := a0) (c_byteat2 l G x3 h512 O515 ) (wk G 131 rfl) (wk G 3 rfl) (by decide) (by decide)) (wk G 129 rfl) (wk G 130 rfl) (wk G 3 rfl) (wk G 131 rfl) (by decide) pd15 rfl rfl (by rw [hml]; rfl) (Nat.le_of_ble_eq_true rfl) rfl rfl (by decide) (by decide) all0 (fun _ _ => sf0) (hb hby at_197) (k_v (pc' := 200) rfl ?_)
                  rintro _ h516 ⟨r518, rfl, rfl, f519⟩ K517
                  refine go_stC (pc' := 201) (i := 2) (x' := r518) (vs' := [(.int r500), (.int r510), (.int r518), (.int (0 : Int32)), (.int (0 : Int32)), (.int (0 : Int32))]) A514 (Nat.le_trans O0.2.1 (Nat.le_trans K506.1 (Nat.le_of_eq g493))) (by decide) (by decide) rfl (Nat.le_of_ble_eq_true rfl) (i2c_c8 f519) rfl (hb hby at_200) rfl (fun h520 W521 A522 => ?_)
                  refine go_dup (pc' := 202) (hb hby at_201) rfl rfl ?_
                  refine go_iconst (pc' := 203) (v := 3) (hb hby at_202) rfl rfl ?_
                  refine go_lload_n (pc' := 204) (hb hby at_203) rfl rfl ?_
                  refine go_iconst (pc' := 205) (v := 3) (hb hby at_204) rfl rfl ?_
                  refine go_old (fun O523 => ?_)
                  refine callS0 (cells' := 4) (slots' := 58) (Wd := 5) (argsL := [(.long x3), (.int (3 : Int32))]) (rest := [(.int (3 : Int32)), (.ref a492), (.ref a492), (.ref a485), (.ref a485)]) (pay_of (a0 := a0) (c_byteat3 l G x3 h520 O523 ) (wk G 131 rfl) (wk G 3 rfl) (by decide) (by decide)) (wk G 129 rfl) (wk G 130 rfl) (wk G 3 rfl) (wk G 131 rfl) (by decide) pd15 rfl rfl (by rw [hml]; rfl) (Nat.le_of_ble_eq_true rfl) rfl rfl (by decide) (by decide) all0 (fun _ _ => sf0) (hb hby at_205) (k_v (pc' := 208) rfl ?_)
                  rintro _ h524 ⟨r526, rfl, rfl, f527⟩ K525
                  refine go_stC (pc' := 209) (i := 3) (x' := r526) (vs' := [(.int r500), (.int r510), (.int r518), (.int r526), (.int (0 : Int32)), (.int (0 : Int32))]) A522 (Nat.le_trans O0.2.1 (Nat.le_trans K506.1 (Nat.le_of_eq g493))) (by decide) (by decide) rfl (Nat.le_of_ble_eq_true rfl) (i2c_c8 f527) rfl (hb hby at_208) rfl (fun h528 W529 A530 => ?_)
                  refine go_dup (pc' := 210) (hb hby at_209) rfl rfl ?_
                  refine go_iconst (pc' := 211) (v := 4) (hb hby at_210) rfl rfl ?_
                  refine go_lload_n (pc' := 212) (hb hby at_211) rfl rfl ?_
                  refine go_iconst (pc' := 213) (v := 4) (hb hby at_212) rfl rfl ?_
                  refine go_old (fun O531 => ?_)
                  refine callS0 (cells' := 4) (slots' := 58) (Wd := 5) (argsL := [(.long x3), (.int (4 : Int32))]) (rest := [(.int (4 : Int32)), (.ref a492), (.ref a492), (.ref a485), (.ref a485)]) (pay_of (a0 := a0) (c_byteat4 l G x3 h528 O531 ) (wk G 131 rfl) (wk G 3 rfl) (by decide) (by decide)) (wk G 129 rfl) (wk G 130 rfl) (wk G 3 rfl) (wk G 131 rfl) (by decide) pd15 rfl rfl (by rw [hml]; rfl) (Nat.le_of_ble_eq_true rfl) rfl rfl (by decide) (by decide) all0 (fun _ _ => sf0) (hb hby at_213) (k_v (pc' := 216) rfl ?_)
                  rintro _ h532 ⟨r534, rfl, rfl, f535⟩ K533
                  refine go_stC (pc' := 217) (i := 4) (x' := r534) (vs' := [(.int r500), (.int r510), (.int r518), (.int r526), (.int r534), (.int (0 : Int32))]) A530 (Nat.le_trans O0.2.1 (Nat.le_trans K506.1 (Nat.le_of_eq g493))) (by decide) (by decide) rfl (Nat.le_of_ble_eq_true rfl) (i2c_c8 f535) rfl (hb hby at_216) rfl (fun h536 W537 A538 => ?_)
                  refine go_dup (pc' := 218) (hb hby at_217) rfl rfl ?_
                  refine go_iconst (pc' := 219) (v := 5) (hb hby at_218) rfl rfl ?_
                  refine go_lload_n (pc' := 220) (hb hby at_219) rfl rfl ?_
                  refine go_iconst (pc' := 221) (v := 5) (hb hby at_220) rfl rfl ?_
                  refine go_old (fun O539 => ?_)
                  refine callS0 (cells' := 4) (slots' := 58) (Wd := 5) (argsL := [(.long x3), (.int (5 : Int32))]) (rest := [(.int (5 : Int32)), (.ref a492), (.ref a492), (.ref a485), (.ref a485)]) (pay_of (a0 := a0) (c_byteat5 l G x3 h536 O539 ) (wk G 131 rfl) (wk G 3 rfl) (by decide) (by decide)) (wk G 129 rfl) (wk G 130 rfl) (wk G 3 rfl) (wk G 131 rfl) (by decide) pd15 rfl rfl (by rw [hml]; rfl) (Nat.le_of_ble_eq_true rfl) rfl rfl (by decide) (by decide) all0 (fun _ _ => sf0) (hb hby at_221) (k_v (pc' := 224) rfl ?_)
                  rintro _ h540 ⟨r542, rfl, rfl, f543⟩ K541
                  refine go_stC (pc' := 225) (i := 5) (x' := r542) (vs' := [(.int r500), (.int r510), (.int r518), (.int r526), (.int r534), (.int r542)]) A538 (Nat.le_trans O0.2.1 (Nat.le_trans K506.1 (Nat.le_of_eq g493))) (by decide) (by decide) rfl (Nat.le_of_ble_eq_true rfl) (i2c_c8 f543) rfl (hb hby at_224) rfl (fun h544 W545 A546 => ?_)
                  have K547 : Keep h484 h491 [] := ((Keep.refl h484 []).ext X494)
                  have K548 : Keep h484 h502 [] := (K547.wr W503 (Or.inr (Nat.le_of_eq g493)))
                  have K549 : Keep h484 h512 [] := (K548.wr W513 (Or.inr (Nat.le_of_eq g493)))
                  have K550 : Keep h484 h520 [] := (K549.wr W521 (Or.inr (Nat.le_of_eq g493)))
                  have K551 : Keep h484 h528 [] := (K550.wr W529 (Or.inr (Nat.le_of_eq g493)))
                  have K552 : Keep h484 h536 [] := (K551.wr W537 (Or.inr (Nat.le_of_eq g493)))
                  have K553 : Keep h484 h544 [] := (K552.wr W545 (Or.inr (Nat.le_of_eq g493)))
                  have E554 := (E488.keep K553)
                  have F555 := D489 (Or.inr (wk G 9 rfl)) (ty := (.array .byte)) (by decide)
                  have F556 := (F555.keep K553 nin0)
                  have F557 := D489 (Or.inr (wk G 10 rfl)) (ty := .byte) (by decide)
                  have F558 := (F557.keep K553 nin0)
                  refine go_old (fun O559 => ?_)
                  refine callI0 (cells' := 5) (slots' := 64) (Wd := 1) (argsL := [(.ref a492)]) (rest := [(.ref a485)]) (pay_new G O559 (cs := [r500, r510, r518, r526, r534, r542]) (n := 6) (Nat.le_trans O0.2.1 (Nat.le_trans K505.1 (Nat.le_of_eq g486))) E554 F556 F558 A546 rfl rfl (by decide) (by decide) (c8c f501 (c8c f511 (c8c f519 (c8c f527 (c8c f535 (c8c f543 c8n)))))) (by decide) (by decide)) rfl (wk G 113 rfl) (wk G 114 rfl) (wk G 115 rfl) (by decide) pd10 rfl rfl (by rw [hml]; rfl) (Nat.le_of_ble_eq_true rfl) rfl rfl (by decide) (by decide) (allS (Nat.le_trans O0.2.1 (Nat.le_trans K505.1 (Nat.le_of_eq g486))) all0) (fun _ hal => (sfS (safe_null hal E554 F556) sf0)) (hb hby at_225) (k_n (pc' := 228) rfl ?_)
                  rintro h560 S562 K561
                  refine go_astore (pc' := 230) (ls' := #[.val (.int x0), .val (.int x1), .val (.int x2), .val (.long x3), .second, .val (.int (x0 &&& (7 : Int32))), .val (.ref r3), .val (.int (11 : Int32)), .val (.int ((x3 &&& (255 : Int64)).toInt32)), .val (.ref a485)]) (hb hby at_228) rfl rfl rfl ?_
                  refine go_aload (pc' := 232) (hb hby at_230) rfl rfl rfl ?_
                  refine go_old (fun O563 => ?_)
                  refine callS0 (cells' := 6) (slots' := 67) (Wd := 0) (argsL := [(.ref a485)]) (rest := []) (pay_of (a0 := a0) (c_of l G a485 [r500, r510, r518, r526, r534, r542] h560 O563 S562) (wk G 30 rfl) (wk G 29 rfl) (by decide) (by decide)) (wk G 27 rfl) (wk G 28 rfl) (wk G 29 rfl) (wk G 30 rfl) (by decide) pd12 rfl rfl (by rw [hml]; rfl) (Nat.le_of_ble_eq_true rfl) rfl rfl (by decide) (by decide) all0 (fun _ _ => sf0) (hb hby at_232) (k_v (pc' := 235) rfl ?_)
                  rintro _ h564 (⟨rfl, f566⟩ | ⟨rfl, f567⟩ | ⟨rfl, f568⟩ | ⟨rfl, f569, f570, f571⟩) K565
                  · refine go_aload (pc' := 237) (hb hby at_235) rfl rfl rfl ?_
                    have K572 : Keep h560 h564 [] := ((Keep.refl h560 []).trans K565 all0)
                    have S573 := (S562.keep K572)
                    refine go_old (fun O574 => ?_)
                    refine callSW0 rfl (cells' := 12) (slots' := 191) (Wd := 1) (argsL := [(.ref a485)]) (rest := [(.ref (s_TRANSPARENT Z))]) (payW_of (a0 := a0) (c_expd l G a485 [r500, r510, r518, r526, r534, r542] h564 O574 S573) (wk G 64 rfl) (wk G 3 rfl) (by decide) (by decide) (ew1 G)) (wk G 62 rfl) (wk G 63 rfl) (wk G 3 rfl) (wk G 64 rfl) (by decide) pd12 rfl rfl (by rw [hml]; rfl) (Nat.le_of_ble_eq_true rfl) rfl rfl (by decide) (by decide) all0 (hb hby at_237) (k_v (pc' := 240) rfl ?_)
                    rintro _ h575 (⟨rfl, f577⟩ | ⟨rfl, f578⟩ | ⟨rfl, f579⟩ | ⟨rfl, f580, f581, f582⟩) K576
                    · refine go_acF (pc' := 243) (hb hby at_240) rfl rfl rfl (XT.aa_ne_f rfl) ?_
                      refine go_iconst (pc' := 244) (v := 1) (hb hby at_243) rfl rfl ?_
                      refine go_goto (pc' := 248) (hb hby at_244) (by decide) rfl ?_
                      have K583 : Keep h0 h491 [] := (K506.ext X494)
                      have K584 : Keep h0 h502 [] := (K583.wr W503 (Or.inr (Nat.le_trans K506.1 (Nat.le_of_eq g493))))
                      have K585 : Keep h0 h512 [] := (K584.wr W513 (Or.inr (Nat.le_trans K506.1 (Nat.le_of_eq g493))))
                      have K586 : Keep h0 h520 [] := (K585.wr W521 (Or.inr (Nat.le_trans K506.1 (Nat.le_of_eq g493))))
                      have K587 : Keep h0 h528 [] := (K586.wr W529 (Or.inr (Nat.le_trans K506.1 (Nat.le_of_eq g493))))
                      have K588 : Keep h0 h536 [] := (K587.wr W537 (Or.inr (Nat.le_trans K506.1 (Nat.le_of_eq g493))))
                      have K589 : Keep h0 h544 [] := (K588.wr W545 (Or.inr (Nat.le_trans K506.1 (Nat.le_of_eq g493))))
                      have K590 : Keep h0 h560 [] := (K589.trans K561 (allS (Or.inr (Nat.le_trans K505.1 (Nat.le_of_eq g486))) all0))
                      have K591 : Keep h0 h564 [] := (K590.trans K565 all0)
                      have K592 : Keep h0 h575 [] := (K591.trans K576 all0)
                      refine go_ireturn hret hlk rfl (by simp) (hb hby at_248) (by decide) (by decide) ⟨_, rfl, rfl⟩ K592
                    · exact absurd (f566.trans f578) (by decide)
                    · exact absurd (f566.trans f579) (by decide)
                    · exact absurd f566.symm f580
                  · refine go_aload (pc' := 237) (hb hby at_235) rfl rfl rfl ?_
                    have K593 : Keep h560 h564 [] := ((Keep.refl h560 []).trans K565 all0)
                    have S594 := (S562.keep K593)
                    refine go_old (fun O595 => ?_)
                    refine callSW0 rfl (cells' := 12) (slots' := 191) (Wd := 1) (argsL := [(.ref a485)]) (rest := [(.ref (s_TRANSLUCENT Z))]) (payW_of (a0 := a0) (c_expd l G a485 [r500, r510, r518, r526, r534, r542] h564 O595 S594) (wk G 64 rfl) (wk G 3 rfl) (by decide) (by decide) (ew1 G)) (wk G 62 rfl) (wk G 63 rfl) (wk G 3 rfl) (wk G 64 rfl) (by decide) pd12 rfl rfl (by rw [hml]; rfl) (Nat.le_of_ble_eq_true rfl) rfl rfl (by decide) (by decide) all0 (hb hby at_237) (k_v (pc' := 240) rfl ?_)
                    rintro _ h596 (⟨rfl, f598⟩ | ⟨rfl, f599⟩ | ⟨rfl, f600⟩ | ⟨rfl, f601, f602, f603⟩) K597
                    · exact absurd (f567.trans f598) (by decide)
                    · refine go_acF (pc' := 243) (hb hby at_240) rfl rfl rfl (XT.aa_ne_f rfl) ?_
                      refine go_iconst (pc' := 244) (v := 1) (hb hby at_243) rfl rfl ?_
                      refine go_goto (pc' := 248) (hb hby at_244) (by decide) rfl ?_
                      have K604 : Keep h0 h491 [] := (K506.ext X494)
                      have K605 : Keep h0 h502 [] := (K604.wr W503 (Or.inr (Nat.le_trans K506.1 (Nat.le_of_eq g493))))
                      have K606 : Keep h0 h512 [] := (K605.wr W513 (Or.inr (Nat.le_trans K506.1 (Nat.le_of_eq g493))))
                      have K607 : Keep h0 h520 [] := (K606.wr W521 (Or.inr (Nat.le_trans K506.1 (Nat.le_of_eq g493))))
                      have K608 : Keep h0 h528 [] := (K607.wr W529 (Or.inr (Nat.le_trans K506.1 (Nat.le_of_eq g493))))
                      have K609 : Keep h0 h536 [] := (K608.wr W537 (Or.inr (Nat.le_trans K506.1 (Nat.le_of_eq g493))))
                      have K610 : Keep h0 h544 [] := (K609.wr W545 (Or.inr (Nat.le_trans K506.1 (Nat.le_of_eq g493))))
                      have K611 : Keep h0 h560 [] := (K610.trans K561 (allS (Or.inr (Nat.le_trans K505.1 (Nat.le_of_eq g486))) all0))
                      have K612 : Keep h0 h564 [] := (K611.trans K565 all0)
                      have K613 : Keep h0 h596 [] := (K612.trans K597 all0)
                      refine go_ireturn hret hlk rfl (by simp) (hb hby at_248) (by decide) (by decide) ⟨_, rfl, rfl⟩ K613
                    · exact absurd (f567.trans f600) (by decide)
                    · exact absurd f567.symm f602
                  · refine go_aload (pc' := 237) (hb hby at_235) rfl rfl rfl ?_
                    have K614 : Keep h560 h564 [] := ((Keep.refl h560 []).trans K565 all0)
                    have S615 := (S562.keep K614)
                    refine go_old (fun O616 => ?_)
                    refine callSW0 rfl (cells' := 12) (slots' := 191) (Wd := 1) (argsL := [(.ref a485)]) (rest := [(.ref (s_OPAQUE Z))]) (payW_of (a0 := a0) (c_expd l G a485 [r500, r510, r518, r526, r534, r542] h564 O616 S615) (wk G 64 rfl) (wk G 3 rfl) (by decide) (by decide) (ew1 G)) (wk G 62 rfl) (wk G 63 rfl) (wk G 3 rfl) (wk G 64 rfl) (by decide) pd12 rfl rfl (by rw [hml]; rfl) (Nat.le_of_ble_eq_true rfl) rfl rfl (by decide) (by decide) all0 (hb hby at_237) (k_v (pc' := 240) rfl ?_)
                    rintro _ h617 (⟨rfl, f619⟩ | ⟨rfl, f620⟩ | ⟨rfl, f621⟩ | ⟨rfl, f622, f623, f624⟩) K618
                    · exact absurd (f568.trans f619) (by decide)
                    · exact absurd (f568.trans f620) (by decide)
                    · refine go_acF (pc' := 243) (hb hby at_240) rfl rfl rfl (XT.aa_ne_f rfl) ?_
                      refine go_iconst (pc' := 244) (v := 1) (hb hby at_243) rfl rfl ?_
                      refine go_goto (pc' := 248) (hb hby at_244) (by decide) rfl ?_
                      have K625 : Keep h0 h491 [] := (K506.ext X494)
                      have K626 : Keep h0 h502 [] := (K625.wr W503 (Or.inr (Nat.le_trans K506.1 (Nat.le_of_eq g493))))
                      have K627 : Keep h0 h512 [] := (K626.wr W513 (Or.inr (Nat.le_trans K506.1 (Nat.le_of_eq g493))))
                      have K628 : Keep h0 h520 [] := (K627.wr W521 (Or.inr (Nat.le_trans K506.1 (Nat.le_of_eq g493))))
                      have K629 : Keep h0 h528 [] := (K628.wr W529 (Or.inr (Nat.le_trans K506.1 (Nat.le_of_eq g493))))
                      have K630 : Keep h0 h536 [] := (K629.wr W537 (Or.inr (Nat.le_trans K506.1 (Nat.le_of_eq g493))))
                      have K631 : Keep h0 h544 [] := (K630.wr W545 (Or.inr (Nat.le_trans K506.1 (Nat.le_of_eq g493))))
                      have K632 : Keep h0 h560 [] := (K631.trans K561 (allS (Or.inr (Nat.le_trans K505.1 (Nat.le_of_eq g486))) all0))
                      have K633 : Keep h0 h564 [] := (K632.trans K565 all0)
                      have K634 : Keep h0 h617 [] := (K633.trans K618 all0)
                      refine go_ireturn hret hlk rfl (by simp) (hb hby at_248) (by decide) (by decide) ⟨_, rfl, rfl⟩ K634
                    · exact absurd f568.symm f624
                  · refine go_aload (pc' := 237) (hb hby at_235) rfl rfl rfl ?_
                    have K635 : Keep h560 h564 [] := ((Keep.refl h560 []).trans K565 all0)
                    have S636 := (S562.keep K635)
                    refine go_old (fun O637 => ?_)
                    refine callSW0 rfl (cells' := 12) (slots' := 191) (Wd := 1) (argsL := [(.ref a485)]) (rest := [.null]) (payW_of (a0 := a0) (c_expd l G a485 [r500, r510, r518, r526, r534, r542] h564 O637 S636) (wk G 64 rfl) (wk G 3 rfl) (by decide) (by decide) (ew1 G)) (wk G 62 rfl) (wk G 63 rfl) (wk G 3 rfl) (wk G 64 rfl) (by decide) pd12 rfl rfl (by rw [hml]; rfl) (Nat.le_of_ble_eq_true rfl) rfl rfl (by decide) (by decide) all0 (hb hby at_237) (k_v (pc' := 240) rfl ?_)
                    rintro _ h638 (⟨rfl, f640⟩ | ⟨rfl, f641⟩ | ⟨rfl, f642⟩ | ⟨rfl, f643, f644, f645⟩) K639
                    · exact absurd f640.symm f569
                    · exact absurd f641.symm f570
                    · exact absurd f642.symm f571
                    · refine go_acF (pc' := 243) (hb hby at_240) rfl rfl rfl (XT.aa_ne_f rfl) ?_
                      refine go_iconst (pc' := 244) (v := 1) (hb hby at_243) rfl rfl ?_
                      refine go_goto (pc' := 248) (hb hby at_244) (by decide) rfl ?_
                      have K646 : Keep h0 h491 [] := (K506.ext X494)
                      have K647 : Keep h0 h502 [] := (K646.wr W503 (Or.inr (Nat.le_trans K506.1 (Nat.le_of_eq g493))))
                      have K648 : Keep h0 h512 [] := (K647.wr W513 (Or.inr (Nat.le_trans K506.1 (Nat.le_of_eq g493))))
                      have K649 : Keep h0 h520 [] := (K648.wr W521 (Or.inr (Nat.le_trans K506.1 (Nat.le_of_eq g493))))
                      have K650 : Keep h0 h528 [] := (K649.wr W529 (Or.inr (Nat.le_trans K506.1 (Nat.le_of_eq g493))))
                      have K651 : Keep h0 h536 [] := (K650.wr W537 (Or.inr (Nat.le_trans K506.1 (Nat.le_of_eq g493))))
                      have K652 : Keep h0 h544 [] := (K651.wr W545 (Or.inr (Nat.le_trans K506.1 (Nat.le_of_eq g493))))
                      have K653 : Keep h0 h560 [] := (K652.trans K561 (allS (Or.inr (Nat.le_trans K505.1 (Nat.le_of_eq g486))) all0))
                      have K654 : Keep h0 h564 [] := (K653.trans K565 all0)
                      have K655 : Keep h0 h638 [] := (K654.trans K639 all0)
                      refine go_ireturn hret hlk rfl (by simp) (hb hby at_248) (by decide) (by decide) ⟨_, rfl, rfl⟩ K655
  · refine go_astore (pc' := 17) (ls' := #[.val (.int x0), .val (.int x1), .val (.int x2), .val (.long x3), .second, .val (.int (x0 &&& (7 : Int32))), .val (.ref r5), .unset, .unset, .unset]) (hb hby at_15) rfl rfl rfl ?_
    refine go_aload (pc' := 19) (hb hby at_17) rfl rfl rfl ?_
    refine go_old (fun O656 => ?_)
    refine callV0 (cells' := 2) (slots' := 48) (Wd := 0) (argsL := []) (rest := []) (pay_len G O656 (n := (11 : Int32)) f6 rfl (by decide) (by decide)) f6.exa (wk G 13 rfl) (wk G 14 rfl) (wk G 16 rfl) (wk G 16 rfl) (wk G 15 rfl) (by decide) pd7 rfl rfl (by rw [hml]; rfl) (Nat.le_of_ble_eq_true rfl) rfl rfl (by decide) (by decide) all0 (fun _ _ => sf0) (hb hby at_19) (k_v (pc' := 22) rfl ?_)
    rintro _ _ ⟨rfl, rfl⟩ -
    refine go_istore (pc' := 24) (ls' := #[.val (.int x0), .val (.int x1), .val (.int x2), .val (.long x3), .second, .val (.int (x0 &&& (7 : Int32))), .val (.ref r5), .val (.int (11 : Int32)), .unset, .unset]) (hb hby at_22) rfl rfl ?_
    refine go_lload_n (pc' := 25) (hb hby at_24) rfl rfl ?_
    refine go_ldcJ (pc' := 28) (v := (255 : Int64)) (wk G 26 rfl) (hb hby at_25) rfl ?_
    refine go_land (pc' := 29) (z := (x3 &&& (255 : Int64))) (hb hby at_28) rfl rfl ?_
    refine go_l2i (pc' := 30) (z := ((x3 &&& (255 : Int64)).toInt32)) (hb hby at_29) rfl rfl ?_
    refine go_i2c (pc' := 31) (z := ((x3 &&& (255 : Int64)).toInt32)) (hb hby at_30) rfl (i2c_c8 (c8_l _)) ?_
    refine go_istore (pc' := 33) (ls' := #[.val (.int x0), .val (.int x1), .val (.int x2), .val (.long x3), .second, .val (.int (x0 &&& (7 : Int32))), .val (.ref r5), .val (.int (11 : Int32)), .val (.int ((x3 &&& (255 : Int64)).toInt32)), .unset]) (hb hby at_31) rfl rfl ?_
    refine go_iload (pc' := 35) (hb hby at_33) rfl rfl ?_
    by_cases cz657 : (x0 &&& (7 : Int32)) = (0 : Int32)
    · refine go_ifF (pc' := 38) (hb hby at_35) rfl (XT.i0_ne_f cz657) ?_
      refine go_aload (pc' := 40) (hb hby at_38) rfl rfl rfl ?_
      refine go_astore (pc' := 42) (ls' := #[.val (.int x0), .val (.int x1), .val (.int x2), .val (.long x3), .second, .val (.int (x0 &&& (7 : Int32))), .val (.ref r5), .val (.int (11 : Int32)), .val (.int ((x3 &&& (255 : Int64)).toInt32)), .val (.ref r5)]) (hb hby at_40) rfl rfl rfl ?_
      refine go_goto (pc' := 230) (hb hby at_42) (by decide) rfl ?_
      refine go_aload (pc' := 232) (hb hby at_230) rfl rfl rfl ?_
      refine callS0 (cells' := 3) (slots' := 51) (Wd := 0) (argsL := [(.ref r5)]) (rest := []) (pay_of (a0 := a0) (c_of l G r5 [(116 : Int32), (114 : Int32), (97 : Int32), (110 : Int32), (115 : Int32), (108 : Int32), (117 : Int32), (99 : Int32), (101 : Int32), (110 : Int32), (116 : Int32)] h1 O656 f6) (wk G 30 rfl) (wk G 29 rfl) (by decide) (by decide)) (wk G 27 rfl) (wk G 28 rfl) (wk G 29 rfl) (wk G 30 rfl) (by decide) pd12 rfl rfl (by rw [hml]; rfl) (Nat.le_of_ble_eq_true rfl) rfl rfl (by decide) (by decide) all0 (fun _ _ => sf0) (hb hby at_232) (k_v (pc' := 235) rfl ?_)
      rintro _ h658 (⟨rfl, f660⟩ | ⟨rfl, f661⟩ | ⟨rfl, f662⟩ | ⟨rfl, f663, f664, f665⟩) K659
      · refine go_aload (pc' := 237) (hb hby at_235) rfl rfl rfl ?_
        have K666 : Keep h1 h658 [] := ((Keep.refl h1 []).trans K659 all0)
        have S667 := (f6.keep K666)
        refine go_old (fun O668 => ?_)
        refine callSW0 rfl (cells' := 9) (slots' := 175) (Wd := 1) (argsL := [(.ref r5)]) (rest := [(.ref (s_TRANSPARENT Z))]) (payW_of (a0 := a0) (c_expd l G r5 [(116 : Int32), (114 : Int32), (97 : Int32), (110 : Int32), (115 : Int32), (108 : Int32), (117 : Int32), (99 : Int32), (101 : Int32), (110 : Int32), (116 : Int32)] h658 O668 S667) (wk G 64 rfl) (wk G 3 rfl) (by decide) (by decide) (ew1 G)) (wk G 62 rfl) (wk G 63 rfl) (wk G 3 rfl) (wk G 64 rfl) (by decide) pd12 rfl rfl (by rw [hml]; rfl) (Nat.le_of_ble_eq_true rfl) rfl rfl (by decide) (by decide) all0 (hb hby at_237) (k_v (pc' := 240) rfl ?_)
        rintro _ h669 (⟨rfl, f671⟩ | ⟨rfl, f672⟩ | ⟨rfl, f673⟩ | ⟨rfl, f674, f675, f676⟩) K670
        · refine go_acF (pc' := 243) (hb hby at_240) rfl rfl rfl (XT.aa_ne_f rfl) ?_
          refine go_iconst (pc' := 244) (v := 1) (hb hby at_243) rfl rfl ?_
          refine go_goto (pc' := 248) (hb hby at_244) (by decide) rfl ?_
          have K677 : Keep h0 h1 [] := ((Keep.refl h0 []).trans K2 all0)
          have K678 : Keep h0 h658 [] := (K677.trans K659 all0)
          have K679 : Keep h0 h669 [] := (K678.trans K670 all0)
          refine go_ireturn hret hlk rfl (by simp) (hb hby at_248) (by decide) (by decide) ⟨_, rfl, rfl⟩ K679
        · exact absurd (f660.trans f672) (by decide)
        · exact absurd (f660.trans f673) (by decide)
        · exact absurd f660.symm f674
      · refine go_aload (pc' := 237) (hb hby at_235) rfl rfl rfl ?_
        have K680 : Keep h1 h658 [] := ((Keep.refl h1 []).trans K659 all0)
        have S681 := (f6.keep K680)
        refine go_old (fun O682 => ?_)
        refine callSW0 rfl (cells' := 9) (slots' := 175) (Wd := 1) (argsL := [(.ref r5)]) (rest := [(.ref (s_TRANSLUCENT Z))]) (payW_of (a0 := a0) (c_expd l G r5 [(116 : Int32), (114 : Int32), (97 : Int32), (110 : Int32), (115 : Int32), (108 : Int32), (117 : Int32), (99 : Int32), (101 : Int32), (110 : Int32), (116 : Int32)] h658 O682 S681) (wk G 64 rfl) (wk G 3 rfl) (by decide) (by decide) (ew1 G)) (wk G 62 rfl) (wk G 63 rfl) (wk G 3 rfl) (wk G 64 rfl) (by decide) pd12 rfl rfl (by rw [hml]; rfl) (Nat.le_of_ble_eq_true rfl) rfl rfl (by decide) (by decide) all0 (hb hby at_237) (k_v (pc' := 240) rfl ?_)
        rintro _ h683 (⟨rfl, f685⟩ | ⟨rfl, f686⟩ | ⟨rfl, f687⟩ | ⟨rfl, f688, f689, f690⟩) K684
        · exact absurd (f661.trans f685) (by decide)
        · refine go_acF (pc' := 243) (hb hby at_240) rfl rfl rfl (XT.aa_ne_f rfl) ?_
          refine go_iconst (pc' := 244) (v := 1) (hb hby at_243) rfl rfl ?_
          refine go_goto (pc' := 248) (hb hby at_244) (by decide) rfl ?_
          have K691 : Keep h0 h1 [] := ((Keep.refl h0 []).trans K2 all0)
          have K692 : Keep h0 h658 [] := (K691.trans K659 all0)
          have K693 : Keep h0 h683 [] := (K692.trans K684 all0)
          refine go_ireturn hret hlk rfl (by simp) (hb hby at_248) (by decide) (by decide) ⟨_, rfl, rfl⟩ K693
        · exact absurd (f661.trans f687) (by decide)
        · exact absurd f661.symm f689
      · refine go_aload (pc' := 237) (hb hby at_235) rfl rfl rfl ?_
        have K694 : Keep h1 h658 [] := ((Keep.refl h1 []).trans K659 all0)
        have S695 := (f6.keep K694)
        refine go_old (fun O696 => ?_)
        refine callSW0 rfl (cells' := 9) (slots' := 175) (Wd := 1) (argsL := [(.ref r5)]) (rest := [(.ref (s_OPAQUE Z))]) (payW_of (a0 := a0) (c_expd l G r5 [(116 : Int32), (114 : Int32), (97 : Int32), (110 : Int32), (115 : Int32), (108 : Int32), (117 : Int32), (99 : Int32), (101 : Int32), (110 : Int32), (116 : Int32)] h658 O696 S695) (wk G 64 rfl) (wk G 3 rfl) (by decide) (by decide) (ew1 G)) (wk G 62 rfl) (wk G 63 rfl) (wk G 3 rfl) (wk G 64 rfl) (by decide) pd12 rfl rfl (by rw [hml]; rfl) (Nat.le_of_ble_eq_true rfl) rfl rfl (by decide) (by decide) all0 (hb hby at_237) (k_v (pc' := 240) rfl ?_)
        rintro _ h697 (⟨rfl, f699⟩ | ⟨rfl, f700⟩ | ⟨rfl, f701⟩ | ⟨rfl, f702, f703, f704⟩) K698
        · exact absurd (f662.trans f699) (by decide)
        · exact absurd (f662.trans f700) (by decide)
        · refine go_acF (pc' := 243) (hb hby at_240) rfl rfl rfl (XT.aa_ne_f rfl) ?_
          refine go_iconst (pc' := 244) (v := 1) (hb hby at_243) rfl rfl ?_
          refine go_goto (pc' := 248) (hb hby at_244) (by decide) rfl ?_
          have K705 : Keep h0 h1 [] := ((Keep.refl h0 []).trans K2 all0)
          have K706 : Keep h0 h658 [] := (K705.trans K659 all0)
          have K707 : Keep h0 h697 [] := (K706.trans K698 all0)
          refine go_ireturn hret hlk rfl (by simp) (hb hby at_248) (by decide) (by decide) ⟨_, rfl, rfl⟩ K707
        · exact absurd f662.symm f704
      · refine go_aload (pc' := 237) (hb hby at_235) rfl rfl rfl ?_
        have K708 : Keep h1 h658 [] := ((Keep.refl h1 []).trans K659 all0)
        have S709 := (f6.keep K708)
        refine go_old (fun O710 => ?_)
        refine callSW0 rfl (cells' := 9) (slots' := 175) (Wd := 1) (argsL := [(.ref r5)]) (rest := [.null]) (payW_of (a0 := a0) (c_expd l G r5 [(116 : Int32), (114 : Int32), (97 : Int32), (110 : Int32), (115 : Int32), (108 : Int32), (117 : Int32), (99 : Int32), (101 : Int32), (110 : Int32), (116 : Int32)] h658 O710 S709) (wk G 64 rfl) (wk G 3 rfl) (by decide) (by decide) (ew1 G)) (wk G 62 rfl) (wk G 63 rfl) (wk G 3 rfl) (wk G 64 rfl) (by decide) pd12 rfl rfl (by rw [hml]; rfl) (Nat.le_of_ble_eq_true rfl) rfl rfl (by decide) (by decide) all0 (hb hby at_237) (k_v (pc' := 240) rfl ?_)
        rintro _ h711 (⟨rfl, f713⟩ | ⟨rfl, f714⟩ | ⟨rfl, f715⟩ | ⟨rfl, f716, f717, f718⟩) K712
        · exact absurd f713.symm f663
        · exact absurd f714.symm f664
        · exact absurd f715.symm f665
        · refine go_acF (pc' := 243) (hb hby at_240) rfl rfl rfl (XT.aa_ne_f rfl) ?_
          refine go_iconst (pc' := 244) (v := 1) (hb hby at_243) rfl rfl ?_
          refine go_goto (pc' := 248) (hb hby at_244) (by decide) rfl ?_
          have K719 : Keep h0 h1 [] := ((Keep.refl h0 []).trans K2 all0)
          have K720 : Keep h0 h658 [] := (K719.trans K659 all0)
          have K721 : Keep h0 h711 [] := (K720.trans K712 all0)
          refine go_ireturn hret hlk rfl (by simp) (hb hby at_248) (by decide) (by decide) ⟨_, rfl, rfl⟩ K721
    · refine go_ifT (pc' := 45) (hb hby at_35) (by decide) rfl (XT.i0_ne_t cz657) ?_
      refine go_iload (pc' := 47) (hb hby at_45) rfl rfl ?_
      refine go_iconst (pc' := 48) (v := 1) (hb hby at_47) rfl rfl ?_
      by_cases cz722 : (x0 &&& (7 : Int32)) = (1 : Int32)
      · refine go_icF (pc' := 51) (hb hby at_48) rfl (XT.ii_ne_f cz722) ?_
        refine go_aload (pc' := 53) (hb hby at_51) rfl rfl rfl ?_
        refine go_iload (pc' := 55) (hb hby at_53) rfl rfl ?_
        refine go_iload_n (pc' := 56) (hb hby at_55) rfl rfl ?_
        refine go_ldcI (pc' := 58) (v := (2147483647 : Int32)) (wk G 0 rfl) (hb hby at_56) rfl ?_
        refine go_iand (pc' := 59) (z := (x2 &&& (2147483647 : Int32))) (hb hby at_58) rfl rfl ?_
        refine go_iload (pc' := 61) (hb hby at_59) rfl rfl ?_
        refine go_irem (pc' := 62) (z := ((x2 &&& (2147483647 : Int32)) % (11 : Int32))) (hb hby at_61) rfl (by decide) rfl ?_
        refine go_iload (pc' := 64) (hb hby at_62) rfl rfl ?_
        refine callS0 (cells' := 5) (slots' := 74) (Wd := 0) (argsL := [(.ref r5), (.int (11 : Int32)), (.int ((x2 &&& (2147483647 : Int32)) % (11 : Int32))), (.int ((x3 &&& (255 : Int64)).toInt32))]) (rest := []) (pay_of (a0 := a0) (c_edit11_11 l G r5 ((x2 &&& (2147483647 : Int32)) % (11 : Int32)) ((x3 &&& (255 : Int64)).toInt32) (116 : Int32) (114 : Int32) (97 : Int32) (110 : Int32) (115 : Int32) (108 : Int32) (117 : Int32) (99 : Int32) (101 : Int32) (110 : Int32) (116 : Int32) h1 O656 (c8_l _) f6) (wk G 86 rfl) (wk G 3 rfl) (by decide) (by decide)) (wk G 84 rfl) (wk G 85 rfl) (wk G 3 rfl) (wk G 86 rfl) (by decide) pd13 rfl rfl (by rw [hml]; rfl) (Nat.le_of_ble_eq_true rfl) rfl rfl (by decide) (by decide) all0 (fun _ _ => sf0) (hb hby at_64) (k_v (pc' := 67) rfl ?_)
        rintro _ h723 ⟨r725, r726, rfl, f727, f728⟩ K724
        refine go_astore (pc' := 69) (ls' := #[.val (.int x0), .val (.int x1), .val (.int x2), .val (.long x3), .second, .val (.int (x0 &&& (7 : Int32))), .val (.ref r5), .val (.int (11 : Int32)), .val (.int ((x3 &&& (255 : Int64)).toInt32)), .val (.ref r725)]) (hb hby at_67) rfl rfl rfl ?_
        refine go_goto (pc' := 230) (hb hby at_69) (by decide) rfl ?_
        refine go_aload (pc' := 232) (hb hby at_230) rfl rfl rfl ?_
        refine go_old (fun O729 => ?_)
        refine callS0 (cells' := 6) (slots' := 77) (Wd := 0) (argsL := [(.ref r725)]) (rest := []) (pay_of (a0 := a0) (c_of l G r725 r726 h723 O729 f728) (wk G 30 rfl) (wk G 29 rfl) (by decide) (by decide)) (wk G 27 rfl) (wk G 28 rfl) (wk G 29 rfl) (wk G 30 rfl) (by decide) pd12 rfl rfl (by rw [hml]; rfl) (Nat.le_of_ble_eq_true rfl) rfl rfl (by decide) (by decide) all0 (fun _ _ => sf0) (hb hby at_232) (k_v (pc' := 235) rfl ?_)
        rintro _ h730 (⟨rfl, f732⟩ | ⟨rfl, f733⟩ | ⟨rfl, f734⟩ | ⟨rfl, f735, f736, f737⟩) K731
        · refine go_aload (pc' := 237) (hb hby at_235) rfl rfl rfl ?_
          have K738 : Keep h723 h730 [] := ((Keep.refl h723 []).trans K731 all0)
          have S739 := (f728.keep K738)
          refine go_old (fun O740 => ?_)
          refine callSW0 rfl (cells' := 12) (slots' := 201) (Wd := 1) (argsL := [(.ref r725)]) (rest := [(.ref (s_TRANSPARENT Z))]) (payW_of (a0 := a0) (c_expd l G r725 r726 h730 O740 S739) (wk G 64 rfl) (wk G 3 rfl) (by decide) (by decide) (ew1 G)) (wk G 62 rfl) (wk G 63 rfl) (wk G 3 rfl) (wk G 64 rfl) (by decide) pd12 rfl rfl (by rw [hml]; rfl) (Nat.le_of_ble_eq_true rfl) rfl rfl (by decide) (by decide) all0 (hb hby at_237) (k_v (pc' := 240) rfl ?_)
          rintro _ h741 (⟨rfl, f743⟩ | ⟨rfl, f744⟩ | ⟨rfl, f745⟩ | ⟨rfl, f746, f747, f748⟩) K742
          · refine go_acF (pc' := 243) (hb hby at_240) rfl rfl rfl (XT.aa_ne_f rfl) ?_
            refine go_iconst (pc' := 244) (v := 1) (hb hby at_243) rfl rfl ?_
            refine go_goto (pc' := 248) (hb hby at_244) (by decide) rfl ?_
            have K749 : Keep h0 h1 [] := ((Keep.refl h0 []).trans K2 all0)
            have K750 : Keep h0 h723 [] := (K749.trans K724 all0)
            have K751 : Keep h0 h730 [] := (K750.trans K731 all0)
            have K752 : Keep h0 h741 [] := (K751.trans K742 all0)
            refine go_ireturn hret hlk rfl (by simp) (hb hby at_248) (by decide) (by decide) ⟨_, rfl, rfl⟩ K752
          · exact absurd (f732.trans f744) (by decide)
          · exact absurd (f732.trans f745) (by decide)
          · exact absurd f732.symm f746
        · refine go_aload (pc' := 237) (hb hby at_235) rfl rfl rfl ?_
          have K753 : Keep h723 h730 [] := ((Keep.refl h723 []).trans K731 all0)
          have S754 := (f728.keep K753)
          refine go_old (fun O755 => ?_)
          refine callSW0 rfl (cells' := 12) (slots' := 201) (Wd := 1) (argsL := [(.ref r725)]) (rest := [(.ref (s_TRANSLUCENT Z))]) (payW_of (a0 := a0) (c_expd l G r725 r726 h730 O755 S754) (wk G 64 rfl) (wk G 3 rfl) (by decide) (by decide) (ew1 G)) (wk G 62 rfl) (wk G 63 rfl) (wk G 3 rfl) (wk G 64 rfl) (by decide) pd12 rfl rfl (by rw [hml]; rfl) (Nat.le_of_ble_eq_true rfl) rfl rfl (by decide) (by decide) all0 (hb hby at_237) (k_v (pc' := 240) rfl ?_)
          rintro _ h756 (⟨rfl, f758⟩ | ⟨rfl, f759⟩ | ⟨rfl, f760⟩ | ⟨rfl, f761, f762, f763⟩) K757
          · exact absurd (f733.trans f758) (by decide)
          · refine go_acF (pc' := 243) (hb hby at_240) rfl rfl rfl (XT.aa_ne_f rfl) ?_
            refine go_iconst (pc' := 244) (v := 1) (hb hby at_243) rfl rfl ?_
            refine go_goto (pc' := 248) (hb hby at_244) (by decide) rfl ?_
            have K764 : Keep h0 h1 [] := ((Keep.refl h0 []).trans K2 all0)
            have K765 : Keep h0 h723 [] := (K764.trans K724 all0)
            have K766 : Keep h0 h730 [] := (K765.trans K731 all0)
            have K767 : Keep h0 h756 [] := (K766.trans K757 all0)
            refine go_ireturn hret hlk rfl (by simp) (hb hby at_248) (by decide) (by decide) ⟨_, rfl, rfl⟩ K767
          · exact absurd (f733.trans f760) (by decide)
          · exact absurd f733.symm f762
        · refine go_aload (pc' := 237) (hb hby at_235) rfl rfl rfl ?_
          have K768 : Keep h723 h730 [] := ((Keep.refl h723 []).trans K731 all0)
          have S769 := (f728.keep K768)
          refine go_old (fun O770 => ?_)
          refine callSW0 rfl (cells' := 12) (slots' := 201) (Wd := 1) (argsL := [(.ref r725)]) (rest := [(.ref (s_OPAQUE Z))]) (payW_of (a0 := a0) (c_expd l G r725 r726 h730 O770 S769) (wk G 64 rfl) (wk G 3 rfl) (by decide) (by decide) (ew1 G)) (wk G 62 rfl) (wk G 63 rfl) (wk G 3 rfl) (wk G 64 rfl) (by decide) pd12 rfl rfl (by rw [hml]; rfl) (Nat.le_of_ble_eq_true rfl) rfl rfl (by decide) (by decide) all0 (hb hby at_237) (k_v (pc' := 240) rfl ?_)
          rintro _ h771 (⟨rfl, f773⟩ | ⟨rfl, f774⟩ | ⟨rfl, f775⟩ | ⟨rfl, f776, f777, f778⟩) K772
          · exact absurd (f734.trans f773) (by decide)
          · exact absurd (f734.trans f774) (by decide)
          · refine go_acF (pc' := 243) (hb hby at_240) rfl rfl rfl (XT.aa_ne_f rfl) ?_
            refine go_iconst (pc' := 244) (v := 1) (hb hby at_243) rfl rfl ?_
            refine go_goto (pc' := 248) (hb hby at_244) (by decide) rfl ?_
            have K779 : Keep h0 h1 [] := ((Keep.refl h0 []).trans K2 all0)
            have K780 : Keep h0 h723 [] := (K779.trans K724 all0)
            have K781 : Keep h0 h730 [] := (K780.trans K731 all0)
            have K782 : Keep h0 h771 [] := (K781.trans K772 all0)
            refine go_ireturn hret hlk rfl (by simp) (hb hby at_248) (by decide) (by decide) ⟨_, rfl, rfl⟩ K782
          · exact absurd f734.symm f778
        · refine go_aload (pc' := 237) (hb hby at_235) rfl rfl rfl ?_
          have K783 : Keep h723 h730 [] := ((Keep.refl h723 []).trans K731 all0)
          have S784 := (f728.keep K783)
          refine go_old (fun O785 => ?_)
          refine callSW0 rfl (cells' := 12) (slots' := 201) (Wd := 1) (argsL := [(.ref r725)]) (rest := [.null]) (payW_of (a0 := a0) (c_expd l G r725 r726 h730 O785 S784) (wk G 64 rfl) (wk G 3 rfl) (by decide) (by decide) (ew1 G)) (wk G 62 rfl) (wk G 63 rfl) (wk G 3 rfl) (wk G 64 rfl) (by decide) pd12 rfl rfl (by rw [hml]; rfl) (Nat.le_of_ble_eq_true rfl) rfl rfl (by decide) (by decide) all0 (hb hby at_237) (k_v (pc' := 240) rfl ?_)
          rintro _ h786 (⟨rfl, f788⟩ | ⟨rfl, f789⟩ | ⟨rfl, f790⟩ | ⟨rfl, f791, f792, f793⟩) K787
          · exact absurd f788.symm f735
          · exact absurd f789.symm f736
          · exact absurd f790.symm f737
          · refine go_acF (pc' := 243) (hb hby at_240) rfl rfl rfl (XT.aa_ne_f rfl) ?_
            refine go_iconst (pc' := 244) (v := 1) (hb hby at_243) rfl rfl ?_
            refine go_goto (pc' := 248) (hb hby at_244) (by decide) rfl ?_
            have K794 : Keep h0 h1 [] := ((Keep.refl h0 []).trans K2 all0)
            have K795 : Keep h0 h723 [] := (K794.trans K724 all0)
            have K796 : Keep h0 h730 [] := (K795.trans K731 all0)
            have K797 : Keep h0 h786 [] := (K796.trans K787 all0)
            refine go_ireturn hret hlk rfl (by simp) (hb hby at_248) (by decide) (by decide) ⟨_, rfl, rfl⟩ K797
      · refine go_icT (pc' := 72) (hb hby at_48) (by decide) rfl (XT.ii_ne_t cz722) ?_
        refine go_iload (pc' := 74) (hb hby at_72) rfl rfl ?_
        refine go_iconst (pc' := 75) (v := 2) (hb hby at_74) rfl rfl ?_
        by_cases cz798 : (x0 &&& (7 : Int32)) = (2 : Int32)
        · refine go_icF (pc' := 78) (hb hby at_75) rfl (XT.ii_ne_f cz798) ?_
          refine go_aload (pc' := 80) (hb hby at_78) rfl rfl rfl ?_
          refine go_iload (pc' := 82) (hb hby at_80) rfl rfl ?_
          refine go_iconst (pc' := 83) (v := 1) (hb hby at_82) rfl rfl ?_
          refine go_isub (pc' := 84) (z := (10 : Int32)) (hb hby at_83) rfl (by decide) ?_
          refine go_iconst (pc' := 85) (v := (-1)) (hb hby at_84) rfl rfl ?_
          refine go_iload (pc' := 87) (hb hby at_85) rfl rfl ?_
          refine callS0 (cells' := 5) (slots' := 72) (Wd := 0) (argsL := [(.ref r5), (.int (10 : Int32)), (.int (-1 : Int32)), (.int ((x3 &&& (255 : Int64)).toInt32))]) (rest := []) (pay_of (a0 := a0) (c_edit11_10 l G r5 (-1 : Int32) ((x3 &&& (255 : Int64)).toInt32) (116 : Int32) (114 : Int32) (97 : Int32) (110 : Int32) (115 : Int32) (108 : Int32) (117 : Int32) (99 : Int32) (101 : Int32) (110 : Int32) (116 : Int32) h1 O656 (c8_l _) f6) (wk G 86 rfl) (wk G 3 rfl) (by decide) (by decide)) (wk G 84 rfl) (wk G 85 rfl) (wk G 3 rfl) (wk G 86 rfl) (by decide) pd13 rfl rfl (by rw [hml]; rfl) (Nat.le_of_ble_eq_true rfl) rfl rfl (by decide) (by decide) all0 (fun _ _ => sf0) (hb hby at_87) (k_v (pc' := 90) rfl ?_)
          rintro _ h799 ⟨r801, r802, rfl, f803, f804⟩ K800
          refine go_astore (pc' := 92) (ls' := #[.val (.int x0), .val (.int x1), .val (.int x2), .val (.long x3), .second, .val (.int (x0 &&& (7 : Int32))), .val (.ref r5), .val (.int (11 : Int32)), .val (.int ((x3 &&& (255 : Int64)).toInt32)), .val (.ref r801)]) (hb hby at_90) rfl rfl rfl ?_
          refine go_goto (pc' := 230) (hb hby at_92) (by decide) rfl ?_
          refine go_aload (pc' := 232) (hb hby at_230) rfl rfl rfl ?_
          refine go_old (fun O805 => ?_)
          refine callS0 (cells' := 6) (slots' := 75) (Wd := 0) (argsL := [(.ref r801)]) (rest := []) (pay_of (a0 := a0) (c_of l G r801 r802 h799 O805 f804) (wk G 30 rfl) (wk G 29 rfl) (by decide) (by decide)) (wk G 27 rfl) (wk G 28 rfl) (wk G 29 rfl) (wk G 30 rfl) (by decide) pd12 rfl rfl (by rw [hml]; rfl) (Nat.le_of_ble_eq_true rfl) rfl rfl (by decide) (by decide) all0 (fun _ _ => sf0) (hb hby at_232) (k_v (pc' := 235) rfl ?_)
          rintro _ h806 (⟨rfl, f808⟩ | ⟨rfl, f809⟩ | ⟨rfl, f810⟩ | ⟨rfl, f811, f812, f813⟩) K807
          · refine go_aload (pc' := 237) (hb hby at_235) rfl rfl rfl ?_
            have K814 : Keep h799 h806 [] := ((Keep.refl h799 []).trans K807 all0)
            have S815 := (f804.keep K814)
            refine go_old (fun O816 => ?_)
            refine callSW0 rfl (cells' := 12) (slots' := 199) (Wd := 1) (argsL := [(.ref r801)]) (rest := [(.ref (s_TRANSPARENT Z))]) (payW_of (a0 := a0) (c_expd l G r801 r802 h806 O816 S815) (wk G 64 rfl) (wk G 3 rfl) (by decide) (by decide) (ew1 G)) (wk G 62 rfl) (wk G 63 rfl) (wk G 3 rfl) (wk G 64 rfl) (by decide) pd12 rfl rfl (by rw [hml]; rfl) (Nat.le_of_ble_eq_true rfl) rfl rfl (by decide) (by decide) all0 (hb hby at_237) (k_v (pc' := 240) rfl ?_)
            rintro _ h817 (⟨rfl, f819⟩ | ⟨rfl, f820⟩ | ⟨rfl, f821⟩ | ⟨rfl, f822, f823, f824⟩) K818
            · refine go_acF (pc' := 243) (hb hby at_240) rfl rfl rfl (XT.aa_ne_f rfl) ?_
              refine go_iconst (pc' := 244) (v := 1) (hb hby at_243) rfl rfl ?_
              refine go_goto (pc' := 248) (hb hby at_244) (by decide) rfl ?_
              have K825 : Keep h0 h1 [] := ((Keep.refl h0 []).trans K2 all0)
              have K826 : Keep h0 h799 [] := (K825.trans K800 all0)
              have K827 : Keep h0 h806 [] := (K826.trans K807 all0)
              have K828 : Keep h0 h817 [] := (K827.trans K818 all0)
              refine go_ireturn hret hlk rfl (by simp) (hb hby at_248) (by decide) (by decide) ⟨_, rfl, rfl⟩ K828
            · exact absurd (f808.trans f820) (by decide)
            · exact absurd (f808.trans f821) (by decide)
            · exact absurd f808.symm f822
          · refine go_aload (pc' := 237) (hb hby at_235) rfl rfl rfl ?_
            have K829 : Keep h799 h806 [] := ((Keep.refl h799 []).trans K807 all0)
            have S830 := (f804.keep K829)
            refine go_old (fun O831 => ?_)
            refine callSW0 rfl (cells' := 12) (slots' := 199) (Wd := 1) (argsL := [(.ref r801)]) (rest := [(.ref (s_TRANSLUCENT Z))]) (payW_of (a0 := a0) (c_expd l G r801 r802 h806 O831 S830) (wk G 64 rfl) (wk G 3 rfl) (by decide) (by decide) (ew1 G)) (wk G 62 rfl) (wk G 63 rfl) (wk G 3 rfl) (wk G 64 rfl) (by decide) pd12 rfl rfl (by rw [hml]; rfl) (Nat.le_of_ble_eq_true rfl) rfl rfl (by decide) (by decide) all0 (hb hby at_237) (k_v (pc' := 240) rfl ?_)
            rintro _ h832 (⟨rfl, f834⟩ | ⟨rfl, f835⟩ | ⟨rfl, f836⟩ | ⟨rfl, f837, f838, f839⟩) K833
            · exact absurd (f809.trans f834) (by decide)
            · refine go_acF (pc' := 243) (hb hby at_240) rfl rfl rfl (XT.aa_ne_f rfl) ?_
              refine go_iconst (pc' := 244) (v := 1) (hb hby at_243) rfl rfl ?_
              refine go_goto (pc' := 248) (hb hby at_244) (by decide) rfl ?_
              have K840 : Keep h0 h1 [] := ((Keep.refl h0 []).trans K2 all0)
              have K841 : Keep h0 h799 [] := (K840.trans K800 all0)
              have K842 : Keep h0 h806 [] := (K841.trans K807 all0)
              have K843 : Keep h0 h832 [] := (K842.trans K833 all0)
              refine go_ireturn hret hlk rfl (by simp) (hb hby at_248) (by decide) (by decide) ⟨_, rfl, rfl⟩ K843
            · exact absurd (f809.trans f836) (by decide)
            · exact absurd f809.symm f838
          · refine go_aload (pc' := 237) (hb hby at_235) rfl rfl rfl ?_
            have K844 : Keep h799 h806 [] := ((Keep.refl h799 []).trans K807 all0)
            have S845 := (f804.keep K844)
            refine go_old (fun O846 => ?_)
            refine callSW0 rfl (cells' := 12) (slots' := 199) (Wd := 1) (argsL := [(.ref r801)]) (rest := [(.ref (s_OPAQUE Z))]) (payW_of (a0 := a0) (c_expd l G r801 r802 h806 O846 S845) (wk G 64 rfl) (wk G 3 rfl) (by decide) (by decide) (ew1 G)) (wk G 62 rfl) (wk G 63 rfl) (wk G 3 rfl) (wk G 64 rfl) (by decide) pd12 rfl rfl (by rw [hml]; rfl) (Nat.le_of_ble_eq_true rfl) rfl rfl (by decide) (by decide) all0 (hb hby at_237) (k_v (pc' := 240) rfl ?_)
            rintro _ h847 (⟨rfl, f849⟩ | ⟨rfl, f850⟩ | ⟨rfl, f851⟩ | ⟨rfl, f852, f853, f854⟩) K848
            · exact absurd (f810.trans f849) (by decide)
            · exact absurd (f810.trans f850) (by decide)
            · refine go_acF (pc' := 243) (hb hby at_240) rfl rfl rfl (XT.aa_ne_f rfl) ?_
              refine go_iconst (pc' := 244) (v := 1) (hb hby at_243) rfl rfl ?_
              refine go_goto (pc' := 248) (hb hby at_244) (by decide) rfl ?_
              have K855 : Keep h0 h1 [] := ((Keep.refl h0 []).trans K2 all0)
              have K856 : Keep h0 h799 [] := (K855.trans K800 all0)
              have K857 : Keep h0 h806 [] := (K856.trans K807 all0)
              have K858 : Keep h0 h847 [] := (K857.trans K848 all0)
              refine go_ireturn hret hlk rfl (by simp) (hb hby at_248) (by decide) (by decide) ⟨_, rfl, rfl⟩ K858
            · exact absurd f810.symm f854
          · refine go_aload (pc' := 237) (hb hby at_235) rfl rfl rfl ?_
            have K859 : Keep h799 h806 [] := ((Keep.refl h799 []).trans K807 all0)
            have S860 := (f804.keep K859)
            refine go_old (fun O861 => ?_)
            refine callSW0 rfl (cells' := 12) (slots' := 199) (Wd := 1) (argsL := [(.ref r801)]) (rest := [.null]) (payW_of (a0 := a0) (c_expd l G r801 r802 h806 O861 S860) (wk G 64 rfl) (wk G 3 rfl) (by decide) (by decide) (ew1 G)) (wk G 62 rfl) (wk G 63 rfl) (wk G 3 rfl) (wk G 64 rfl) (by decide) pd12 rfl rfl (by rw [hml]; rfl) (Nat.le_of_ble_eq_true rfl) rfl rfl (by decide) (by decide) all0 (hb hby at_237) (k_v (pc' := 240) rfl ?_)
            rintro _ h862 (⟨rfl, f864⟩ | ⟨rfl, f865⟩ | ⟨rfl, f866⟩ | ⟨rfl, f867, f868, f869⟩) K863
            · exact absurd f864.symm f811
            · exact absurd f865.symm f812
            · exact absurd f866.symm f813
            · refine go_acF (pc' := 243) (hb hby at_240) rfl rfl rfl (XT.aa_ne_f rfl) ?_
              refine go_iconst (pc' := 244) (v := 1) (hb hby at_243) rfl rfl ?_
              refine go_goto (pc' := 248) (hb hby at_244) (by decide) rfl ?_
              have K870 : Keep h0 h1 [] := ((Keep.refl h0 []).trans K2 all0)
              have K871 : Keep h0 h799 [] := (K870.trans K800 all0)
              have K872 : Keep h0 h806 [] := (K871.trans K807 all0)
              have K873 : Keep h0 h862 [] := (K872.trans K863 all0)
              refine go_ireturn hret hlk rfl (by simp) (hb hby at_248) (by decide) (by decide) ⟨_, rfl, rfl⟩ K873
        · refine go_icT (pc' := 95) (hb hby at_75) (by decide) rfl (XT.ii_ne_t cz798) ?_
          refine go_iload (pc' := 97) (hb hby at_95) rfl rfl ?_
          refine go_iconst (pc' := 98) (v := 3) (hb hby at_97) rfl rfl ?_
          by_cases cz874 : (x0 &&& (7 : Int32)) = (3 : Int32)
          · refine go_icF (pc' := 101) (hb hby at_98) rfl (XT.ii_ne_f cz874) ?_
            refine go_aload (pc' := 103) (hb hby at_101) rfl rfl rfl ?_
            refine go_iload (pc' := 105) (hb hby at_103) rfl rfl ?_
            refine go_iconst (pc' := 106) (v := 1) (hb hby at_105) rfl rfl ?_
            refine go_iadd (pc' := 107) (z := (12 : Int32)) (hb hby at_106) rfl (by decide) ?_
            refine go_iload (pc' := 109) (hb hby at_107) rfl rfl ?_
            refine go_iload (pc' := 111) (hb hby at_109) rfl rfl ?_
            refine callS0 (cells' := 5) (slots' := 76) (Wd := 0) (argsL := [(.ref r5), (.int (12 : Int32)), (.int (11 : Int32)), (.int ((x3 &&& (255 : Int64)).toInt32))]) (rest := []) (pay_of (a0 := a0) (c_edit11_12 l G r5 (11 : Int32) ((x3 &&& (255 : Int64)).toInt32) (116 : Int32) (114 : Int32) (97 : Int32) (110 : Int32) (115 : Int32) (108 : Int32) (117 : Int32) (99 : Int32) (101 : Int32) (110 : Int32) (116 : Int32) h1 O656 (c8_l _) f6) (wk G 86 rfl) (wk G 3 rfl) (by decide) (by decide)) (wk G 84 rfl) (wk G 85 rfl) (wk G 3 rfl) (wk G 86 rfl) (by decide) pd13 rfl rfl (by rw [hml]; rfl) (Nat.le_of_ble_eq_true rfl) rfl rfl (by decide) (by decide) all0 (fun _ _ => sf0) (hb hby at_111) (k_v (pc' := 114) rfl ?_)
            rintro _ h875 ⟨r877, r878, rfl, f879, f880⟩ K876
            refine go_astore (pc' := 116) (ls' := #[.val (.int x0), .val (.int x1), .val (.int x2), .val (.long x3), .second, .val (.int (x0 &&& (7 : Int32))), .val (.ref r5), .val (.int (11 : Int32)), .val (.int ((x3 &&& (255 : Int64)).toInt32)), .val (.ref r877)]) (hb hby at_114) rfl rfl rfl ?_
            refine go_goto (pc' := 230) (hb hby at_116) (by decide) rfl ?_
            refine go_aload (pc' := 232) (hb hby at_230) rfl rfl rfl ?_
            refine go_old (fun O881 => ?_)
            refine callS0 (cells' := 6) (slots' := 79) (Wd := 0) (argsL := [(.ref r877)]) (rest := []) (pay_of (a0 := a0) (c_of l G r877 r878 h875 O881 f880) (wk G 30 rfl) (wk G 29 rfl) (by decide) (by decide)) (wk G 27 rfl) (wk G 28 rfl) (wk G 29 rfl) (wk G 30 rfl) (by decide) pd12 rfl rfl (by rw [hml]; rfl) (Nat.le_of_ble_eq_true rfl) rfl rfl (by decide) (by decide) all0 (fun _ _ => sf0) (hb hby at_232) (k_v (pc' := 235) rfl ?_)
            rintro _ h882 (⟨rfl, f884⟩ | ⟨rfl, f885⟩ | ⟨rfl, f886⟩ | ⟨rfl, f887, f888, f889⟩) K883
            · refine go_aload (pc' := 237) (hb hby at_235) rfl rfl rfl ?_
              have K890 : Keep h875 h882 [] := ((Keep.refl h875 []).trans K883 all0)
              have S891 := (f880.keep K890)
              refine go_old (fun O892 => ?_)
              refine callSW0 rfl (cells' := 12) (slots' := 203) (Wd := 1) (argsL := [(.ref r877)]) (rest := [(.ref (s_TRANSPARENT Z))]) (payW_of (a0 := a0) (c_expd l G r877 r878 h882 O892 S891) (wk G 64 rfl) (wk G 3 rfl) (by decide) (by decide) (ew1 G)) (wk G 62 rfl) (wk G 63 rfl) (wk G 3 rfl) (wk G 64 rfl) (by decide) pd12 rfl rfl (by rw [hml]; rfl) (Nat.le_of_ble_eq_true rfl) rfl rfl (by decide) (by decide) all0 (hb hby at_237) (k_v (pc' := 240) rfl ?_)
              rintro _ h893 (⟨rfl, f895⟩ | ⟨rfl, f896⟩ | ⟨rfl, f897⟩ | ⟨rfl, f898, f899, f900⟩) K894
              · refine go_acF (pc' := 243) (hb hby at_240) rfl rfl rfl (XT.aa_ne_f rfl) ?_
                refine go_iconst (pc' := 244) (v := 1) (hb hby at_243) rfl rfl ?_
                refine go_goto (pc' := 248) (hb hby at_244) (by decide) rfl ?_
                have K901 : Keep h0 h1 [] := ((Keep.refl h0 []).trans K2 all0)
                have K902 : Keep h0 h875 [] := (K901.trans K876 all0)
                have K903 : Keep h0 h882 [] := (K902.trans K883 all0)
                have K904 : Keep h0 h893 [] := (K903.trans K894 all0)
                refine go_ireturn hret hlk rfl (by simp) (hb hby at_248) (by decide) (by decide) ⟨_, rfl, rfl⟩ K904
              · exact absurd (f884.trans f896) (by decide)
              · exact absurd (f884.trans f897) (by decide)
              · exact absurd f884.symm f898
            · refine go_aload (pc' := 237) (hb hby at_235) rfl rfl rfl ?_
              have K905 : Keep h875 h882 [] := ((Keep.refl h875 []).trans K883 all0)
              have S906 := (f880.keep K905)
              refine go_old (fun O907 => ?_)
              refine callSW0 rfl (cells' := 12) (slots' := 203) (Wd := 1) (argsL := [(.ref r877)]) (rest := [(.ref (s_TRANSLUCENT Z))]) (payW_of (a0 := a0) (c_expd l G r877 r878 h882 O907 S906) (wk G 64 rfl) (wk G 3 rfl) (by decide) (by decide) (ew1 G)) (wk G 62 rfl) (wk G 63 rfl) (wk G 3 rfl) (wk G 64 rfl) (by decide) pd12 rfl rfl (by rw [hml]; rfl) (Nat.le_of_ble_eq_true rfl) rfl rfl (by decide) (by decide) all0 (hb hby at_237) (k_v (pc' := 240) rfl ?_)
              rintro _ h908 (⟨rfl, f910⟩ | ⟨rfl, f911⟩ | ⟨rfl, f912⟩ | ⟨rfl, f913, f914, f915⟩) K909
              · exact absurd (f885.trans f910) (by decide)
              · refine go_acF (pc' := 243) (hb hby at_240) rfl rfl rfl (XT.aa_ne_f rfl) ?_
                refine go_iconst (pc' := 244) (v := 1) (hb hby at_243) rfl rfl ?_
                refine go_goto (pc' := 248) (hb hby at_244) (by decide) rfl ?_
                have K916 : Keep h0 h1 [] := ((Keep.refl h0 []).trans K2 all0)
                have K917 : Keep h0 h875 [] := (K916.trans K876 all0)
                have K918 : Keep h0 h882 [] := (K917.trans K883 all0)
                have K919 : Keep h0 h908 [] := (K918.trans K909 all0)
                refine go_ireturn hret hlk rfl (by simp) (hb hby at_248) (by decide) (by decide) ⟨_, rfl, rfl⟩ K919
              · exact absurd (f885.trans f912) (by decide)
              · exact absurd f885.symm f914
            · refine go_aload (pc' := 237) (hb hby at_235) rfl rfl rfl ?_
              have K920 : Keep h875 h882 [] := ((Keep.refl h875 []).trans K883 all0)
              have S921 := (f880.keep K920)
              refine go_old (fun O922 => ?_)
              refine callSW0 rfl (cells' := 12) (slots' := 203) (Wd := 1) (argsL := [(.ref r877)]) (rest := [(.ref (s_OPAQUE Z))]) (payW_of (a0 := a0) (c_expd l G r877 r878 h882 O922 S921) (wk G 64 rfl) (wk G 3 rfl) (by decide) (by decide) (ew1 G)) (wk G 62 rfl) (wk G 63 rfl) (wk G 3 rfl) (wk G 64 rfl) (by decide) pd12 rfl rfl (by rw [hml]; rfl) (Nat.le_of_ble_eq_true rfl) rfl rfl (by decide) (by decide) all0 (hb hby at_237) (k_v (pc' := 240) rfl ?_)
              rintro _ h923 (⟨rfl, f925⟩ | ⟨rfl, f926⟩ | ⟨rfl, f927⟩ | ⟨rfl, f928, f929, f930⟩) K924
              · exact absurd (f886.trans f925) (by decide)
              · exact absurd (f886.trans f926) (by decide)
              · refine go_acF (pc' := 243) (hb hby at_240) rfl rfl rfl (XT.aa_ne_f rfl) ?_
                refine go_iconst (pc' := 244) (v := 1) (hb hby at_243) rfl rfl ?_
                refine go_goto (pc' := 248) (hb hby at_244) (by decide) rfl ?_
                have K931 : Keep h0 h1 [] := ((Keep.refl h0 []).trans K2 all0)
                have K932 : Keep h0 h875 [] := (K931.trans K876 all0)
                have K933 : Keep h0 h882 [] := (K932.trans K883 all0)
                have K934 : Keep h0 h923 [] := (K933.trans K924 all0)
                refine go_ireturn hret hlk rfl (by simp) (hb hby at_248) (by decide) (by decide) ⟨_, rfl, rfl⟩ K934
              · exact absurd f886.symm f930
            · refine go_aload (pc' := 237) (hb hby at_235) rfl rfl rfl ?_
              have K935 : Keep h875 h882 [] := ((Keep.refl h875 []).trans K883 all0)
              have S936 := (f880.keep K935)
              refine go_old (fun O937 => ?_)
              refine callSW0 rfl (cells' := 12) (slots' := 203) (Wd := 1) (argsL := [(.ref r877)]) (rest := [.null]) (payW_of (a0 := a0) (c_expd l G r877 r878 h882 O937 S936) (wk G 64 rfl) (wk G 3 rfl) (by decide) (by decide) (ew1 G)) (wk G 62 rfl) (wk G 63 rfl) (wk G 3 rfl) (wk G 64 rfl) (by decide) pd12 rfl rfl (by rw [hml]; rfl) (Nat.le_of_ble_eq_true rfl) rfl rfl (by decide) (by decide) all0 (hb hby at_237) (k_v (pc' := 240) rfl ?_)
              rintro _ h938 (⟨rfl, f940⟩ | ⟨rfl, f941⟩ | ⟨rfl, f942⟩ | ⟨rfl, f943, f944, f945⟩) K939
              · exact absurd f940.symm f887
              · exact absurd f941.symm f888
              · exact absurd f942.symm f889
              · refine go_acF (pc' := 243) (hb hby at_240) rfl rfl rfl (XT.aa_ne_f rfl) ?_
                refine go_iconst (pc' := 244) (v := 1) (hb hby at_243) rfl rfl ?_
                refine go_goto (pc' := 248) (hb hby at_244) (by decide) rfl ?_
                have K946 : Keep h0 h1 [] := ((Keep.refl h0 []).trans K2 all0)
                have K947 : Keep h0 h875 [] := (K946.trans K876 all0)
                have K948 : Keep h0 h882 [] := (K947.trans K883 all0)
                have K949 : Keep h0 h938 [] := (K948.trans K939 all0)
                refine go_ireturn hret hlk rfl (by simp) (hb hby at_248) (by decide) (by decide) ⟨_, rfl, rfl⟩ K949
          · refine go_icT (pc' := 119) (hb hby at_98) (by decide) rfl (XT.ii_ne_t cz874) ?_
            refine go_iload (pc' := 121) (hb hby at_119) rfl rfl ?_
            refine go_iconst (pc' := 122) (v := 4) (hb hby at_121) rfl rfl ?_
            by_cases cz950 : (x0 &&& (7 : Int32)) = (4 : Int32)
            · refine go_icF (pc' := 125) (hb hby at_122) rfl (XT.ii_ne_f cz950) ?_
              refine go_iload (pc' := 127) (hb hby at_125) rfl rfl ?_
              refine callS0 (cells' := 4) (slots' := 53) (Wd := 0) (argsL := [(.int ((x3 &&& (255 : Int64)).toInt32))]) (rest := []) (pay_of (a0 := a0) (c_valueof l G ((x3 &&& (255 : Int64)).toInt32) h1 O656 (c8_l _)) (wk G 70 rfl) (wk G 6 rfl) (by decide) (by decide)) (wk G 68 rfl) (wk G 69 rfl) (wk G 6 rfl) (wk G 70 rfl) (by decide) pd14 rfl rfl (by rw [hml]; rfl) (Nat.le_of_ble_eq_true rfl) rfl rfl (by decide) (by decide) all0 (fun _ _ => sf0) (hb hby at_127) (k_v (pc' := 130) rfl ?_)
              rintro _ h951 ⟨r953, rfl, f954, f955⟩ K952
              refine go_astore (pc' := 132) (ls' := #[.val (.int x0), .val (.int x1), .val (.int x2), .val (.long x3), .second, .val (.int (x0 &&& (7 : Int32))), .val (.ref r5), .val (.int (11 : Int32)), .val (.int ((x3 &&& (255 : Int64)).toInt32)), .val (.ref r953)]) (hb hby at_130) rfl rfl rfl ?_
              refine go_goto (pc' := 230) (hb hby at_132) (by decide) rfl ?_
              refine go_aload (pc' := 232) (hb hby at_230) rfl rfl rfl ?_
              refine go_old (fun O956 => ?_)
              refine callS0 (cells' := 5) (slots' := 56) (Wd := 0) (argsL := [(.ref r953)]) (rest := []) (pay_of (a0 := a0) (c_of l G r953 [((x3 &&& (255 : Int64)).toInt32)] h951 O956 f955) (wk G 30 rfl) (wk G 29 rfl) (by decide) (by decide)) (wk G 27 rfl) (wk G 28 rfl) (wk G 29 rfl) (wk G 30 rfl) (by decide) pd12 rfl rfl (by rw [hml]; rfl) (Nat.le_of_ble_eq_true rfl) rfl rfl (by decide) (by decide) all0 (fun _ _ => sf0) (hb hby at_232) (k_v (pc' := 235) rfl ?_)
              rintro _ h957 (⟨rfl, f959⟩ | ⟨rfl, f960⟩ | ⟨rfl, f961⟩ | ⟨rfl, f962, f963, f964⟩) K958
              · refine go_aload (pc' := 237) (hb hby at_235) rfl rfl rfl ?_
                have K965 : Keep h951 h957 [] := ((Keep.refl h951 []).trans K958 all0)
                have S966 := (f955.keep K965)
                refine go_old (fun O967 => ?_)
                refine callSW0 rfl (cells' := 11) (slots' := 180) (Wd := 1) (argsL := [(.ref r953)]) (rest := [(.ref (s_TRANSPARENT Z))]) (payW_of (a0 := a0) (c_expd l G r953 [((x3 &&& (255 : Int64)).toInt32)] h957 O967 S966) (wk G 64 rfl) (wk G 3 rfl) (by decide) (by decide) (ew1 G)) (wk G 62 rfl) (wk G 63 rfl) (wk G 3 rfl) (wk G 64 rfl) (by decide) pd12 rfl rfl (by rw [hml]; rfl) (Nat.le_of_ble_eq_true rfl) rfl rfl (by decide) (by decide) all0 (hb hby at_237) (k_v (pc' := 240) rfl ?_)
                rintro _ h968 (⟨rfl, f970⟩ | ⟨rfl, f971⟩ | ⟨rfl, f972⟩ | ⟨rfl, f973, f974, f975⟩) K969
                · refine go_acF (pc' := 243) (hb hby at_240) rfl rfl rfl (XT.aa_ne_f rfl) ?_
                  refine go_iconst (pc' := 244) (v := 1) (hb hby at_243) rfl rfl ?_
                  refine go_goto (pc' := 248) (hb hby at_244) (by decide) rfl ?_
                  have K976 : Keep h0 h1 [] := ((Keep.refl h0 []).trans K2 all0)
                  have K977 : Keep h0 h951 [] := (K976.trans K952 all0)
                  have K978 : Keep h0 h957 [] := (K977.trans K958 all0)
                  have K979 : Keep h0 h968 [] := (K978.trans K969 all0)
                  refine go_ireturn hret hlk rfl (by simp) (hb hby at_248) (by decide) (by decide) ⟨_, rfl, rfl⟩ K979
                · exact absurd (f959.trans f971) (by decide)
                · exact absurd (f959.trans f972) (by decide)
                · exact absurd f959.symm f973
              · refine go_aload (pc' := 237) (hb hby at_235) rfl rfl rfl ?_
                have K980 : Keep h951 h957 [] := ((Keep.refl h951 []).trans K958 all0)
                have S981 := (f955.keep K980)
                refine go_old (fun O982 => ?_)
                refine callSW0 rfl (cells' := 11) (slots' := 180) (Wd := 1) (argsL := [(.ref r953)]) (rest := [(.ref (s_TRANSLUCENT Z))]) (payW_of (a0 := a0) (c_expd l G r953 [((x3 &&& (255 : Int64)).toInt32)] h957 O982 S981) (wk G 64 rfl) (wk G 3 rfl) (by decide) (by decide) (ew1 G)) (wk G 62 rfl) (wk G 63 rfl) (wk G 3 rfl) (wk G 64 rfl) (by decide) pd12 rfl rfl (by rw [hml]; rfl) (Nat.le_of_ble_eq_true rfl) rfl rfl (by decide) (by decide) all0 (hb hby at_237) (k_v (pc' := 240) rfl ?_)
                rintro _ h983 (⟨rfl, f985⟩ | ⟨rfl, f986⟩ | ⟨rfl, f987⟩ | ⟨rfl, f988, f989, f990⟩) K984
                · exact absurd (f960.trans f985) (by decide)
                · refine go_acF (pc' := 243) (hb hby at_240) rfl rfl rfl (XT.aa_ne_f rfl) ?_
                  refine go_iconst (pc' := 244) (v := 1) (hb hby at_243) rfl rfl ?_
                  refine go_goto (pc' := 248) (hb hby at_244) (by decide) rfl ?_
                  have K991 : Keep h0 h1 [] := ((Keep.refl h0 []).trans K2 all0)
                  have K992 : Keep h0 h951 [] := (K991.trans K952 all0)
                  have K993 : Keep h0 h957 [] := (K992.trans K958 all0)
                  have K994 : Keep h0 h983 [] := (K993.trans K984 all0)
                  refine go_ireturn hret hlk rfl (by simp) (hb hby at_248) (by decide) (by decide) ⟨_, rfl, rfl⟩ K994
                · exact absurd (f960.trans f987) (by decide)
                · exact absurd f960.symm f989
              · refine go_aload (pc' := 237) (hb hby at_235) rfl rfl rfl ?_
                have K995 : Keep h951 h957 [] := ((Keep.refl h951 []).trans K958 all0)
                have S996 := (f955.keep K995)
                refine go_old (fun O997 => ?_)
                refine callSW0 rfl (cells' := 11) (slots' := 180) (Wd := 1) (argsL := [(.ref r953)]) (rest := [(.ref (s_OPAQUE Z))]) (payW_of (a0 := a0) (c_expd l G r953 [((x3 &&& (255 : Int64)).toInt32)] h957 O997 S996) (wk G 64 rfl) (wk G 3 rfl) (by decide) (by decide) (ew1 G)) (wk G 62 rfl) (wk G 63 rfl) (wk G 3 rfl) (wk G 64 rfl) (by decide) pd12 rfl rfl (by rw [hml]; rfl) (Nat.le_of_ble_eq_true rfl) rfl rfl (by decide) (by decide) all0 (hb hby at_237) (k_v (pc' := 240) rfl ?_)
                rintro _ h998 (⟨rfl, f1000⟩ | ⟨rfl, f1001⟩ | ⟨rfl, f1002⟩ | ⟨rfl, f1003, f1004, f1005⟩) K999
                · exact absurd (f961.trans f1000) (by decide)
                · exact absurd (f961.trans f1001) (by decide)
                · refine go_acF (pc' := 243) (hb hby at_240) rfl rfl rfl (XT.aa_ne_f rfl) ?_
                  refine go_iconst (pc' := 244) (v := 1) (hb hby at_243) rfl rfl ?_
                  refine go_goto (pc' := 248) (hb hby at_244) (by decide) rfl ?_
                  have K1006 : Keep h0 h1 [] := ((Keep.refl h0 []).trans K2 all0)
                  have K1007 : Keep h0 h951 [] := (K1006.trans K952 all0)
                  have K1008 : Keep h0 h957 [] := (K1007.trans K958 all0)
                  have K1009 : Keep h0 h998 [] := (K1008.trans K999 all0)
                  refine go_ireturn hret hlk rfl (by simp) (hb hby at_248) (by decide) (by decide) ⟨_, rfl, rfl⟩ K1009
                · exact absurd f961.symm f1005
              · refine go_aload (pc' := 237) (hb hby at_235) rfl rfl rfl ?_
                have K1010 : Keep h951 h957 [] := ((Keep.refl h951 []).trans K958 all0)
                have S1011 := (f955.keep K1010)
                refine go_old (fun O1012 => ?_)
                refine callSW0 rfl (cells' := 11) (slots' := 180) (Wd := 1) (argsL := [(.ref r953)]) (rest := [.null]) (payW_of (a0 := a0) (c_expd l G r953 [((x3 &&& (255 : Int64)).toInt32)] h957 O1012 S1011) (wk G 64 rfl) (wk G 3 rfl) (by decide) (by decide) (ew1 G)) (wk G 62 rfl) (wk G 63 rfl) (wk G 3 rfl) (wk G 64 rfl) (by decide) pd12 rfl rfl (by rw [hml]; rfl) (Nat.le_of_ble_eq_true rfl) rfl rfl (by decide) (by decide) all0 (hb hby at_237) (k_v (pc' := 240) rfl ?_)
                rintro _ h1013 (⟨rfl, f1015⟩ | ⟨rfl, f1016⟩ | ⟨rfl, f1017⟩ | ⟨rfl, f1018, f1019, f1020⟩) K1014
                · exact absurd f1015.symm f962
                · exact absurd f1016.symm f963
                · exact absurd f1017.symm f964
                · refine go_acF (pc' := 243) (hb hby at_240) rfl rfl rfl (XT.aa_ne_f rfl) ?_
                  refine go_iconst (pc' := 244) (v := 1) (hb hby at_243) rfl rfl ?_
                  refine go_goto (pc' := 248) (hb hby at_244) (by decide) rfl ?_
                  have K1021 : Keep h0 h1 [] := ((Keep.refl h0 []).trans K2 all0)
                  have K1022 : Keep h0 h951 [] := (K1021.trans K952 all0)
                  have K1023 : Keep h0 h957 [] := (K1022.trans K958 all0)
                  have K1024 : Keep h0 h1013 [] := (K1023.trans K1014 all0)
                  refine go_ireturn hret hlk rfl (by simp) (hb hby at_248) (by decide) (by decide) ⟨_, rfl, rfl⟩ K1024
            · refine go_icT (pc' := 135) (hb hby at_122) (by decide) rfl (XT.ii_ne_t cz950) ?_
              refine go_iload (pc' := 137) (hb hby at_135) rfl rfl ?_
              refine go_iconst (pc' := 138) (v := 5) (hb hby at_137) rfl rfl ?_
              by_cases cz1025 : (x0 &&& (7 : Int32)) = (5 : Int32)
              · refine go_icF (pc' := 141) (hb hby at_138) rfl (XT.ii_ne_f cz1025) ?_
                refine go_newO (pc' := 144) (cells' := 3) (slots' := 52) (wk G 111 rfl) (wk G 7 rfl) (wk G 6 rfl) (hb hby at_141) rfl rfl rfl (by decide) (by decide) (fun h1026 a1027 g1028 X1029 E1030 D1031 U1032 => ?_)
                refine go_dup (pc' := 145) (hb hby at_144) rfl rfl ?_
                refine go_iconst (pc' := 146) (v := 0) (hb hby at_145) rfl rfl ?_
                refine go_newP (pc' := 148) (cells' := 4) (slots' := 52) (cap := 0) (vs := []) (ty := .char) (dv := .int 0) (wk G 112 rfl) rfl rfl (hb hby at_146) rfl (by decide) rfl (by decide) rfl rfl rfl (by decide) (by decide) (fun h1033 a1034 k1038 g1035 X1036 A1037 => ?_)
                have K1039 : Keep h1026 h1033 [] := ((Keep.refl h1026 []).ext X1036)
                have E1040 := (E1030.keep K1039)
                have K1041 : Keep h0 h1 [] := ((Keep.refl h0 []).trans K2 all0)
                have F1042 := D1031 (Or.inr (wk G 9 rfl)) (ty := (.array .byte)) (by decide)
                have F1043 := (F1042.keep K1039 nin0)
                have F1044 := D1031 (Or.inr (wk G 10 rfl)) (ty := .byte) (by decide)
                have F1045 := (F1044.keep K1039 nin0)
                refine go_old (fun O1046 => ?_)
                refine callIW0 rfl (cells' := 8) (slots' := 60) (Wd := 1) (argsL := [(.ref a1034)]) (rest := [(.ref a1027)]) (payW_of (a0 := a0) (c_new0 l G a1027 a1034 k1038 h1033 O1046 E1040 (Nat.le_trans O0.2.1 (Nat.le_trans K1041.1 (Nat.le_of_eq g1028))) F1043 F1045 A1037) (wk G 115 rfl) (wk G 6 rfl) (by decide) (by decide) (ew1 G)) rfl (wk G 113 rfl) (wk G 114 rfl) (wk G 115 rfl) (by decide) pd10 rfl rfl (by rw [hml]; rfl) (Nat.le_of_ble_eq_true rfl) rfl rfl (by decide) (by decide) (allS (Nat.le_trans O0.2.1 (Nat.le_trans K1041.1 (Nat.le_of_eq g1028))) all0) (hb hby at_148) (k_n (pc' := 151) rfl ?_)
                rintro  h1047 f1049 K1048
                refine go_astore (pc' := 153) (ls' := #[.val (.int x0), .val (.int x1), .val (.int x2), .val (.long x3), .second, .val (.int (x0 &&& (7 : Int32))), .val (.ref r5), .val (.int (11 : Int32)), .val (.int ((x3 &&& (255 : Int64)).toInt32)), .val (.ref a1027)]) (hb hby at_151) rfl rfl rfl ?_
                refine go_goto (pc' := 230) (hb hby at_153) (by decide) rfl ?_
                refine go_aload (pc' := 232) (hb hby at_230) rfl rfl rfl ?_
                refine go_old (fun O1050 => ?_)
                refine callS0 (cells' := 9) (slots' := 63) (Wd := 0) (argsL := [(.ref a1027)]) (rest := []) (pay_of (a0 := a0) (c_of l G a1027 [] h1047 O1050 f1049) (wk G 30 rfl) (wk G 29 rfl) (by decide) (by decide)) (wk G 27 rfl) (wk G 28 rfl) (wk G 29 rfl) (wk G 30 rfl) (by decide) pd12 rfl rfl (by rw [hml]; rfl) (Nat.le_of_ble_eq_true rfl) rfl rfl (by decide) (by decide) all0 (fun _ _ => sf0) (hb hby at_232) (k_v (pc' := 235) rfl ?_)
                rintro _ h1051 (⟨rfl, f1053⟩ | ⟨rfl, f1054⟩ | ⟨rfl, f1055⟩ | ⟨rfl, f1056, f1057, f1058⟩) K1052
                · refine go_aload (pc' := 237) (hb hby at_235) rfl rfl rfl ?_
                  have K1059 : Keep h1047 h1051 [] := ((Keep.refl h1047 []).trans K1052 all0)
                  have S1060 := (f1049.keep K1059)
                  refine go_old (fun O1061 => ?_)
                  refine callSW0 rfl (cells' := 15) (slots' := 187) (Wd := 1) (argsL := [(.ref a1027)]) (rest := [(.ref (s_TRANSPARENT Z))]) (payW_of (a0 := a0) (c_expd l G a1027 [] h1051 O1061 S1060) (wk G 64 rfl) (wk G 3 rfl) (by decide) (by decide) (ew1 G)) (wk G 62 rfl) (wk G 63 rfl) (wk G 3 rfl) (wk G 64 rfl) (by decide) pd12 rfl rfl (by rw [hml]; rfl) (Nat.le_of_ble_eq_true rfl) rfl rfl (by decide) (by decide) all0 (hb hby at_237) (k_v (pc' := 240) rfl ?_)
                  rintro _ h1062 (⟨rfl, f1064⟩ | ⟨rfl, f1065⟩ | ⟨rfl, f1066⟩ | ⟨rfl, f1067, f1068, f1069⟩) K1063
                  · refine go_acF (pc' := 243) (hb hby at_240) rfl rfl rfl (XT.aa_ne_f rfl) ?_
                    refine go_iconst (pc' := 244) (v := 1) (hb hby at_243) rfl rfl ?_
                    refine go_goto (pc' := 248) (hb hby at_244) (by decide) rfl ?_
                    have K1070 : Keep h0 h1026 [] := (K1041.ext X1029)
                    have K1071 : Keep h0 h1033 [] := (K1070.ext X1036)
                    have K1072 : Keep h0 h1047 [] := (K1071.trans K1048 (allS (Or.inr (Nat.le_trans K1041.1 (Nat.le_of_eq g1028))) all0))
                    have K1073 : Keep h0 h1051 [] := (K1072.trans K1052 all0)
                    have K1074 : Keep h0 h1062 [] := (K1073.trans K1063 all0)
                    refine go_ireturn hret hlk rfl (by simp) (hb hby at_248) (by decide) (by decide) ⟨_, rfl, rfl⟩ K1074
                  · exact absurd (f1053.trans f1065) (by decide)
                  · exact absurd (f1053.trans f1066) (by decide)
                  · exact absurd f1053.symm f1067
                · refine go_aload (pc' := 237) (hb hby at_235) rfl rfl rfl ?_
                  have K1075 : Keep h1047 h1051 [] := ((Keep.refl h1047 []).trans K1052 all0)
                  have S1076 := (f1049.keep K1075)
                  refine go_old (fun O1077 => ?_)
                  refine callSW0 rfl (cells' := 15) (slots' := 187) (Wd := 1) (argsL := [(.ref a1027)]) (rest := [(.ref (s_TRANSLUCENT Z))]) (payW_of (a0 := a0) (c_expd l G a1027 [] h1051 O1077 S1076) (wk G 64 rfl) (wk G 3 rfl) (by decide) (by decide) (ew1 G)) (wk G 62 rfl) (wk G 63 rfl) (wk G 3 rfl) (wk G 64 rfl) (by decide) pd12 rfl rfl (by rw [hml]; rfl) (Nat.le_of_ble_eq_true rfl) rfl rfl (by decide) (by decide) all0 (hb hby at_237) (k_v (pc' := 240) rfl ?_)
                  rintro _ h1078 (⟨rfl, f1080⟩ | ⟨rfl, f1081⟩ | ⟨rfl, f1082⟩ | ⟨rfl, f1083, f1084, f1085⟩) K1079
                  · exact absurd (f1054.trans f1080) (by decide)
                  · refine go_acF (pc' := 243) (hb hby at_240) rfl rfl rfl (XT.aa_ne_f rfl) ?_
                    refine go_iconst (pc' := 244) (v := 1) (hb hby at_243) rfl rfl ?_
                    refine go_goto (pc' := 248) (hb hby at_244) (by decide) rfl ?_
                    have K1086 : Keep h0 h1026 [] := (K1041.ext X1029)
                    have K1087 : Keep h0 h1033 [] := (K1086.ext X1036)
                    have K1088 : Keep h0 h1047 [] := (K1087.trans K1048 (allS (Or.inr (Nat.le_trans K1041.1 (Nat.le_of_eq g1028))) all0))
                    have K1089 : Keep h0 h1051 [] := (K1088.trans K1052 all0)
                    have K1090 : Keep h0 h1078 [] := (K1089.trans K1079 all0)
                    refine go_ireturn hret hlk rfl (by simp) (hb hby at_248) (by decide) (by decide) ⟨_, rfl, rfl⟩ K1090
                  · exact absurd (f1054.trans f1082) (by decide)
                  · exact absurd f1054.symm f1084
                · refine go_aload (pc' := 237) (hb hby at_235) rfl rfl rfl ?_
                  have K1091 : Keep h1047 h1051 [] := ((Keep.refl h1047 []).trans K1052 all0)
                  have S1092 := (f1049.keep K1091)
                  refine go_old (fun O1093 => ?_)
                  refine callSW0 rfl (cells' := 15) (slots' := 187) (Wd := 1) (argsL := [(.ref a1027)]) (rest := [(.ref (s_OPAQUE Z))]) (payW_of (a0 := a0) (c_expd l G a1027 [] h1051 O1093 S1092) (wk G 64 rfl) (wk G 3 rfl) (by decide) (by decide) (ew1 G)) (wk G 62 rfl) (wk G 63 rfl) (wk G 3 rfl) (wk G 64 rfl) (by decide) pd12 rfl rfl (by rw [hml]; rfl) (Nat.le_of_ble_eq_true rfl) rfl rfl (by decide) (by decide) all0 (hb hby at_237) (k_v (pc' := 240) rfl ?_)
                  rintro _ h1094 (⟨rfl, f1096⟩ | ⟨rfl, f1097⟩ | ⟨rfl, f1098⟩ | ⟨rfl, f1099, f1100, f1101⟩) K1095
                  · exact absurd (f1055.trans f1096) (by decide)
                  · exact absurd (f1055.trans f1097) (by decide)
                  · refine go_acF (pc' := 243) (hb hby at_240) rfl rfl rfl (XT.aa_ne_f rfl) ?_
                    refine go_iconst (pc' := 244) (v := 1) (hb hby at_243) rfl rfl ?_
                    refine go_goto (pc' := 248) (hb hby at_244) (by decide) rfl ?_
                    have K1102 : Keep h0 h1026 [] := (K1041.ext X1029)
                    have K1103 : Keep h0 h1033 [] := (K1102.ext X1036)
                    have K1104 : Keep h0 h1047 [] := (K1103.trans K1048 (allS (Or.inr (Nat.le_trans K1041.1 (Nat.le_of_eq g1028))) all0))
                    have K1105 : Keep h0 h1051 [] := (K1104.trans K1052 all0)
                    have K1106 : Keep h0 h1094 [] := (K1105.trans K1095 all0)
                    refine go_ireturn hret hlk rfl (by simp) (hb hby at_248) (by decide) (by decide) ⟨_, rfl, rfl⟩ K1106
                  · exact absurd f1055.symm f1101
                · refine go_aload (pc' := 237) (hb hby at_235) rfl rfl rfl ?_
                  have K1107 : Keep h1047 h1051 [] := ((Keep.refl h1047 []).trans K1052 all0)
                  have S1108 := (f1049.keep K1107)
                  refine go_old (fun O1109 => ?_)
                  refine callSW0 rfl (cells' := 15) (slots' := 187) (Wd := 1) (argsL := [(.ref a1027)]) (rest := [.null]) (payW_of (a0 := a0) (c_expd l G a1027 [] h1051 O1109 S1108) (wk G 64 rfl) (wk G 3 rfl) (by decide) (by decide) (ew1 G)) (wk G 62 rfl) (wk G 63 rfl) (wk G 3 rfl) (wk G 64 rfl) (by decide) pd12 rfl rfl (by rw [hml]; rfl) (Nat.le_of_ble_eq_true rfl) rfl rfl (by decide) (by decide) all0 (hb hby at_237) (k_v (pc' := 240) rfl ?_)
                  rintro _ h1110 (⟨rfl, f1112⟩ | ⟨rfl, f1113⟩ | ⟨rfl, f1114⟩ | ⟨rfl, f1115, f1116, f1117⟩) K1111
                  · exact absurd f1112.symm f1056
                  · exact absurd f1113.symm f1057
                  · exact absurd f1114.symm f1058
                  · refine go_acF (pc' := 243) (hb hby at_240) rfl rfl rfl (XT.aa_ne_f rfl) ?_
                    refine go_iconst (pc' := 244) (v := 1) (hb hby at_243) rfl rfl ?_
                    refine go_goto (pc' := 248) (hb hby at_244) (by decide) rfl ?_
                    have K1118 : Keep h0 h1026 [] := (K1041.ext X1029)
                    have K1119 : Keep h0 h1033 [] := (K1118.ext X1036)
                    have K1120 : Keep h0 h1047 [] := (K1119.trans K1048 (allS (Or.inr (Nat.le_trans K1041.1 (Nat.le_of_eq g1028))) all0))
                    have K1121 : Keep h0 h1051 [] := (K1120.trans K1052 all0)
                    have K1122 : Keep h0 h1110 [] := (K1121.trans K1111 all0)
                    refine go_ireturn hret hlk rfl (by simp) (hb hby at_248) (by decide) (by decide) ⟨_, rfl, rfl⟩ K1122
              · refine go_icT (pc' := 156) (hb hby at_138) (by decide) rfl (XT.ii_ne_t cz1025) ?_
                refine go_iload (pc' := 158) (hb hby at_156) rfl rfl ?_
                refine go_bipush (pc' := 160) (v := 6) (hb hby at_158) rfl rfl ?_
                by_cases cz1123 : (x0 &&& (7 : Int32)) = (6 : Int32)
                · refine go_icF (pc' := 163) (hb hby at_160) rfl (XT.ii_ne_f cz1123) ?_
                  refine go_aconst_null (pc' := 164) (hb hby at_163) rfl ?_
                  refine go_astore (pc' := 166) (ls' := #[.val (.int x0), .val (.int x1), .val (.int x2), .val (.long x3), .second, .val (.int (x0 &&& (7 : Int32))), .val (.ref r5), .val (.int (11 : Int32)), .val (.int ((x3 &&& (255 : Int64)).toInt32)), .val .null]) (hb hby at_164) rfl rfl rfl ?_
                  refine go_goto (pc' := 230) (hb hby at_166) (by decide) rfl ?_
                  refine go_aload (pc' := 232) (hb hby at_230) rfl rfl rfl ?_
                  refine callS0 (cells' := 3) (slots' := 51) (Wd := 0) (argsL := [.null]) (rest := []) (pay_of (a0 := a0) (c_ofnull l G  h1 O656 ) (wk G 30 rfl) (wk G 29 rfl) (by decide) (by decide)) (wk G 27 rfl) (wk G 28 rfl) (wk G 29 rfl) (wk G 30 rfl) (by decide) pd12 rfl rfl (by rw [hml]; rfl) (Nat.le_of_ble_eq_true rfl) rfl rfl (by decide) (by decide) all0 (fun _ _ => sf0) (hb hby at_232) (k_v (pc' := 235) rfl ?_)
                  rintro _ h1124 rfl K1125
                  refine go_aload (pc' := 237) (hb hby at_235) rfl rfl rfl ?_
                  refine go_old (fun O1126 => ?_)
                  refine callSW0 rfl (cells' := 3) (slots' := 51) (Wd := 1) (argsL := [.null]) (rest := [.null]) (payW_of (a0 := a0) (c_expdN l G  h1124 O1126 ) (wk G 64 rfl) (wk G 3 rfl) (by decide) (by decide) (ew1 G)) (wk G 62 rfl) (wk G 63 rfl) (wk G 3 rfl) (wk G 64 rfl) (by decide) pd12 rfl rfl (by rw [hml]; rfl) (Nat.le_of_ble_eq_true rfl) rfl rfl (by decide) (by decide) all0 (hb hby at_237) (k_v (pc' := 240) rfl ?_)
                  rintro _ h1127 ⟨rfl, rfl⟩ K1128
                  refine go_acF (pc' := 243) (hb hby at_240) rfl rfl rfl (XT.aa_ne_f rfl) ?_
                  refine go_iconst (pc' := 244) (v := 1) (hb hby at_243) rfl rfl ?_
                  refine go_goto (pc' := 248) (hb hby at_244) (by decide) rfl ?_
                  have K1129 : Keep h0 h1 [] := ((Keep.refl h0 []).trans K2 all0)
                  have K1130 : Keep h0 h1124 [] := (K1129.trans K1125 all0)
                  refine go_ireturn hret hlk rfl (by simp) (hb hby at_248) (by decide) (by decide) ⟨_, rfl, rfl⟩ K1130
                · refine go_icT (pc' := 169) (hb hby at_160) (by decide) rfl (XT.ii_ne_t cz1123) ?_
                  refine go_newO (pc' := 172) (cells' := 3) (slots' := 52) (wk G 111 rfl) (wk G 7 rfl) (wk G 6 rfl) (hb hby at_169) rfl rfl rfl (by decide) (by decide) (fun h1131 a1132 g1133 X1134 E1135 D1136 U1137 => ?_)
                  refine go_dup (pc' := 173) (hb hby at_172) rfl rfl ?_
                  refine go_bipush (pc' := 175) (v := 6) (hb hby at_173) rfl rfl ?_
                  refine go_newP (pc' := 177) (cells' := 4) (slots' := 58) (cap := 6) (vs := [(.int (0 : Int32)), (.int (0 : Int32)), (.int (0 : Int32)), (.int (0 : Int32)), (.int (0 : Int32)), (.int (0 : Int32))]) (ty := .char) (dv := .int 0) (wk G 112 rfl) rfl rfl (hb hby at_175) rfl (by decide) rfl (by decide) rfl rfl rfl (by decide) (by decide) (fun h1138 a1139 k1143 g1140 X1141 A1142 => ?_)
                  refine go_dup (pc' := 178) (hb hby at_177) rfl rfl ?_
                  refine go_iconst (pc' := 179) (v := 0) (hb hby at_178) rfl rfl ?_
                  refine go_lload_n (pc' := 180) (hb hby at_179) rfl rfl ?_
                  refine go_iconst (pc' := 181) (v := 0) (hb hby at_180) rfl rfl ?_
                  refine go_old (fun O1144 => ?_)
                  refine callS0 (cells' := 4) (slots' := 58) (Wd := 5) (argsL := [(.long x3), (.int (0 : Int32))]) (rest := [(.int (0 : Int32)), (.ref a1139), (.ref a1139), (.ref a1132), (.ref a1132)]) (pay_of (a0 := a0) (c_byteat0 l G x3 h1138 O1144 ) (wk G 131 rfl) (wk G 3 rfl) (by decide) (by decide)) (wk G 129 rfl) (wk G 130 rfl) (wk G 3 rfl) (wk G 131 rfl) (by decide) pd15 rfl rfl (by rw [hml]; rfl) (Nat.le_of_ble_eq_true rfl) rfl rfl (by decide) (by decide) all0 (fun _ _ => sf0) (hb hby at_181) (k_v (pc' := 184) rfl ?_)
                  rintro _ h1145 ⟨r1147, rfl, rfl, f1148⟩ K1146
                  have K1152 : Keep h0 h1 [] := ((Keep.refl h0 []).trans K2 all0)
                  have K1153 : Keep h0 h1131 [] := (K1152.ext X1134)
                  refine go_stC (pc' := 185) (i := 0) (x' := r1147) (vs' := [(.int r1147), (.int (0 : Int32)), (.int (0 : Int32)), (.int (0 : Int32)), (.int (0 : Int32)), (.int (0 : Int32))]) A1142 (Nat.le_trans O0.2.1 (Nat.le_trans K1153.1 (Nat.le_of_eq g1140))) (by decide) (by decide) rfl (Nat.le_of_ble_eq_true rfl) (i2c_c8 f1148) rfl (hb hby at_184) rfl (fun h1149 W1150 A1151 => ?_)
                  refine go_dup (pc' := 186) (hb hby at_185) rfl rfl ?_
                  refine go_iconst (pc' := 187) (v := 1) (hb hby at_186) rfl rfl ?_
                  refine go_lload_n (pc' := 188) (hb hby at_187) rfl rfl ?_
                  refine go_iconst (pc' := 189) (v := 1) (hb hby at_188) rfl rfl ?_
                  refine go_old (fun O1154 => ?_)
                  refine callS0 (cells' := 4) (slots' := 58) (Wd := 5) (argsL := [(.long x3), (.int (1 : Int32))]) (rest := [(.int (1 : Int32)), (.ref a1139), (.ref a1139), (.ref a1132), (.ref a1132)]) (pay_of (a0 := a0) (c_byteat1 l G x3 h1149 O1154 ) (wk G 131 rfl) (wk G 3 rfl) (by decide) (by decide)) (wk G 129 rfl) (wk G 130 rfl) (wk G 3 rfl) (wk G 131 rfl) (by decide) pd15 rfl rfl (by rw [hml]; rfl) (Nat.le_of_ble_eq_true rfl) rfl rfl (by decide) (by decide) all0 (fun _ _ => sf0) (hb hby at_189) (k_v (pc' := 192) rfl ?_)
                  rintro _ h1155 ⟨r1157, rfl, rfl, f1158⟩ K1156
                  refine go_stC (pc' := 193) (i := 1) (x' := r1157) (vs' := [(.int r1147), (.int r1157), (.int (0 : Int32)), (.int (0 : Int32)), (.int (0 : Int32)), (.int (0 : Int32))]) A1151 (Nat.le_trans O0.2.1 (Nat.le_trans K1153.1 (Nat.le_of_eq g1140))) (by decide) (by decide) rfl (Nat.le_of_ble_eq_true rfl) (i2c_c8 f1158) rfl (hb hby at_192) rfl (fun h1159 W1160 A1161 => ?_)
                  refine go_dup (pc' := 194) (hb hby at_193) rfl rfl ?_
                  refine go_iconst (pc' := 195) (v := 2) (hb hby at_194) rfl rfl ?_
                  refine go_lload_n (pc' := 196) (hb hby at_195) rfl rfl ?_
                  refine go_iconst (pc' := 197) (v := 2) (hb hby at_196) rfl rfl ?_
                  refine go_old (fun O1162 => ?_)
                  refine callS0 (cells' := 4) (slots' := 58) (Wd := 5) (argsL := [(.long x3), (.int (2 : Int32))]) (rest := [(.int (2 : Int32)), (.ref a1139), (.ref a1139), (.ref a1132), (.ref a1132)]) (pay_of (a0 := a0) (c_byteat2 l G x3 h1159 O1162 ) (wk G 131 rfl) (wk G 3 rfl) (by decide) (by decide)) (wk G 129 rfl) (wk G 130 rfl) (wk G 3 rfl) (wk G 131 rfl) (by decide) pd15 rfl rfl (by rw [hml]; rfl) (Nat.le_of_ble_eq_true rfl) rfl rfl (by decide) (by decide) all0 (fun _ _ => sf0) (hb hby at_197) (k_v (pc' := 200) rfl ?_)
                  rintro _ h1163 ⟨r1165, rfl, rfl, f1166⟩ K1164
                  refine go_stC (pc' := 201) (i := 2) (x' := r1165) (vs' := [(.int r1147), (.int r1157), (.int r1165), (.int (0 : Int32)), (.int (0 : Int32)), (.int (0 : Int32))]) A1161 (Nat.le_trans O0.2.1 (Nat.le_trans K1153.1 (Nat.le_of_eq g1140))) (by decide) (by decide) rfl (Nat.le_of_ble_eq_true rfl) (i2c_c8 f1166) rfl (hb hby at_200) rfl (fun h1167 W1168 A1169 => ?_)
                  refine go_dup (pc' := 202) (hb hby at_201) rfl rfl ?_
                  refine go_iconst (pc' := 203) (v := 3) (hb hby at_202) rfl rfl ?_
                  refine go_lload_n (pc' := 204) (hb hby at_203) rfl rfl ?_
                  refine go_iconst (pc' := 205) (v := 3) (hb hby at_204) rfl rfl ?_
                  refine go_old (fun O1170 => ?_)
                  refine callS0 (cells' := 4) (slots' := 58) (Wd := 5) (argsL := [(.long x3), (.int (3 : Int32))]) (rest := [(.int (3 : Int32)), (.ref a1139), (.ref a1139), (.ref a1132), (.ref a1132)]) (pay_of (a0 := a0) (c_byteat3 l G x3 h1167 O1170 ) (wk G 131 rfl) (wk G 3 rfl) (by decide) (by decide)) (wk G 129 rfl) (wk G 130 rfl) (wk G 3 rfl) (wk G 131 rfl) (by decide) pd15 rfl rfl (by rw [hml]; rfl) (Nat.le_of_ble_eq_true rfl) rfl rfl (by decide) (by decide) all0 (fun _ _ => sf0) (hb hby at_205) (k_v (pc' := 208) rfl ?_)
                  rintro _ h1171 ⟨r1173, rfl, rfl, f1174⟩ K1172
                  refine go_stC (pc' := 209) (i := 3) (x' := r1173) (vs' := [(.int r1147), (.int r1157), (.int r1165), (.int r1173), (.int (0 : Int32)), (.int (0 : Int32))]) A1169 (Nat.le_trans O0.2.1 (Nat.le_trans K1153.1 (Nat.le_of_eq g1140))) (by decide) (by decide) rfl (Nat.le_of_ble_eq_true rfl) (i2c_c8 f1174) rfl (hb hby at_208) rfl (fun h1175 W1176 A1177 => ?_)
                  refine go_dup (pc' := 210) (hb hby at_209) rfl rfl ?_
                  refine go_iconst (pc' := 211) (v := 4) (hb hby at_210) rfl rfl ?_
                  refine go_lload_n (pc' := 212) (hb hby at_211) rfl rfl ?_
                  refine go_iconst (pc' := 213) (v := 4) (hb hby at_212) rfl rfl ?_
                  refine go_old (fun O1178 => ?_)
                  refine callS0 (cells' := 4) (slots' := 58) (Wd := 5) (argsL := [(.long x3), (.int (4 : Int32))]) (rest := [(.int (4 : Int32)), (.ref a1139), (.ref a1139), (.ref a1132), (.ref a1132)]) (pay_of (a0 := a0) (c_byteat4 l G x3 h1175 O1178 ) (wk G 131 rfl) (wk G 3 rfl) (by decide) (by decide)) (wk G 129 rfl) (wk G 130 rfl) (wk G 3 rfl) (wk G 131 rfl) (by decide) pd15 rfl rfl (by rw [hml]; rfl) (Nat.le_of_ble_eq_true rfl) rfl rfl (by decide) (by decide) all0 (fun _ _ => sf0) (hb hby at_213) (k_v (pc' := 216) rfl ?_)
                  rintro _ h1179 ⟨r1181, rfl, rfl, f1182⟩ K1180
                  refine go_stC (pc' := 217) (i := 4) (x' := r1181) (vs' := [(.int r1147), (.int r1157), (.int r1165), (.int r1173), (.int r1181), (.int (0 : Int32))]) A1177 (Nat.le_trans O0.2.1 (Nat.le_trans K1153.1 (Nat.le_of_eq g1140))) (by decide) (by decide) rfl (Nat.le_of_ble_eq_true rfl) (i2c_c8 f1182) rfl (hb hby at_216) rfl (fun h1183 W1184 A1185 => ?_)
                  refine go_dup (pc' := 218) (hb hby at_217) rfl rfl ?_
                  refine go_iconst (pc' := 219) (v := 5) (hb hby at_218) rfl rfl ?_
                  refine go_lload_n (pc' := 220) (hb hby at_219) rfl rfl ?_
                  refine go_iconst (pc' := 221) (v := 5) (hb hby at_220) rfl rfl ?_
                  refine go_old (fun O1186 => ?_)
                  refine callS0 (cells' := 4) (slots' := 58) (Wd := 5) (argsL := [(.long x3), (.int (5 : Int32))]) (rest := [(.int (5 : Int32)), (.ref a1139), (.ref a1139), (.ref a1132), (.ref a1132)]) (pay_of (a0 := a0) (c_byteat5 l G x3 h1183 O1186 ) (wk G 131 rfl) (wk G 3 rfl) (by decide) (by decide)) (wk G 129 rfl) (wk G 130 rfl) (wk G 3 rfl) (wk G 131 rfl) (by decide) pd15 rfl rfl (by rw [hml]; rfl) (Nat.le_of_ble_eq_true rfl) rfl rfl (by decide) (by decide) all0 (fun _ _ => sf0) (hb hby at_221) (k_v (pc' := 224) rfl ?_)
                  rintro _ h1187 ⟨r1189, rfl, rfl, f1190⟩ K1188
                  refine go_stC (pc' := 225) (i := 5) (x' := r1189) (vs' := [(.int r1147), (.int r1157), (.int r1165), (.int r1173), (.int r1181), (.int r1189)]) A1185 (Nat.le_trans O0.2.1 (Nat.le_trans K1153.1 (Nat.le_of_eq g1140))) (by decide) (by decide) rfl (Nat.le_of_ble_eq_true rfl) (i2c_c8 f1190) rfl (hb hby at_224) rfl (fun h1191 W1192 A1193 => ?_)
                  have K1194 : Keep h1131 h1138 [] := ((Keep.refl h1131 []).ext X1141)
                  have K1195 : Keep h1131 h1149 [] := (K1194.wr W1150 (Or.inr (Nat.le_of_eq g1140)))
                  have K1196 : Keep h1131 h1159 [] := (K1195.wr W1160 (Or.inr (Nat.le_of_eq g1140)))
                  have K1197 : Keep h1131 h1167 [] := (K1196.wr W1168 (Or.inr (Nat.le_of_eq g1140)))
                  have K1198 : Keep h1131 h1175 [] := (K1197.wr W1176 (Or.inr (Nat.le_of_eq g1140)))
                  have K1199 : Keep h1131 h1183 [] := (K1198.wr W1184 (Or.inr (Nat.le_of_eq g1140)))
                  have K1200 : Keep h1131 h1191 [] := (K1199.wr W1192 (Or.inr (Nat.le_of_eq g1140)))
                  have E1201 := (E1135.keep K1200)
                  have F1202 := D1136 (Or.inr (wk G 9 rfl)) (ty := (.array .byte)) (by decide)
                  have F1203 := (F1202.keep K1200 nin0)
                  have F1204 := D1136 (Or.inr (wk G 10 rfl)) (ty := .byte) (by decide)
                  have F1205 := (F1204.keep K1200 nin0)
                  refine go_old (fun O1206 => ?_)
                  refine callI0 (cells' := 5) (slots' := 64) (Wd := 1) (argsL := [(.ref a1139)]) (rest := [(.ref a1132)]) (pay_new G O1206 (cs := [r1147, r1157, r1165, r1173, r1181, r1189]) (n := 6) (Nat.le_trans O0.2.1 (Nat.le_trans K1152.1 (Nat.le_of_eq g1133))) E1201 F1203 F1205 A1193 rfl rfl (by decide) (by decide) (c8c f1148 (c8c f1158 (c8c f1166 (c8c f1174 (c8c f1182 (c8c f1190 c8n)))))) (by decide) (by decide)) rfl (wk G 113 rfl) (wk G 114 rfl) (wk G 115 rfl) (by decide) pd10 rfl rfl (by rw [hml]; rfl) (Nat.le_of_ble_eq_true rfl) rfl rfl (by decide) (by decide) (allS (Nat.le_trans O0.2.1 (Nat.le_trans K1152.1 (Nat.le_of_eq g1133))) all0) (fun _ hal => (sfS (safe_null hal E1201 F1203) sf0)) (hb hby at_225) (k_n (pc' := 228) rfl ?_)
                  rintro h1207 S1209 K1208
                  refine go_astore (pc' := 230) (ls' := #[.val (.int x0), .val (.int x1), .val (.int x2), .val (.long x3), .second, .val (.int (x0 &&& (7 : Int32))), .val (.ref r5), .val (.int (11 : Int32)), .val (.int ((x3 &&& (255 : Int64)).toInt32)), .val (.ref a1132)]) (hb hby at_228) rfl rfl rfl ?_
                  refine go_aload (pc' := 232) (hb hby at_230) rfl rfl rfl ?_
                  refine go_old (fun O1210 => ?_)
                  refine callS0 (cells' := 6) (slots' := 67) (Wd := 0) (argsL := [(.ref a1132)]) (rest := []) (pay_of (a0 := a0) (c_of l G a1132 [r1147, r1157, r1165, r1173, r1181, r1189] h1207 O1210 S1209) (wk G 30 rfl) (wk G 29 rfl) (by decide) (by decide)) (wk G 27 rfl) (wk G 28 rfl) (wk G 29 rfl) (wk G 30 rfl) (by decide) pd12 rfl rfl (by rw [hml]; rfl) (Nat.le_of_ble_eq_true rfl) rfl rfl (by decide) (by decide) all0 (fun _ _ => sf0) (hb hby at_232) (k_v (pc' := 235) rfl ?_)
                  rintro _ h1211 (⟨rfl, f1213⟩ | ⟨rfl, f1214⟩ | ⟨rfl, f1215⟩ | ⟨rfl, f1216, f1217, f1218⟩) K1212
                  · refine go_aload (pc' := 237) (hb hby at_235) rfl rfl rfl ?_
                    have K1219 : Keep h1207 h1211 [] := ((Keep.refl h1207 []).trans K1212 all0)
                    have S1220 := (S1209.keep K1219)
                    refine go_old (fun O1221 => ?_)
                    refine callSW0 rfl (cells' := 12) (slots' := 191) (Wd := 1) (argsL := [(.ref a1132)]) (rest := [(.ref (s_TRANSPARENT Z))]) (payW_of (a0 := a0) (c_expd l G a1132 [r1147, r1157, r1165, r1173, r1181, r1189] h1211 O1221 S1220) (wk G 64 rfl) (wk G 3 rfl) (by decide) (by decide) (ew1 G)) (wk G 62 rfl) (wk G 63 rfl) (wk G 3 rfl) (wk G 64 rfl) (by decide) pd12 rfl rfl (by rw [hml]; rfl) (Nat.le_of_ble_eq_true rfl) rfl rfl (by decide) (by decide) all0 (hb hby at_237) (k_v (pc' := 240) rfl ?_)
                    rintro _ h1222 (⟨rfl, f1224⟩ | ⟨rfl, f1225⟩ | ⟨rfl, f1226⟩ | ⟨rfl, f1227, f1228, f1229⟩) K1223
                    · refine go_acF (pc' := 243) (hb hby at_240) rfl rfl rfl (XT.aa_ne_f rfl) ?_
                      refine go_iconst (pc' := 244) (v := 1) (hb hby at_243) rfl rfl ?_
                      refine go_goto (pc' := 248) (hb hby at_244) (by decide) rfl ?_
                      have K1230 : Keep h0 h1138 [] := (K1153.ext X1141)
                      have K1231 : Keep h0 h1149 [] := (K1230.wr W1150 (Or.inr (Nat.le_trans K1153.1 (Nat.le_of_eq g1140))))
                      have K1232 : Keep h0 h1159 [] := (K1231.wr W1160 (Or.inr (Nat.le_trans K1153.1 (Nat.le_of_eq g1140))))
                      have K1233 : Keep h0 h1167 [] := (K1232.wr W1168 (Or.inr (Nat.le_trans K1153.1 (Nat.le_of_eq g1140))))
                      have K1234 : Keep h0 h1175 [] := (K1233.wr W1176 (Or.inr (Nat.le_trans K1153.1 (Nat.le_of_eq g1140))))
                      have K1235 : Keep h0 h1183 [] := (K1234.wr W1184 (Or.inr (Nat.le_trans K1153.1 (Nat.le_of_eq g1140))))
                      have K1236 : Keep h0 h1191 [] := (K1235.wr W1192 (Or.inr (Nat.le_trans K1153.1 (Nat.le_of_eq g1140))))
                      have K1237 : Keep h0 h1207 [] := (K1236.trans K1208 (allS (Or.inr (Nat.le_trans K1152.1 (Nat.le_of_eq g1133))) all0))
                      have K1238 : Keep h0 h1211 [] := (K1237.trans K1212 all0)
                      have K1239 : Keep h0 h1222 [] := (K1238.trans K1223 all0)
                      refine go_ireturn hret hlk rfl (by simp) (hb hby at_248) (by decide) (by decide) ⟨_, rfl, rfl⟩ K1239
                    · exact absurd (f1213.trans f1225) (by decide)
                    · exact absurd (f1213.trans f1226) (by decide)
                    · exact absurd f1213.symm f1227
                  · refine go_aload (pc' := 237) (hb hby at_235) rfl rfl rfl ?_
                    have K1240 : Keep h1207 h1211 [] := ((Keep.refl h1207 []).trans K1212 all0)
                    have S1241 := (S1209.keep K1240)
                    refine go_old (fun O1242 => ?_)
                    refine callSW0 rfl (cells' := 12) (slots' := 191) (Wd := 1) (argsL := [(.ref a1132)]) (rest := [(.ref (s_TRANSLUCENT Z))]) (payW_of (a0 := a0) (c_expd l G a1132 [r1147, r1157, r1165, r1173, r1181, r1189] h1211 O1242 S1241) (wk G 64 rfl) (wk G 3 rfl) (by decide) (by decide) (ew1 G)) (wk G 62 rfl) (wk G 63 rfl) (wk G 3 rfl) (wk G 64 rfl) (by decide) pd12 rfl rfl (by rw [hml]; rfl) (Nat.le_of_ble_eq_true rfl) rfl rfl (by decide) (by decide) all0 (hb hby at_237) (k_v (pc' := 240) rfl ?_)
                    rintro _ h1243 (⟨rfl, f1245⟩ | ⟨rfl, f1246⟩ | ⟨rfl, f1247⟩ | ⟨rfl, f1248, f1249, f1250⟩) K1244
                    · exact absurd (f1214.trans f1245) (by decide)
                    · refine go_acF (pc' := 243) (hb hby at_240) rfl rfl rfl (XT.aa_ne_f rfl) ?_
                      refine go_iconst (pc' := 244) (v := 1) (hb hby at_243) rfl rfl ?_
                      refine go_goto (pc' := 248) (hb hby at_244) (by decide) rfl ?_
                      have K1251 : Keep h0 h1138 [] := (K1153.ext X1141)
                      have K1252 : Keep h0 h1149 [] := (K1251.wr W1150 (Or.inr (Nat.le_trans K1153.1 (Nat.le_of_eq g1140))))
                      have K1253 : Keep h0 h1159 [] := (K1252.wr W1160 (Or.inr (Nat.le_trans K1153.1 (Nat.le_of_eq g1140))))
                      have K1254 : Keep h0 h1167 [] := (K1253.wr W1168 (Or.inr (Nat.le_trans K1153.1 (Nat.le_of_eq g1140))))
                      have K1255 : Keep h0 h1175 [] := (K1254.wr W1176 (Or.inr (Nat.le_trans K1153.1 (Nat.le_of_eq g1140))))
                      have K1256 : Keep h0 h1183 [] := (K1255.wr W1184 (Or.inr (Nat.le_trans K1153.1 (Nat.le_of_eq g1140))))
                      have K1257 : Keep h0 h1191 [] := (K1256.wr W1192 (Or.inr (Nat.le_trans K1153.1 (Nat.le_of_eq g1140))))
                      have K1258 : Keep h0 h1207 [] := (K1257.trans K1208 (allS (Or.inr (Nat.le_trans K1152.1 (Nat.le_of_eq g1133))) all0))
                      have K1259 : Keep h0 h1211 [] := (K1258.trans K1212 all0)
                      have K1260 : Keep h0 h1243 [] := (K1259.trans K1244 all0)
                      refine go_ireturn hret hlk rfl (by simp) (hb hby at_248) (by decide) (by decide) ⟨_, rfl, rfl⟩ K1260
                    · exact absurd (f1214.trans f1247) (by decide)
                    · exact absurd f1214.symm f1249
                  · refine go_aload (pc' := 237) (hb hby at_235) rfl rfl rfl ?_
                    have K1261 : Keep h1207 h1211 [] := ((Keep.refl h1207 []).trans K1212 all0)
                    have S1262 := (S1209.keep K1261)
                    refine go_old (fun O1263 => ?_)
                    refine callSW0 rfl (cells' := 12) (slots' := 191) (Wd := 1) (argsL := [(.ref a1132)]) (rest := [(.ref (s_OPAQUE Z))]) (payW_of (a0 := a0) (c_expd l G a1132 [r1147, r1157, r1165, r1173, r1181, r1189] h1211 O1263 S1262) (wk G 64 rfl) (wk G 3 rfl) (by decide) (by decide) (ew1 G)) (wk G 62 rfl) (wk G 63 rfl) (wk G 3 rfl) (wk G 64 rfl) (by decide) pd12 rfl rfl (by rw [hml]; rfl) (Nat.le_of_ble_eq_true rfl) rfl rfl (by decide) (by decide) all0 (hb hby at_237) (k_v (pc' := 240) rfl ?_)
                    rintro _ h1264 (⟨rfl, f1266⟩ | ⟨rfl, f1267⟩ | ⟨rfl, f1268⟩ | ⟨rfl, f1269, f1270, f1271⟩) K1265
                    · exact absurd (f1215.trans f1266) (by decide)
                    · exact absurd (f1215.trans f1267) (by decide)
                    · refine go_acF (pc' := 243) (hb hby at_240) rfl rfl rfl (XT.aa_ne_f rfl) ?_
                      refine go_iconst (pc' := 244) (v := 1) (hb hby at_243) rfl rfl ?_
                      refine go_goto (pc' := 248) (hb hby at_244) (by decide) rfl ?_
                      have K1272 : Keep h0 h1138 [] := (K1153.ext X1141)
                      have K1273 : Keep h0 h1149 [] := (K1272.wr W1150 (Or.inr (Nat.le_trans K1153.1 (Nat.le_of_eq g1140))))
                      have K1274 : Keep h0 h1159 [] := (K1273.wr W1160 (Or.inr (Nat.le_trans K1153.1 (Nat.le_of_eq g1140))))
                      have K1275 : Keep h0 h1167 [] := (K1274.wr W1168 (Or.inr (Nat.le_trans K1153.1 (Nat.le_of_eq g1140))))
                      have K1276 : Keep h0 h1175 [] := (K1275.wr W1176 (Or.inr (Nat.le_trans K1153.1 (Nat.le_of_eq g1140))))
                      have K1277 : Keep h0 h1183 [] := (K1276.wr W1184 (Or.inr (Nat.le_trans K1153.1 (Nat.le_of_eq g1140))))
                      have K1278 : Keep h0 h1191 [] := (K1277.wr W1192 (Or.inr (Nat.le_trans K1153.1 (Nat.le_of_eq g1140))))
                      have K1279 : Keep h0 h1207 [] := (K1278.trans K1208 (allS (Or.inr (Nat.le_trans K1152.1 (Nat.le_of_eq g1133))) all0))
                      have K1280 : Keep h0 h1211 [] := (K1279.trans K1212 all0)
                      have K1281 : Keep h0 h1264 [] := (K1280.trans K1265 all0)
                      refine go_ireturn hret hlk rfl (by simp) (hb hby at_248) (by decide) (by decide) ⟨_, rfl, rfl⟩ K1281
                    · exact absurd f1215.symm f1271
                  · refine go_aload (pc' := 237) (hb hby at_235) rfl rfl rfl ?_
                    have K1282 : Keep h1207 h1211 [] := ((Keep.refl h1207 []).trans K1212 all0)
                    have S1283 := (S1209.keep K1282)
                    refine go_old (fun O1284 => ?_)
                    refine callSW0 rfl (cells' := 12) (slots' := 191) (Wd := 1) (argsL := [(.ref a1132)]) (rest := [.null]) (payW_of (a0 := a0) (c_expd l G a1132 [r1147, r1157, r1165, r1173, r1181, r1189] h1211 O1284 S1283) (wk G 64 rfl) (wk G 3 rfl) (by decide) (by decide) (ew1 G)) (wk G 62 rfl) (wk G 63 rfl) (wk G 3 rfl) (wk G 64 rfl) (by decide) pd12 rfl rfl (by rw [hml]; rfl) (Nat.le_of_ble_eq_true rfl) rfl rfl (by decide) (by decide) all0 (hb hby at_237) (k_v (pc' := 240) rfl ?_)
                    rintro _ h1285 (⟨rfl, f1287⟩ | ⟨rfl, f1288⟩ | ⟨rfl, f1289⟩ | ⟨rfl, f1290, f1291, f1292⟩) K1286
                    · exact absurd f1287.symm f1216
                    · exact absurd f1288.symm f1217
                    · exact absurd f1289.symm f1218
                    · refine go_acF (pc' := 243) (hb hby at_240) rfl rfl rfl (XT.aa_ne_f rfl) ?_
                      refine go_iconst (pc' := 244) (v := 1) (hb hby at_243) rfl rfl ?_
                      refine go_goto (pc' := 248) (hb hby at_244) (by decide) rfl ?_
                      have K1293 : Keep h0 h1138 [] := (K1153.ext X1141)
                      have K1294 : Keep h0 h1149 [] := (K1293.wr W1150 (Or.inr (Nat.le_trans K1153.1 (Nat.le_of_eq g1140))))
                      have K1295 : Keep h0 h1159 [] := (K1294.wr W1160 (Or.inr (Nat.le_trans K1153.1 (Nat.le_of_eq g1140))))
                      have K1296 : Keep h0 h1167 [] := (K1295.wr W1168 (Or.inr (Nat.le_trans K1153.1 (Nat.le_of_eq g1140))))
                      have K1297 : Keep h0 h1175 [] := (K1296.wr W1176 (Or.inr (Nat.le_trans K1153.1 (Nat.le_of_eq g1140))))
                      have K1298 : Keep h0 h1183 [] := (K1297.wr W1184 (Or.inr (Nat.le_trans K1153.1 (Nat.le_of_eq g1140))))
                      have K1299 : Keep h0 h1191 [] := (K1298.wr W1192 (Or.inr (Nat.le_trans K1153.1 (Nat.le_of_eq g1140))))
                      have K1300 : Keep h0 h1207 [] := (K1299.trans K1208 (allS (Or.inr (Nat.le_trans K1152.1 (Nat.le_of_eq g1133))) all0))
                      have K1301 : Keep h0 h1211 [] := (K1300.trans K1212 all0)
                      have K1302 : Keep h0 h1285 [] := (K1301.trans K1286 all0)
                      refine go_ireturn hret hlk rfl (by simp) (hb hby at_248) (by decide) (by decide) ⟨_, rfl, rfl⟩ K1302
  · refine go_astore (pc' := 17) (ls' := #[.val (.int x0), .val (.int x1), .val (.int x2), .val (.long x3), .second, .val (.int (x0 &&& (7 : Int32))), .val (.ref r7), .unset, .unset, .unset]) (hb hby at_15) rfl rfl rfl ?_
    refine go_aload (pc' := 19) (hb hby at_17) rfl rfl rfl ?_
    refine go_old (fun O1303 => ?_)
    refine callV0 (cells' := 2) (slots' := 48) (Wd := 0) (argsL := []) (rest := []) (pay_len G O1303 (n := (6 : Int32)) f8 rfl (by decide) (by decide)) f8.exa (wk G 13 rfl) (wk G 14 rfl) (wk G 16 rfl) (wk G 16 rfl) (wk G 15 rfl) (by decide) pd7 rfl rfl (by rw [hml]; rfl) (Nat.le_of_ble_eq_true rfl) rfl rfl (by decide) (by decide) all0 (fun _ _ => sf0) (hb hby at_19) (k_v (pc' := 22) rfl ?_)
    rintro _ _ ⟨rfl, rfl⟩ -
    refine go_istore (pc' := 24) (ls' := #[.val (.int x0), .val (.int x1), .val (.int x2), .val (.long x3), .second, .val (.int (x0 &&& (7 : Int32))), .val (.ref r7), .val (.int (6 : Int32)), .unset, .unset]) (hb hby at_22) rfl rfl ?_
    refine go_lload_n (pc' := 25) (hb hby at_24) rfl rfl ?_
    refine go_ldcJ (pc' := 28) (v := (255 : Int64)) (wk G 26 rfl) (hb hby at_25) rfl ?_
    refine go_land (pc' := 29) (z := (x3 &&& (255 : Int64))) (hb hby at_28) rfl rfl ?_
    refine go_l2i (pc' := 30) (z := ((x3 &&& (255 : Int64)).toInt32)) (hb hby at_29) rfl rfl ?_
    refine go_i2c (pc' := 31) (z := ((x3 &&& (255 : Int64)).toInt32)) (hb hby at_30) rfl (i2c_c8 (c8_l _)) ?_
    refine go_istore (pc' := 33) (ls' := #[.val (.int x0), .val (.int x1), .val (.int x2), .val (.long x3), .second, .val (.int (x0 &&& (7 : Int32))), .val (.ref r7), .val (.int (6 : Int32)), .val (.int ((x3 &&& (255 : Int64)).toInt32)), .unset]) (hb hby at_31) rfl rfl ?_
    refine go_iload (pc' := 35) (hb hby at_33) rfl rfl ?_
    by_cases cz1304 : (x0 &&& (7 : Int32)) = (0 : Int32)
    · refine go_ifF (pc' := 38) (hb hby at_35) rfl (XT.i0_ne_f cz1304) ?_
      refine go_aload (pc' := 40) (hb hby at_38) rfl rfl rfl ?_
      refine go_astore (pc' := 42) (ls' := #[.val (.int x0), .val (.int x1), .val (.int x2), .val (.long x3), .second, .val (.int (x0 &&& (7 : Int32))), .val (.ref r7), .val (.int (6 : Int32)), .val (.int ((x3 &&& (255 : Int64)).toInt32)), .val (.ref r7)]) (hb hby at_40) rfl rfl rfl ?_
      refine go_goto (pc' := 230) (hb hby at_42) (by decide) rfl ?_
      refine go_aload (pc' := 232) (hb hby at_230) rfl rfl rfl ?_
      refine callS0 (cells' := 3) (slots' := 51) (Wd := 0) (argsL := [(.ref r7)]) (rest := []) (pay_of (a0 := a0) (c_of l G r7 [(111 : Int32), (112 : Int32), (97 : Int32), (113 : Int32), (117 : Int32), (101 : Int32)] h1 O1303 f8) (wk G 30 rfl) (wk G 29 rfl) (by decide) (by decide)) (wk G 27 rfl) (wk G 28 rfl) (wk G 29 rfl) (wk G 30 rfl) (by decide) pd12 rfl rfl (by rw [hml]; rfl) (Nat.le_of_ble_eq_true rfl) rfl rfl (by decide) (by decide) all0 (fun _ _ => sf0) (hb hby at_232) (k_v (pc' := 235) rfl ?_)
      rintro _ h1305 (⟨rfl, f1307⟩ | ⟨rfl, f1308⟩ | ⟨rfl, f1309⟩ | ⟨rfl, f1310, f1311, f1312⟩) K1306
      · refine go_aload (pc' := 237) (hb hby at_235) rfl rfl rfl ?_
        have K1313 : Keep h1 h1305 [] := ((Keep.refl h1 []).trans K1306 all0)
        have S1314 := (f8.keep K1313)
        refine go_old (fun O1315 => ?_)
        refine callSW0 rfl (cells' := 9) (slots' := 175) (Wd := 1) (argsL := [(.ref r7)]) (rest := [(.ref (s_TRANSPARENT Z))]) (payW_of (a0 := a0) (c_expd l G r7 [(111 : Int32), (112 : Int32), (97 : Int32), (113 : Int32), (117 : Int32), (101 : Int32)] h1305 O1315 S1314) (wk G 64 rfl) (wk G 3 rfl) (by decide) (by decide) (ew1 G)) (wk G 62 rfl) (wk G 63 rfl) (wk G 3 rfl) (wk G 64 rfl) (by decide) pd12 rfl rfl (by rw [hml]; rfl) (Nat.le_of_ble_eq_true rfl) rfl rfl (by decide) (by decide) all0 (hb hby at_237) (k_v (pc' := 240) rfl ?_)
        rintro _ h1316 (⟨rfl, f1318⟩ | ⟨rfl, f1319⟩ | ⟨rfl, f1320⟩ | ⟨rfl, f1321, f1322, f1323⟩) K1317
        · refine go_acF (pc' := 243) (hb hby at_240) rfl rfl rfl (XT.aa_ne_f rfl) ?_
          refine go_iconst (pc' := 244) (v := 1) (hb hby at_243) rfl rfl ?_
          refine go_goto (pc' := 248) (hb hby at_244) (by decide) rfl ?_
          have K1324 : Keep h0 h1 [] := ((Keep.refl h0 []).trans K2 all0)
          have K1325 : Keep h0 h1305 [] := (K1324.trans K1306 all0)
          have K1326 : Keep h0 h1316 [] := (K1325.trans K1317 all0)
          refine go_ireturn hret hlk rfl (by simp) (hb hby at_248) (by decide) (by decide) ⟨_, rfl, rfl⟩ K1326
        · exact absurd (f1307.trans f1319) (by decide)
        · exact absurd (f1307.trans f1320) (by decide)
        · exact absurd f1307.symm f1321
      · refine go_aload (pc' := 237) (hb hby at_235) rfl rfl rfl ?_
        have K1327 : Keep h1 h1305 [] := ((Keep.refl h1 []).trans K1306 all0)
        have S1328 := (f8.keep K1327)
        refine go_old (fun O1329 => ?_)
        refine callSW0 rfl (cells' := 9) (slots' := 175) (Wd := 1) (argsL := [(.ref r7)]) (rest := [(.ref (s_TRANSLUCENT Z))]) (payW_of (a0 := a0) (c_expd l G r7 [(111 : Int32), (112 : Int32), (97 : Int32), (113 : Int32), (117 : Int32), (101 : Int32)] h1305 O1329 S1328) (wk G 64 rfl) (wk G 3 rfl) (by decide) (by decide) (ew1 G)) (wk G 62 rfl) (wk G 63 rfl) (wk G 3 rfl) (wk G 64 rfl) (by decide) pd12 rfl rfl (by rw [hml]; rfl) (Nat.le_of_ble_eq_true rfl) rfl rfl (by decide) (by decide) all0 (hb hby at_237) (k_v (pc' := 240) rfl ?_)
        rintro _ h1330 (⟨rfl, f1332⟩ | ⟨rfl, f1333⟩ | ⟨rfl, f1334⟩ | ⟨rfl, f1335, f1336, f1337⟩) K1331
        · exact absurd (f1308.trans f1332) (by decide)
        · refine go_acF (pc' := 243) (hb hby at_240) rfl rfl rfl (XT.aa_ne_f rfl) ?_
          refine go_iconst (pc' := 244) (v := 1) (hb hby at_243) rfl rfl ?_
          refine go_goto (pc' := 248) (hb hby at_244) (by decide) rfl ?_
          have K1338 : Keep h0 h1 [] := ((Keep.refl h0 []).trans K2 all0)
          have K1339 : Keep h0 h1305 [] := (K1338.trans K1306 all0)
          have K1340 : Keep h0 h1330 [] := (K1339.trans K1331 all0)
          refine go_ireturn hret hlk rfl (by simp) (hb hby at_248) (by decide) (by decide) ⟨_, rfl, rfl⟩ K1340
        · exact absurd (f1308.trans f1334) (by decide)
        · exact absurd f1308.symm f1336
      · refine go_aload (pc' := 237) (hb hby at_235) rfl rfl rfl ?_
        have K1341 : Keep h1 h1305 [] := ((Keep.refl h1 []).trans K1306 all0)
        have S1342 := (f8.keep K1341)
        refine go_old (fun O1343 => ?_)
        refine callSW0 rfl (cells' := 9) (slots' := 175) (Wd := 1) (argsL := [(.ref r7)]) (rest := [(.ref (s_OPAQUE Z))]) (payW_of (a0 := a0) (c_expd l G r7 [(111 : Int32), (112 : Int32), (97 : Int32), (113 : Int32), (117 : Int32), (101 : Int32)] h1305 O1343 S1342) (wk G 64 rfl) (wk G 3 rfl) (by decide) (by decide) (ew1 G)) (wk G 62 rfl) (wk G 63 rfl) (wk G 3 rfl) (wk G 64 rfl) (by decide) pd12 rfl rfl (by rw [hml]; rfl) (Nat.le_of_ble_eq_true rfl) rfl rfl (by decide) (by decide) all0 (hb hby at_237) (k_v (pc' := 240) rfl ?_)
        rintro _ h1344 (⟨rfl, f1346⟩ | ⟨rfl, f1347⟩ | ⟨rfl, f1348⟩ | ⟨rfl, f1349, f1350, f1351⟩) K1345
        · exact absurd (f1309.trans f1346) (by decide)
        · exact absurd (f1309.trans f1347) (by decide)
        · refine go_acF (pc' := 243) (hb hby at_240) rfl rfl rfl (XT.aa_ne_f rfl) ?_
          refine go_iconst (pc' := 244) (v := 1) (hb hby at_243) rfl rfl ?_
          refine go_goto (pc' := 248) (hb hby at_244) (by decide) rfl ?_
          have K1352 : Keep h0 h1 [] := ((Keep.refl h0 []).trans K2 all0)
          have K1353 : Keep h0 h1305 [] := (K1352.trans K1306 all0)
          have K1354 : Keep h0 h1344 [] := (K1353.trans K1345 all0)
          refine go_ireturn hret hlk rfl (by simp) (hb hby at_248) (by decide) (by decide) ⟨_, rfl, rfl⟩ K1354
        · exact absurd f1309.symm f1351
      · refine go_aload (pc' := 237) (hb hby at_235) rfl rfl rfl ?_
        have K1355 : Keep h1 h1305 [] := ((Keep.refl h1 []).trans K1306 all0)
        have S1356 := (f8.keep K1355)
        refine go_old (fun O1357 => ?_)
        refine callSW0 rfl (cells' := 9) (slots' := 175) (Wd := 1) (argsL := [(.ref r7)]) (rest := [.null]) (payW_of (a0 := a0) (c_expd l G r7 [(111 : Int32), (112 : Int32), (97 : Int32), (113 : Int32), (117 : Int32), (101 : Int32)] h1305 O1357 S1356) (wk G 64 rfl) (wk G 3 rfl) (by decide) (by decide) (ew1 G)) (wk G 62 rfl) (wk G 63 rfl) (wk G 3 rfl) (wk G 64 rfl) (by decide) pd12 rfl rfl (by rw [hml]; rfl) (Nat.le_of_ble_eq_true rfl) rfl rfl (by decide) (by decide) all0 (hb hby at_237) (k_v (pc' := 240) rfl ?_)
        rintro _ h1358 (⟨rfl, f1360⟩ | ⟨rfl, f1361⟩ | ⟨rfl, f1362⟩ | ⟨rfl, f1363, f1364, f1365⟩) K1359
        · exact absurd f1360.symm f1310
        · exact absurd f1361.symm f1311
        · exact absurd f1362.symm f1312
        · refine go_acF (pc' := 243) (hb hby at_240) rfl rfl rfl (XT.aa_ne_f rfl) ?_
          refine go_iconst (pc' := 244) (v := 1) (hb hby at_243) rfl rfl ?_
          refine go_goto (pc' := 248) (hb hby at_244) (by decide) rfl ?_
          have K1366 : Keep h0 h1 [] := ((Keep.refl h0 []).trans K2 all0)
          have K1367 : Keep h0 h1305 [] := (K1366.trans K1306 all0)
          have K1368 : Keep h0 h1358 [] := (K1367.trans K1359 all0)
          refine go_ireturn hret hlk rfl (by simp) (hb hby at_248) (by decide) (by decide) ⟨_, rfl, rfl⟩ K1368
    · refine go_ifT (pc' := 45) (hb hby at_35) (by decide) rfl (XT.i0_ne_t cz1304) ?_
      refine go_iload (pc' := 47) (hb hby at_45) rfl rfl ?_
      refine go_iconst (pc' := 48) (v := 1) (hb hby at_47) rfl rfl ?_
      by_cases cz1369 : (x0 &&& (7 : Int32)) = (1 : Int32)
      · refine go_icF (pc' := 51) (hb hby at_48) rfl (XT.ii_ne_f cz1369) ?_
        refine go_aload (pc' := 53) (hb hby at_51) rfl rfl rfl ?_
        refine go_iload (pc' := 55) (hb hby at_53) rfl rfl ?_
        refine go_iload_n (pc' := 56) (hb hby at_55) rfl rfl ?_
        refine go_ldcI (pc' := 58) (v := (2147483647 : Int32)) (wk G 0 rfl) (hb hby at_56) rfl ?_
        refine go_iand (pc' := 59) (z := (x2 &&& (2147483647 : Int32))) (hb hby at_58) rfl rfl ?_
        refine go_iload (pc' := 61) (hb hby at_59) rfl rfl ?_
        refine go_irem (pc' := 62) (z := ((x2 &&& (2147483647 : Int32)) % (6 : Int32))) (hb hby at_61) rfl (by decide) rfl ?_
        refine go_iload (pc' := 64) (hb hby at_62) rfl rfl ?_
        refine callS0 (cells' := 5) (slots' := 64) (Wd := 0) (argsL := [(.ref r7), (.int (6 : Int32)), (.int ((x2 &&& (2147483647 : Int32)) % (6 : Int32))), (.int ((x3 &&& (255 : Int64)).toInt32))]) (rest := []) (pay_of (a0 := a0) (c_edit6_6 l G r7 ((x2 &&& (2147483647 : Int32)) % (6 : Int32)) ((x3 &&& (255 : Int64)).toInt32) (111 : Int32) (112 : Int32) (97 : Int32) (113 : Int32) (117 : Int32) (101 : Int32) h1 O1303 (c8_l _) f8) (wk G 86 rfl) (wk G 3 rfl) (by decide) (by decide)) (wk G 84 rfl) (wk G 85 rfl) (wk G 3 rfl) (wk G 86 rfl) (by decide) pd13 rfl rfl (by rw [hml]; rfl) (Nat.le_of_ble_eq_true rfl) rfl rfl (by decide) (by decide) all0 (fun _ _ => sf0) (hb hby at_64) (k_v (pc' := 67) rfl ?_)
        rintro _ h1370 ⟨r1372, r1373, rfl, f1374, f1375⟩ K1371
        refine go_astore (pc' := 69) (ls' := #[.val (.int x0), .val (.int x1), .val (.int x2), .val (.long x3), .second, .val (.int (x0 &&& (7 : Int32))), .val (.ref r7), .val (.int (6 : Int32)), .val (.int ((x3 &&& (255 : Int64)).toInt32)), .val (.ref r1372)]) (hb hby at_67) rfl rfl rfl ?_
        refine go_goto (pc' := 230) (hb hby at_69) (by decide) rfl ?_
        refine go_aload (pc' := 232) (hb hby at_230) rfl rfl rfl ?_
        refine go_old (fun O1376 => ?_)
        refine callS0 (cells' := 6) (slots' := 67) (Wd := 0) (argsL := [(.ref r1372)]) (rest := []) (pay_of (a0 := a0) (c_of l G r1372 r1373 h1370 O1376 f1375) (wk G 30 rfl) (wk G 29 rfl) (by decide) (by decide)) (wk G 27 rfl) (wk G 28 rfl) (wk G 29 rfl) (wk G 30 rfl) (by decide) pd12 rfl rfl (by rw [hml]; rfl) (Nat.le_of_ble_eq_true rfl) rfl rfl (by decide) (by decide) all0 (fun _ _ => sf0) (hb hby at_232) (k_v (pc' := 235) rfl ?_)
        rintro _ h1377 (⟨rfl, f1379⟩ | ⟨rfl, f1380⟩ | ⟨rfl, f1381⟩ | ⟨rfl, f1382, f1383, f1384⟩) K1378
        · refine go_aload (pc' := 237) (hb hby at_235) rfl rfl rfl ?_
          have K1385 : Keep h1370 h1377 [] := ((Keep.refl h1370 []).trans K1378 all0)
          have S1386 := (f1375.keep K1385)
          refine go_old (fun O1387 => ?_)
          refine callSW0 rfl (cells' := 12) (slots' := 191) (Wd := 1) (argsL := [(.ref r1372)]) (rest := [(.ref (s_TRANSPARENT Z))]) (payW_of (a0 := a0) (c_expd l G r1372 r1373 h1377 O1387 S1386) (wk G 64 rfl) (wk G 3 rfl) (by decide) (by decide) (ew1 G)) (wk G 62 rfl) (wk G 63 rfl) (wk G 3 rfl) (wk G 64 rfl) (by decide) pd12 rfl rfl (by rw [hml]; rfl) (Nat.le_of_ble_eq_true rfl) rfl rfl (by decide) (by decide) all0 (hb hby at_237) (k_v (pc' := 240) rfl ?_)
          rintro _ h1388 (⟨rfl, f1390⟩ | ⟨rfl, f1391⟩ | ⟨rfl, f1392⟩ | ⟨rfl, f1393, f1394, f1395⟩) K1389
          · refine go_acF (pc' := 243) (hb hby at_240) rfl rfl rfl (XT.aa_ne_f rfl) ?_
            refine go_iconst (pc' := 244) (v := 1) (hb hby at_243) rfl rfl ?_
            refine go_goto (pc' := 248) (hb hby at_244) (by decide) rfl ?_
            have K1396 : Keep h0 h1 [] := ((Keep.refl h0 []).trans K2 all0)
            have K1397 : Keep h0 h1370 [] := (K1396.trans K1371 all0)
            have K1398 : Keep h0 h1377 [] := (K1397.trans K1378 all0)
            have K1399 : Keep h0 h1388 [] := (K1398.trans K1389 all0)
            refine go_ireturn hret hlk rfl (by simp) (hb hby at_248) (by decide) (by decide) ⟨_, rfl, rfl⟩ K1399
          · exact absurd (f1379.trans f1391) (by decide)
          · exact absurd (f1379.trans f1392) (by decide)
          · exact absurd f1379.symm f1393
        · refine go_aload (pc' := 237) (hb hby at_235) rfl rfl rfl ?_
          have K1400 : Keep h1370 h1377 [] := ((Keep.refl h1370 []).trans K1378 all0)
          have S1401 := (f1375.keep K1400)
          refine go_old (fun O1402 => ?_)
          refine callSW0 rfl (cells' := 12) (slots' := 191) (Wd := 1) (argsL := [(.ref r1372)]) (rest := [(.ref (s_TRANSLUCENT Z))]) (payW_of (a0 := a0) (c_expd l G r1372 r1373 h1377 O1402 S1401) (wk G 64 rfl) (wk G 3 rfl) (by decide) (by decide) (ew1 G)) (wk G 62 rfl) (wk G 63 rfl) (wk G 3 rfl) (wk G 64 rfl) (by decide) pd12 rfl rfl (by rw [hml]; rfl) (Nat.le_of_ble_eq_true rfl) rfl rfl (by decide) (by decide) all0 (hb hby at_237) (k_v (pc' := 240) rfl ?_)
          rintro _ h1403 (⟨rfl, f1405⟩ | ⟨rfl, f1406⟩ | ⟨rfl, f1407⟩ | ⟨rfl, f1408, f1409, f1410⟩) K1404
          · exact absurd (f1380.trans f1405) (by decide)
          · refine go_acF (pc' := 243) (hb hby at_240) rfl rfl rfl (XT.aa_ne_f rfl) ?_
            refine go_iconst (pc' := 244) (v := 1) (hb hby at_243) rfl rfl ?_
            refine go_goto (pc' := 248) (hb hby at_244) (by decide) rfl ?_
            have K1411 : Keep h0 h1 [] := ((Keep.refl h0 []).trans K2 all0)
            have K1412 : Keep h0 h1370 [] := (K1411.trans K1371 all0)
            have K1413 : Keep h0 h1377 [] := (K1412.trans K1378 all0)
            have K1414 : Keep h0 h1403 [] := (K1413.trans K1404 all0)
            refine go_ireturn hret hlk rfl (by simp) (hb hby at_248) (by decide) (by decide) ⟨_, rfl, rfl⟩ K1414
          · exact absurd (f1380.trans f1407) (by decide)
          · exact absurd f1380.symm f1409
        · refine go_aload (pc' := 237) (hb hby at_235) rfl rfl rfl ?_
          have K1415 : Keep h1370 h1377 [] := ((Keep.refl h1370 []).trans K1378 all0)
          have S1416 := (f1375.keep K1415)
          refine go_old (fun O1417 => ?_)
          refine callSW0 rfl (cells' := 12) (slots' := 191) (Wd := 1) (argsL := [(.ref r1372)]) (rest := [(.ref (s_OPAQUE Z))]) (payW_of (a0 := a0) (c_expd l G r1372 r1373 h1377 O1417 S1416) (wk G 64 rfl) (wk G 3 rfl) (by decide) (by decide) (ew1 G)) (wk G 62 rfl) (wk G 63 rfl) (wk G 3 rfl) (wk G 64 rfl) (by decide) pd12 rfl rfl (by rw [hml]; rfl) (Nat.le_of_ble_eq_true rfl) rfl rfl (by decide) (by decide) all0 (hb hby at_237) (k_v (pc' := 240) rfl ?_)
          rintro _ h1418 (⟨rfl, f1420⟩ | ⟨rfl, f1421⟩ | ⟨rfl, f1422⟩ | ⟨rfl, f1423, f1424, f1425⟩) K1419
          · exact absurd (f1381.trans f1420) (by decide)
          · exact absurd (f1381.trans f1421) (by decide)
          · refine go_acF (pc' := 243) (hb hby at_240) rfl rfl rfl (XT.aa_ne_f rfl) ?_
            refine go_iconst (pc' := 244) (v := 1) (hb hby at_243) rfl rfl ?_
            refine go_goto (pc' := 248) (hb hby at_244) (by decide) rfl ?_
            have K1426 : Keep h0 h1 [] := ((Keep.refl h0 []).trans K2 all0)
            have K1427 : Keep h0 h1370 [] := (K1426.trans K1371 all0)
            have K1428 : Keep h0 h1377 [] := (K1427.trans K1378 all0)
            have K1429 : Keep h0 h1418 [] := (K1428.trans K1419 all0)
            refine go_ireturn hret hlk rfl (by simp) (hb hby at_248) (by decide) (by decide) ⟨_, rfl, rfl⟩ K1429
          · exact absurd f1381.symm f1425
        · refine go_aload (pc' := 237) (hb hby at_235) rfl rfl rfl ?_
          have K1430 : Keep h1370 h1377 [] := ((Keep.refl h1370 []).trans K1378 all0)
          have S1431 := (f1375.keep K1430)
          refine go_old (fun O1432 => ?_)
          refine callSW0 rfl (cells' := 12) (slots' := 191) (Wd := 1) (argsL := [(.ref r1372)]) (rest := [.null]) (payW_of (a0 := a0) (c_expd l G r1372 r1373 h1377 O1432 S1431) (wk G 64 rfl) (wk G 3 rfl) (by decide) (by decide) (ew1 G)) (wk G 62 rfl) (wk G 63 rfl) (wk G 3 rfl) (wk G 64 rfl) (by decide) pd12 rfl rfl (by rw [hml]; rfl) (Nat.le_of_ble_eq_true rfl) rfl rfl (by decide) (by decide) all0 (hb hby at_237) (k_v (pc' := 240) rfl ?_)
          rintro _ h1433 (⟨rfl, f1435⟩ | ⟨rfl, f1436⟩ | ⟨rfl, f1437⟩ | ⟨rfl, f1438, f1439, f1440⟩) K1434
          · exact absurd f1435.symm f1382
          · exact absurd f1436.symm f1383
          · exact absurd f1437.symm f1384
          · refine go_acF (pc' := 243) (hb hby at_240) rfl rfl rfl (XT.aa_ne_f rfl) ?_
            refine go_iconst (pc' := 244) (v := 1) (hb hby at_243) rfl rfl ?_
            refine go_goto (pc' := 248) (hb hby at_244) (by decide) rfl ?_
            have K1441 : Keep h0 h1 [] := ((Keep.refl h0 []).trans K2 all0)
            have K1442 : Keep h0 h1370 [] := (K1441.trans K1371 all0)
            have K1443 : Keep h0 h1377 [] := (K1442.trans K1378 all0)
            have K1444 : Keep h0 h1433 [] := (K1443.trans K1434 all0)
            refine go_ireturn hret hlk rfl (by simp) (hb hby at_248) (by decide) (by decide) ⟨_, rfl, rfl⟩ K1444
      · refine go_icT (pc' := 72) (hb hby at_48) (by decide) rfl (XT.ii_ne_t cz1369) ?_
        refine go_iload (pc' := 74) (hb hby at_72) rfl rfl ?_
        refine go_iconst (pc' := 75) (v := 2) (hb hby at_74) rfl rfl ?_
        by_cases cz1445 : (x0 &&& (7 : Int32)) = (2 : Int32)
        · refine go_icF (pc' := 78) (hb hby at_75) rfl (XT.ii_ne_f cz1445) ?_
          refine go_aload (pc' := 80) (hb hby at_78) rfl rfl rfl ?_
          refine go_iload (pc' := 82) (hb hby at_80) rfl rfl ?_
          refine go_iconst (pc' := 83) (v := 1) (hb hby at_82) rfl rfl ?_
          refine go_isub (pc' := 84) (z := (5 : Int32)) (hb hby at_83) rfl (by decide) ?_
          refine go_iconst (pc' := 85) (v := (-1)) (hb hby at_84) rfl rfl ?_
          refine go_iload (pc' := 87) (hb hby at_85) rfl rfl ?_
          refine callS0 (cells' := 5) (slots' := 62) (Wd := 0) (argsL := [(.ref r7), (.int (5 : Int32)), (.int (-1 : Int32)), (.int ((x3 &&& (255 : Int64)).toInt32))]) (rest := []) (pay_of (a0 := a0) (c_edit6_5 l G r7 (-1 : Int32) ((x3 &&& (255 : Int64)).toInt32) (111 : Int32) (112 : Int32) (97 : Int32) (113 : Int32) (117 : Int32) (101 : Int32) h1 O1303 (c8_l _) f8) (wk G 86 rfl) (wk G 3 rfl) (by decide) (by decide)) (wk G 84 rfl) (wk G 85 rfl) (wk G 3 rfl) (wk G 86 rfl) (by decide) pd13 rfl rfl (by rw [hml]; rfl) (Nat.le_of_ble_eq_true rfl) rfl rfl (by decide) (by decide) all0 (fun _ _ => sf0) (hb hby at_87) (k_v (pc' := 90) rfl ?_)
          rintro _ h1446 ⟨r1448, r1449, rfl, f1450, f1451⟩ K1447
          refine go_astore (pc' := 92) (ls' := #[.val (.int x0), .val (.int x1), .val (.int x2), .val (.long x3), .second, .val (.int (x0 &&& (7 : Int32))), .val (.ref r7), .val (.int (6 : Int32)), .val (.int ((x3 &&& (255 : Int64)).toInt32)), .val (.ref r1448)]) (hb hby at_90) rfl rfl rfl ?_
          refine go_goto (pc' := 230) (hb hby at_92) (by decide) rfl ?_
          refine go_aload (pc' := 232) (hb hby at_230) rfl rfl rfl ?_
          refine go_old (fun O1452 => ?_)
          refine callS0 (cells' := 6) (slots' := 65) (Wd := 0) (argsL := [(.ref r1448)]) (rest := []) (pay_of (a0 := a0) (c_of l G r1448 r1449 h1446 O1452 f1451) (wk G 30 rfl) (wk G 29 rfl) (by decide) (by decide)) (wk G 27 rfl) (wk G 28 rfl) (wk G 29 rfl) (wk G 30 rfl) (by decide) pd12 rfl rfl (by rw [hml]; rfl) (Nat.le_of_ble_eq_true rfl) rfl rfl (by decide) (by decide) all0 (fun _ _ => sf0) (hb hby at_232) (k_v (pc' := 235) rfl ?_)
          rintro _ h1453 (⟨rfl, f1455⟩ | ⟨rfl, f1456⟩ | ⟨rfl, f1457⟩ | ⟨rfl, f1458, f1459, f1460⟩) K1454
          · refine go_aload (pc' := 237) (hb hby at_235) rfl rfl rfl ?_
            have K1461 : Keep h1446 h1453 [] := ((Keep.refl h1446 []).trans K1454 all0)
            have S1462 := (f1451.keep K1461)
            refine go_old (fun O1463 => ?_)
            refine callSW0 rfl (cells' := 12) (slots' := 189) (Wd := 1) (argsL := [(.ref r1448)]) (rest := [(.ref (s_TRANSPARENT Z))]) (payW_of (a0 := a0) (c_expd l G r1448 r1449 h1453 O1463 S1462) (wk G 64 rfl) (wk G 3 rfl) (by decide) (by decide) (ew1 G)) (wk G 62 rfl) (wk G 63 rfl) (wk G 3 rfl) (wk G 64 rfl) (by decide) pd12 rfl rfl (by rw [hml]; rfl) (Nat.le_of_ble_eq_true rfl) rfl rfl (by decide) (by decide) all0 (hb hby at_237) (k_v (pc' := 240) rfl ?_)
            rintro _ h1464 (⟨rfl, f1466⟩ | ⟨rfl, f1467⟩ | ⟨rfl, f1468⟩ | ⟨rfl, f1469, f1470, f1471⟩) K1465
            · refine go_acF (pc' := 243) (hb hby at_240) rfl rfl rfl (XT.aa_ne_f rfl) ?_
              refine go_iconst (pc' := 244) (v := 1) (hb hby at_243) rfl rfl ?_
              refine go_goto (pc' := 248) (hb hby at_244) (by decide) rfl ?_
              have K1472 : Keep h0 h1 [] := ((Keep.refl h0 []).trans K2 all0)
              have K1473 : Keep h0 h1446 [] := (K1472.trans K1447 all0)
              have K1474 : Keep h0 h1453 [] := (K1473.trans K1454 all0)
              have K1475 : Keep h0 h1464 [] := (K1474.trans K1465 all0)
              refine go_ireturn hret hlk rfl (by simp) (hb hby at_248) (by decide) (by decide) ⟨_, rfl, rfl⟩ K1475
            · exact absurd (f1455.trans f1467) (by decide)
            · exact absurd (f1455.trans f1468) (by decide)
            · exact absurd f1455.symm f1469
          · refine go_aload (pc' := 237) (hb hby at_235) rfl rfl rfl ?_
            have K1476 : Keep h1446 h1453 [] := ((Keep.refl h1446 []).trans K1454 all0)
            have S1477 := (f1451.keep K1476)
            refine go_old (fun O1478 => ?_)
            refine callSW0 rfl (cells' := 12) (slots' := 189) (Wd := 1) (argsL := [(.ref r1448)]) (rest := [(.ref (s_TRANSLUCENT Z))]) (payW_of (a0 := a0) (c_expd l G r1448 r1449 h1453 O1478 S1477) (wk G 64 rfl) (wk G 3 rfl) (by decide) (by decide) (ew1 G)) (wk G 62 rfl) (wk G 63 rfl) (wk G 3 rfl) (wk G 64 rfl) (by decide) pd12 rfl rfl (by rw [hml]; rfl) (Nat.le_of_ble_eq_true rfl) rfl rfl (by decide) (by decide) all0 (hb hby at_237) (k_v (pc' := 240) rfl ?_)
            rintro _ h1479 (⟨rfl, f1481⟩ | ⟨rfl, f1482⟩ | ⟨rfl, f1483⟩ | ⟨rfl, f1484, f1485, f1486⟩) K1480
            · exact absurd (f1456.trans f1481) (by decide)
            · refine go_acF (pc' := 243) (hb hby at_240) rfl rfl rfl (XT.aa_ne_f rfl) ?_
              refine go_iconst (pc' := 244) (v := 1) (hb hby at_243) rfl rfl ?_
              refine go_goto (pc' := 248) (hb hby at_244) (by decide) rfl ?_
              have K1487 : Keep h0 h1 [] := ((Keep.refl h0 []).trans K2 all0)
              have K1488 : Keep h0 h1446 [] := (K1487.trans K1447 all0)
              have K1489 : Keep h0 h1453 [] := (K1488.trans K1454 all0)
              have K1490 : Keep h0 h1479 [] := (K1489.trans K1480 all0)
              refine go_ireturn hret hlk rfl (by simp) (hb hby at_248) (by decide) (by decide) ⟨_, rfl, rfl⟩ K1490
            · exact absurd (f1456.trans f1483) (by decide)
            · exact absurd f1456.symm f1485
          · refine go_aload (pc' := 237) (hb hby at_235) rfl rfl rfl ?_
            have K1491 : Keep h1446 h1453 [] := ((Keep.refl h1446 []).trans K1454 all0)
            have S1492 := (f1451.keep K1491)
            refine go_old (fun O1493 => ?_)
            refine callSW0 rfl (cells' := 12) (slots' := 189) (Wd := 1) (argsL := [(.ref r1448)]) (rest := [(.ref (s_OPAQUE Z))]) (payW_of (a0 := a0) (c_expd l G r1448 r1449 h1453 O1493 S1492) (wk G 64 rfl) (wk G 3 rfl) (by decide) (by decide) (ew1 G)) (wk G 62 rfl) (wk G 63 rfl) (wk G 3 rfl) (wk G 64 rfl) (by decide) pd12 rfl rfl (by rw [hml]; rfl) (Nat.le_of_ble_eq_true rfl) rfl rfl (by decide) (by decide) all0 (hb hby at_237) (k_v (pc' := 240) rfl ?_)
            rintro _ h1494 (⟨rfl, f1496⟩ | ⟨rfl, f1497⟩ | ⟨rfl, f1498⟩ | ⟨rfl, f1499, f1500, f1501⟩) K1495
            · exact absurd (f1457.trans f1496) (by decide)
            · exact absurd (f1457.trans f1497) (by decide)
            · refine go_acF (pc' := 243) (hb hby at_240) rfl rfl rfl (XT.aa_ne_f rfl) ?_
              refine go_iconst (pc' := 244) (v := 1) (hb hby at_243) rfl rfl ?_
              refine go_goto (pc' := 248) (hb hby at_244) (by decide) rfl ?_
              have K1502 : Keep h0 h1 [] := ((Keep.refl h0 []).trans K2 all0)
              have K1503 : Keep h0 h1446 [] := (K1502.trans K1447 all0)
              have K1504 : Keep h0 h1453 [] := (K1503.trans K1454 all0)
              have K1505 : Keep h0 h1494 [] := (K1504.trans K1495 all0)
              refine go_ireturn hret hlk rfl (by simp) (hb hby at_248) (by decide) (by decide) ⟨_, rfl, rfl⟩ K1505
            · exact absurd f1457.symm f1501
          · refine go_aload (pc' := 237) (hb hby at_235) rfl rfl rfl ?_
            have K1506 : Keep h1446 h1453 [] := ((Keep.refl h1446 []).trans K1454 all0)
            have S1507 := (f1451.keep K1506)
            refine go_old (fun O1508 => ?_)
            refine callSW0 rfl (cells' := 12) (slots' := 189) (Wd := 1) (argsL := [(.ref r1448)]) (rest := [.null]) (payW_of (a0 := a0) (c_expd l G r1448 r1449 h1453 O1508 S1507) (wk G 64 rfl) (wk G 3 rfl) (by decide) (by decide) (ew1 G)) (wk G 62 rfl) (wk G 63 rfl) (wk G 3 rfl) (wk G 64 rfl) (by decide) pd12 rfl rfl (by rw [hml]; rfl) (Nat.le_of_ble_eq_true rfl) rfl rfl (by decide) (by decide) all0 (hb hby at_237) (k_v (pc' := 240) rfl ?_)
            rintro _ h1509 (⟨rfl, f1511⟩ | ⟨rfl, f1512⟩ | ⟨rfl, f1513⟩ | ⟨rfl, f1514, f1515, f1516⟩) K1510
            · exact absurd f1511.symm f1458
            · exact absurd f1512.symm f1459
            · exact absurd f1513.symm f1460
            · refine go_acF (pc' := 243) (hb hby at_240) rfl rfl rfl (XT.aa_ne_f rfl) ?_
              refine go_iconst (pc' := 244) (v := 1) (hb hby at_243) rfl rfl ?_
              refine go_goto (pc' := 248) (hb hby at_244) (by decide) rfl ?_
              have K1517 : Keep h0 h1 [] := ((Keep.refl h0 []).trans K2 all0)
              have K1518 : Keep h0 h1446 [] := (K1517.trans K1447 all0)
              have K1519 : Keep h0 h1453 [] := (K1518.trans K1454 all0)
              have K1520 : Keep h0 h1509 [] := (K1519.trans K1510 all0)
              refine go_ireturn hret hlk rfl (by simp) (hb hby at_248) (by decide) (by decide) ⟨_, rfl, rfl⟩ K1520
        · refine go_icT (pc' := 95) (hb hby at_75) (by decide) rfl (XT.ii_ne_t cz1445) ?_
          refine go_iload (pc' := 97) (hb hby at_95) rfl rfl ?_
          refine go_iconst (pc' := 98) (v := 3) (hb hby at_97) rfl rfl ?_
          by_cases cz1521 : (x0 &&& (7 : Int32)) = (3 : Int32)
          · refine go_icF (pc' := 101) (hb hby at_98) rfl (XT.ii_ne_f cz1521) ?_
            refine go_aload (pc' := 103) (hb hby at_101) rfl rfl rfl ?_
            refine go_iload (pc' := 105) (hb hby at_103) rfl rfl ?_
            refine go_iconst (pc' := 106) (v := 1) (hb hby at_105) rfl rfl ?_
            refine go_iadd (pc' := 107) (z := (7 : Int32)) (hb hby at_106) rfl (by decide) ?_
            refine go_iload (pc' := 109) (hb hby at_107) rfl rfl ?_
            refine go_iload (pc' := 111) (hb hby at_109) rfl rfl ?_
            refine callS0 (cells' := 5) (slots' := 66) (Wd := 0) (argsL := [(.ref r7), (.int (7 : Int32)), (.int (6 : Int32)), (.int ((x3 &&& (255 : Int64)).toInt32))]) (rest := []) (pay_of (a0 := a0) (c_edit6_7 l G r7 (6 : Int32) ((x3 &&& (255 : Int64)).toInt32) (111 : Int32) (112 : Int32) (97 : Int32) (113 : Int32) (117 : Int32) (101 : Int32) h1 O1303 (c8_l _) f8) (wk G 86 rfl) (wk G 3 rfl) (by decide) (by decide)) (wk G 84 rfl) (wk G 85 rfl) (wk G 3 rfl) (wk G 86 rfl) (by decide) pd13 rfl rfl (by rw [hml]; rfl) (Nat.le_of_ble_eq_true rfl) rfl rfl (by decide) (by decide) all0 (fun _ _ => sf0) (hb hby at_111) (k_v (pc' := 114) rfl ?_)
            rintro _ h1522 ⟨r1524, r1525, rfl, f1526, f1527⟩ K1523
            refine go_astore (pc' := 116) (ls' := #[.val (.int x0), .val (.int x1), .val (.int x2), .val (.long x3), .second, .val (.int (x0 &&& (7 : Int32))), .val (.ref r7), .val (.int (6 : Int32)), .val (.int ((x3 &&& (255 : Int64)).toInt32)), .val (.ref r1524)]) (hb hby at_114) rfl rfl rfl ?_
            refine go_goto (pc' := 230) (hb hby at_116) (by decide) rfl ?_
            refine go_aload (pc' := 232) (hb hby at_230) rfl rfl rfl ?_
            refine go_old (fun O1528 => ?_)
            refine callS0 (cells' := 6) (slots' := 69) (Wd := 0) (argsL := [(.ref r1524)]) (rest := []) (pay_of (a0 := a0) (c_of l G r1524 r1525 h1522 O1528 f1527) (wk G 30 rfl) (wk G 29 rfl) (by decide) (by decide)) (wk G 27 rfl) (wk G 28 rfl) (wk G 29 rfl) (wk G 30 rfl) (by decide) pd12 rfl rfl (by rw [hml]; rfl) (Nat.le_of_ble_eq_true rfl) rfl rfl (by decide) (by decide) all0 (fun _ _ => sf0) (hb hby at_232) (k_v (pc' := 235) rfl ?_)
            rintro _ h1529 (⟨rfl, f1531⟩ | ⟨rfl, f1532⟩ | ⟨rfl, f1533⟩ | ⟨rfl, f1534, f1535, f1536⟩) K1530
            · refine go_aload (pc' := 237) (hb hby at_235) rfl rfl rfl ?_
              have K1537 : Keep h1522 h1529 [] := ((Keep.refl h1522 []).trans K1530 all0)
              have S1538 := (f1527.keep K1537)
              refine go_old (fun O1539 => ?_)
              refine callSW0 rfl (cells' := 12) (slots' := 193) (Wd := 1) (argsL := [(.ref r1524)]) (rest := [(.ref (s_TRANSPARENT Z))]) (payW_of (a0 := a0) (c_expd l G r1524 r1525 h1529 O1539 S1538) (wk G 64 rfl) (wk G 3 rfl) (by decide) (by decide) (ew1 G)) (wk G 62 rfl) (wk G 63 rfl) (wk G 3 rfl) (wk G 64 rfl) (by decide) pd12 rfl rfl (by rw [hml]; rfl) (Nat.le_of_ble_eq_true rfl) rfl rfl (by decide) (by decide) all0 (hb hby at_237) (k_v (pc' := 240) rfl ?_)
              rintro _ h1540 (⟨rfl, f1542⟩ | ⟨rfl, f1543⟩ | ⟨rfl, f1544⟩ | ⟨rfl, f1545, f1546, f1547⟩) K1541
              · refine go_acF (pc' := 243) (hb hby at_240) rfl rfl rfl (XT.aa_ne_f rfl) ?_
                refine go_iconst (pc' := 244) (v := 1) (hb hby at_243) rfl rfl ?_
                refine go_goto (pc' := 248) (hb hby at_244) (by decide) rfl ?_
                have K1548 : Keep h0 h1 [] := ((Keep.refl h0 []).trans K2 all0)
                have K1549 : Keep h0 h1522 [] := (K1548.trans K1523 all0)
                have K1550 : Keep h0 h1529 [] := (K1549.trans K1530 all0)
                have K1551 : Keep h0 h1540 [] := (K1550.trans K1541 all0)
                refine go_ireturn hret hlk rfl (by simp) (hb hby at_248) (by decide) (by decide) ⟨_, rfl, rfl⟩ K1551
              · exact absurd (f1531.trans f1543) (by decide)
              · exact absurd (f1531.trans f1544) (by decide)
              · exact absurd f1531.symm f1545
            · refine go_aload (pc' := 237) (hb hby at_235) rfl rfl rfl ?_
              have K1552 : Keep h1522 h1529 [] := ((Keep.refl h1522 []).trans K1530 all0)
              have S1553 := (f1527.keep K1552)
              refine go_old (fun O1554 => ?_)
              refine callSW0 rfl (cells' := 12) (slots' := 193) (Wd := 1) (argsL := [(.ref r1524)]) (rest := [(.ref (s_TRANSLUCENT Z))]) (payW_of (a0 := a0) (c_expd l G r1524 r1525 h1529 O1554 S1553) (wk G 64 rfl) (wk G 3 rfl) (by decide) (by decide) (ew1 G)) (wk G 62 rfl) (wk G 63 rfl) (wk G 3 rfl) (wk G 64 rfl) (by decide) pd12 rfl rfl (by rw [hml]; rfl) (Nat.le_of_ble_eq_true rfl) rfl rfl (by decide) (by decide) all0 (hb hby at_237) (k_v (pc' := 240) rfl ?_)
              rintro _ h1555 (⟨rfl, f1557⟩ | ⟨rfl, f1558⟩ | ⟨rfl, f1559⟩ | ⟨rfl, f1560, f1561, f1562⟩) K1556
              · exact absurd (f1532.trans f1557) (by decide)
              · refine go_acF (pc' := 243) (hb hby at_240) rfl rfl rfl (XT.aa_ne_f rfl) ?_
                refine go_iconst (pc' := 244) (v := 1) (hb hby at_243) rfl rfl ?_
                refine go_goto (pc' := 248) (hb hby at_244) (by decide) rfl ?_
                have K1563 : Keep h0 h1 [] := ((Keep.refl h0 []).trans K2 all0)
                have K1564 : Keep h0 h1522 [] := (K1563.trans K1523 all0)
                have K1565 : Keep h0 h1529 [] := (K1564.trans K1530 all0)
                have K1566 : Keep h0 h1555 [] := (K1565.trans K1556 all0)
                refine go_ireturn hret hlk rfl (by simp) (hb hby at_248) (by decide) (by decide) ⟨_, rfl, rfl⟩ K1566
              · exact absurd (f1532.trans f1559) (by decide)
              · exact absurd f1532.symm f1561
            · refine go_aload (pc' := 237) (hb hby at_235) rfl rfl rfl ?_
              have K1567 : Keep h1522 h1529 [] := ((Keep.refl h1522 []).trans K1530 all0)
              have S1568 := (f1527.keep K1567)
              refine go_old (fun O1569 => ?_)
              refine callSW0 rfl (cells' := 12) (slots' := 193) (Wd := 1) (argsL := [(.ref r1524)]) (rest := [(.ref (s_OPAQUE Z))]) (payW_of (a0 := a0) (c_expd l G r1524 r1525 h1529 O1569 S1568) (wk G 64 rfl) (wk G 3 rfl) (by decide) (by decide) (ew1 G)) (wk G 62 rfl) (wk G 63 rfl) (wk G 3 rfl) (wk G 64 rfl) (by decide) pd12 rfl rfl (by rw [hml]; rfl) (Nat.le_of_ble_eq_true rfl) rfl rfl (by decide) (by decide) all0 (hb hby at_237) (k_v (pc' := 240) rfl ?_)
              rintro _ h1570 (⟨rfl, f1572⟩ | ⟨rfl, f1573⟩ | ⟨rfl, f1574⟩ | ⟨rfl, f1575, f1576, f1577⟩) K1571
              · exact absurd (f1533.trans f1572) (by decide)
              · exact absurd (f1533.trans f1573) (by decide)
              · refine go_acF (pc' := 243) (hb hby at_240) rfl rfl rfl (XT.aa_ne_f rfl) ?_
                refine go_iconst (pc' := 244) (v := 1) (hb hby at_243) rfl rfl ?_
                refine go_goto (pc' := 248) (hb hby at_244) (by decide) rfl ?_
                have K1578 : Keep h0 h1 [] := ((Keep.refl h0 []).trans K2 all0)
                have K1579 : Keep h0 h1522 [] := (K1578.trans K1523 all0)
                have K1580 : Keep h0 h1529 [] := (K1579.trans K1530 all0)
                have K1581 : Keep h0 h1570 [] := (K1580.trans K1571 all0)
                refine go_ireturn hret hlk rfl (by simp) (hb hby at_248) (by decide) (by decide) ⟨_, rfl, rfl⟩ K1581
              · exact absurd f1533.symm f1577
            · refine go_aload (pc' := 237) (hb hby at_235) rfl rfl rfl ?_
              have K1582 : Keep h1522 h1529 [] := ((Keep.refl h1522 []).trans K1530 all0)
              have S1583 := (f1527.keep K1582)
              refine go_old (fun O1584 => ?_)
              refine callSW0 rfl (cells' := 12) (slots' := 193) (Wd := 1) (argsL := [(.ref r1524)]) (rest := [.null]) (payW_of (a0 := a0) (c_expd l G r1524 r1525 h1529 O1584 S1583) (wk G 64 rfl) (wk G 3 rfl) (by decide) (by decide) (ew1 G)) (wk G 62 rfl) (wk G 63 rfl) (wk G 3 rfl) (wk G 64 rfl) (by decide) pd12 rfl rfl (by rw [hml]; rfl) (Nat.le_of_ble_eq_true rfl) rfl rfl (by decide) (by decide) all0 (hb hby at_237) (k_v (pc' := 240) rfl ?_)
              rintro _ h1585 (⟨rfl, f1587⟩ | ⟨rfl, f1588⟩ | ⟨rfl, f1589⟩ | ⟨rfl, f1590, f1591, f1592⟩) K1586
              · exact absurd f1587.symm f1534
              · exact absurd f1588.symm f1535
              · exact absurd f1589.symm f1536
              · refine go_acF (pc' := 243) (hb hby at_240) rfl rfl rfl (XT.aa_ne_f rfl) ?_
                refine go_iconst (pc' := 244) (v := 1) (hb hby at_243) rfl rfl ?_
                refine go_goto (pc' := 248) (hb hby at_244) (by decide) rfl ?_
                have K1593 : Keep h0 h1 [] := ((Keep.refl h0 []).trans K2 all0)
                have K1594 : Keep h0 h1522 [] := (K1593.trans K1523 all0)
                have K1595 : Keep h0 h1529 [] := (K1594.trans K1530 all0)
                have K1596 : Keep h0 h1585 [] := (K1595.trans K1586 all0)
                refine go_ireturn hret hlk rfl (by simp) (hb hby at_248) (by decide) (by decide) ⟨_, rfl, rfl⟩ K1596
          · refine go_icT (pc' := 119) (hb hby at_98) (by decide) rfl (XT.ii_ne_t cz1521) ?_
            refine go_iload (pc' := 121) (hb hby at_119) rfl rfl ?_
            refine go_iconst (pc' := 122) (v := 4) (hb hby at_121) rfl rfl ?_
            by_cases cz1597 : (x0 &&& (7 : Int32)) = (4 : Int32)
            · refine go_icF (pc' := 125) (hb hby at_122) rfl (XT.ii_ne_f cz1597) ?_
              refine go_iload (pc' := 127) (hb hby at_125) rfl rfl ?_
              refine callS0 (cells' := 4) (slots' := 53) (Wd := 0) (argsL := [(.int ((x3 &&& (255 : Int64)).toInt32))]) (rest := []) (pay_of (a0 := a0) (c_valueof l G ((x3 &&& (255 : Int64)).toInt32) h1 O1303 (c8_l _)) (wk G 70 rfl) (wk G 6 rfl) (by decide) (by decide)) (wk G 68 rfl) (wk G 69 rfl) (wk G 6 rfl) (wk G 70 rfl) (by decide) pd14 rfl rfl (by rw [hml]; rfl) (Nat.le_of_ble_eq_true rfl) rfl rfl (by decide) (by decide) all0 (fun _ _ => sf0) (hb hby at_127) (k_v (pc' := 130) rfl ?_)
              rintro _ h1598 ⟨r1600, rfl, f1601, f1602⟩ K1599
              refine go_astore (pc' := 132) (ls' := #[.val (.int x0), .val (.int x1), .val (.int x2), .val (.long x3), .second, .val (.int (x0 &&& (7 : Int32))), .val (.ref r7), .val (.int (6 : Int32)), .val (.int ((x3 &&& (255 : Int64)).toInt32)), .val (.ref r1600)]) (hb hby at_130) rfl rfl rfl ?_
              refine go_goto (pc' := 230) (hb hby at_132) (by decide) rfl ?_
              refine go_aload (pc' := 232) (hb hby at_230) rfl rfl rfl ?_
              refine go_old (fun O1603 => ?_)
              refine callS0 (cells' := 5) (slots' := 56) (Wd := 0) (argsL := [(.ref r1600)]) (rest := []) (pay_of (a0 := a0) (c_of l G r1600 [((x3 &&& (255 : Int64)).toInt32)] h1598 O1603 f1602) (wk G 30 rfl) (wk G 29 rfl) (by decide) (by decide)) (wk G 27 rfl) (wk G 28 rfl) (wk G 29 rfl) (wk G 30 rfl) (by decide) pd12 rfl rfl (by rw [hml]; rfl) (Nat.le_of_ble_eq_true rfl) rfl rfl (by decide) (by decide) all0 (fun _ _ => sf0) (hb hby at_232) (k_v (pc' := 235) rfl ?_)
              rintro _ h1604 (⟨rfl, f1606⟩ | ⟨rfl, f1607⟩ | ⟨rfl, f1608⟩ | ⟨rfl, f1609, f1610, f1611⟩) K1605
              · refine go_aload (pc' := 237) (hb hby at_235) rfl rfl rfl ?_
                have K1612 : Keep h1598 h1604 [] := ((Keep.refl h1598 []).trans K1605 all0)
                have S1613 := (f1602.keep K1612)
                refine go_old (fun O1614 => ?_)
                refine callSW0 rfl (cells' := 11) (slots' := 180) (Wd := 1) (argsL := [(.ref r1600)]) (rest := [(.ref (s_TRANSPARENT Z))]) (payW_of (a0 := a0) (c_expd l G r1600 [((x3 &&& (255 : Int64)).toInt32)] h1604 O1614 S1613) (wk G 64 rfl) (wk G 3 rfl) (by decide) (by decide) (ew1 G)) (wk G 62 rfl) (wk G 63 rfl) (wk G 3 rfl) (wk G 64 rfl) (by decide) pd12 rfl rfl (by rw [hml]; rfl) (Nat.le_of_ble_eq_true rfl) rfl rfl (by decide) (by decide) all0 (hb hby at_237) (k_v (pc' := 240) rfl ?_)
                rintro _ h1615 (⟨rfl, f1617⟩ | ⟨rfl, f1618⟩ | ⟨rfl, f1619⟩ | ⟨rfl, f1620, f1621, f1622⟩) K1616
                · refine go_acF (pc' := 243) (hb hby at_240) rfl rfl rfl (XT.aa_ne_f rfl) ?_
                  refine go_iconst (pc' := 244) (v := 1) (hb hby at_243) rfl rfl ?_
                  refine go_goto (pc' := 248) (hb hby at_244) (by decide) rfl ?_
                  have K1623 : Keep h0 h1 [] := ((Keep.refl h0 []).trans K2 all0)
                  have K1624 : Keep h0 h1598 [] := (K1623.trans K1599 all0)
                  have K1625 : Keep h0 h1604 [] := (K1624.trans K1605 all0)
                  have K1626 : Keep h0 h1615 [] := (K1625.trans K1616 all0)
                  refine go_ireturn hret hlk rfl (by simp) (hb hby at_248) (by decide) (by decide) ⟨_, rfl, rfl⟩ K1626
                · exact absurd (f1606.trans f1618) (by decide)
                · exact absurd (f1606.trans f1619) (by decide)
                · exact absurd f1606.symm f1620
              · refine go_aload (pc' := 237) (hb hby at_235) rfl rfl rfl ?_
                have K1627 : Keep h1598 h1604 [] := ((Keep.refl h1598 []).trans K1605 all0)
                have S1628 := (f1602.keep K1627)
                refine go_old (fun O1629 => ?_)
                refine callSW0 rfl (cells' := 11) (slots' := 180) (Wd := 1) (argsL := [(.ref r1600)]) (rest := [(.ref (s_TRANSLUCENT Z))]) (payW_of (a0 := a0) (c_expd l G r1600 [((x3 &&& (255 : Int64)).toInt32)] h1604 O1629 S1628) (wk G 64 rfl) (wk G 3 rfl) (by decide) (by decide) (ew1 G)) (wk G 62 rfl) (wk G 63 rfl) (wk G 3 rfl) (wk G 64 rfl) (by decide) pd12 rfl rfl (by rw [hml]; rfl) (Nat.le_of_ble_eq_true rfl) rfl rfl (by decide) (by decide) all0 (hb hby at_237) (k_v (pc' := 240) rfl ?_)
                rintro _ h1630 (⟨rfl, f1632⟩ | ⟨rfl, f1633⟩ | ⟨rfl, f1634⟩ | ⟨rfl, f1635, f1636, f1637⟩) K1631
                · exact absurd (f1607.trans f1632) (by decide)
                · refine go_acF (pc' := 243) (hb hby at_240) rfl rfl rfl (XT.aa_ne_f rfl) ?_
                  refine go_iconst (pc' := 244) (v := 1) (hb hby at_243) rfl rfl ?_
                  refine go_goto (pc' := 248) (hb hby at_244) (by decide) rfl ?_
                  have K1638 : Keep h0 h1 [] := ((Keep.refl h0 []).trans K2 all0)
                  have K1639 : Keep h0 h1598 [] := (K1638.trans K1599 all0)
                  have K1640 : Keep h0 h1604 [] := (K1639.trans K1605 all0)
                  have K1641 : Keep h0 h1630 [] := (K1640.trans K1631 all0)
                  refine go_ireturn hret hlk rfl (by simp) (hb hby at_248) (by decide) (by decide) ⟨_, rfl, rfl⟩ K1641
                · exact absurd (f1607.trans f1634) (by decide)
                · exact absurd f1607.symm f1636
              · refine go_aload (pc' := 237) (hb hby at_235) rfl rfl rfl ?_
                have K1642 : Keep h1598 h1604 [] := ((Keep.refl h1598 []).trans K1605 all0)
                have S1643 := (f1602.keep K1642)
                refine go_old (fun O1644 => ?_)
                refine callSW0 rfl (cells' := 11) (slots' := 180) (Wd := 1) (argsL := [(.ref r1600)]) (rest := [(.ref (s_OPAQUE Z))]) (payW_of (a0 := a0) (c_expd l G r1600 [((x3 &&& (255 : Int64)).toInt32)] h1604 O1644 S1643) (wk G 64 rfl) (wk G 3 rfl) (by decide) (by decide) (ew1 G)) (wk G 62 rfl) (wk G 63 rfl) (wk G 3 rfl) (wk G 64 rfl) (by decide) pd12 rfl rfl (by rw [hml]; rfl) (Nat.le_of_ble_eq_true rfl) rfl rfl (by decide) (by decide) all0 (hb hby at_237) (k_v (pc' := 240) rfl ?_)
                rintro _ h1645 (⟨rfl, f1647⟩ | ⟨rfl, f1648⟩ | ⟨rfl, f1649⟩ | ⟨rfl, f1650, f1651, f1652⟩) K1646
                · exact absurd (f1608.trans f1647) (by decide)
                · exact absurd (f1608.trans f1648) (by decide)
                · refine go_acF (pc' := 243) (hb hby at_240) rfl rfl rfl (XT.aa_ne_f rfl) ?_
                  refine go_iconst (pc' := 244) (v := 1) (hb hby at_243) rfl rfl ?_
                  refine go_goto (pc' := 248) (hb hby at_244) (by decide) rfl ?_
                  have K1653 : Keep h0 h1 [] := ((Keep.refl h0 []).trans K2 all0)
                  have K1654 : Keep h0 h1598 [] := (K1653.trans K1599 all0)
                  have K1655 : Keep h0 h1604 [] := (K1654.trans K1605 all0)
                  have K1656 : Keep h0 h1645 [] := (K1655.trans K1646 all0)
                  refine go_ireturn hret hlk rfl (by simp) (hb hby at_248) (by decide) (by decide) ⟨_, rfl, rfl⟩ K1656
                · exact absurd f1608.symm f1652
              · refine go_aload (pc' := 237) (hb hby at_235) rfl rfl rfl ?_
                have K1657 : Keep h1598 h1604 [] := ((Keep.refl h1598 []).trans K1605 all0)
                have S1658 := (f1602.keep K1657)
                refine go_old (fun O1659 => ?_)
                refine callSW0 rfl (cells' := 11) (slots' := 180) (Wd := 1) (argsL := [(.ref r1600)]) (rest := [.null]) (payW_of (a0 := a0) (c_expd l G r1600 [((x3 &&& (255 : Int64)).toInt32)] h1604 O1659 S1658) (wk G 64 rfl) (wk G 3 rfl) (by decide) (by decide) (ew1 G)) (wk G 62 rfl) (wk G 63 rfl) (wk G 3 rfl) (wk G 64 rfl) (by decide) pd12 rfl rfl (by rw [hml]; rfl) (Nat.le_of_ble_eq_true rfl) rfl rfl (by decide) (by decide) all0 (hb hby at_237) (k_v (pc' := 240) rfl ?_)
                rintro _ h1660 (⟨rfl, f1662⟩ | ⟨rfl, f1663⟩ | ⟨rfl, f1664⟩ | ⟨rfl, f1665, f1666, f1667⟩) K1661
                · exact absurd f1662.symm f1609
                · exact absurd f1663.symm f1610
                · exact absurd f1664.symm f1611
                · refine go_acF (pc' := 243) (hb hby at_240) rfl rfl rfl (XT.aa_ne_f rfl) ?_
                  refine go_iconst (pc' := 244) (v := 1) (hb hby at_243) rfl rfl ?_
                  refine go_goto (pc' := 248) (hb hby at_244) (by decide) rfl ?_
                  have K1668 : Keep h0 h1 [] := ((Keep.refl h0 []).trans K2 all0)
                  have K1669 : Keep h0 h1598 [] := (K1668.trans K1599 all0)
                  have K1670 : Keep h0 h1604 [] := (K1669.trans K1605 all0)
                  have K1671 : Keep h0 h1660 [] := (K1670.trans K1661 all0)
                  refine go_ireturn hret hlk rfl (by simp) (hb hby at_248) (by decide) (by decide) ⟨_, rfl, rfl⟩ K1671
            · refine go_icT (pc' := 135) (hb hby at_122) (by decide) rfl (XT.ii_ne_t cz1597) ?_
              refine go_iload (pc' := 137) (hb hby at_135) rfl rfl ?_
              refine go_iconst (pc' := 138) (v := 5) (hb hby at_137) rfl rfl ?_
              by_cases cz1672 : (x0 &&& (7 : Int32)) = (5 : Int32)
              · refine go_icF (pc' := 141) (hb hby at_138) rfl (XT.ii_ne_f cz1672) ?_
                refine go_newO (pc' := 144) (cells' := 3) (slots' := 52) (wk G 111 rfl) (wk G 7 rfl) (wk G 6 rfl) (hb hby at_141) rfl rfl rfl (by decide) (by decide) (fun h1673 a1674 g1675 X1676 E1677 D1678 U1679 => ?_)
                refine go_dup (pc' := 145) (hb hby at_144) rfl rfl ?_
                refine go_iconst (pc' := 146) (v := 0) (hb hby at_145) rfl rfl ?_
                refine go_newP (pc' := 148) (cells' := 4) (slots' := 52) (cap := 0) (vs := []) (ty := .char) (dv := .int 0) (wk G 112 rfl) rfl rfl (hb hby at_146) rfl (by decide) rfl (by decide) rfl rfl rfl (by decide) (by decide) (fun h1680 a1681 k1685 g1682 X1683 A1684 => ?_)
                have K1686 : Keep h1673 h1680 [] := ((Keep.refl h1673 []).ext X1683)
                have E1687 := (E1677.keep K1686)
                have K1688 : Keep h0 h1 [] := ((Keep.refl h0 []).trans K2 all0)
                have F1689 := D1678 (Or.inr (wk G 9 rfl)) (ty := (.array .byte)) (by decide)
                have F1690 := (F1689.keep K1686 nin0)
                have F1691 := D1678 (Or.inr (wk G 10 rfl)) (ty := .byte) (by decide)
                have F1692 := (F1691.keep K1686 nin0)
                refine go_old (fun O1693 => ?_)
                refine callIW0 rfl (cells' := 8) (slots' := 60) (Wd := 1) (argsL := [(.ref a1681)]) (rest := [(.ref a1674)]) (payW_of (a0 := a0) (c_new0 l G a1674 a1681 k1685 h1680 O1693 E1687 (Nat.le_trans O0.2.1 (Nat.le_trans K1688.1 (Nat.le_of_eq g1675))) F1690 F1692 A1684) (wk G 115 rfl) (wk G 6 rfl) (by decide) (by decide) (ew1 G)) rfl (wk G 113 rfl) (wk G 114 rfl) (wk G 115 rfl) (by decide) pd10 rfl rfl (by rw [hml]; rfl) (Nat.le_of_ble_eq_true rfl) rfl rfl (by decide) (by decide) (allS (Nat.le_trans O0.2.1 (Nat.le_trans K1688.1 (Nat.le_of_eq g1675))) all0) (hb hby at_148) (k_n (pc' := 151) rfl ?_)
                rintro  h1694 f1696 K1695
                refine go_astore (pc' := 153) (ls' := #[.val (.int x0), .val (.int x1), .val (.int x2), .val (.long x3), .second, .val (.int (x0 &&& (7 : Int32))), .val (.ref r7), .val (.int (6 : Int32)), .val (.int ((x3 &&& (255 : Int64)).toInt32)), .val (.ref a1674)]) (hb hby at_151) rfl rfl rfl ?_
                refine go_goto (pc' := 230) (hb hby at_153) (by decide) rfl ?_
                refine go_aload (pc' := 232) (hb hby at_230) rfl rfl rfl ?_
                refine go_old (fun O1697 => ?_)
                refine callS0 (cells' := 9) (slots' := 63) (Wd := 0) (argsL := [(.ref a1674)]) (rest := []) (pay_of (a0 := a0) (c_of l G a1674 [] h1694 O1697 f1696) (wk G 30 rfl) (wk G 29 rfl) (by decide) (by decide)) (wk G 27 rfl) (wk G 28 rfl) (wk G 29 rfl) (wk G 30 rfl) (by decide) pd12 rfl rfl (by rw [hml]; rfl) (Nat.le_of_ble_eq_true rfl) rfl rfl (by decide) (by decide) all0 (fun _ _ => sf0) (hb hby at_232) (k_v (pc' := 235) rfl ?_)
                rintro _ h1698 (⟨rfl, f1700⟩ | ⟨rfl, f1701⟩ | ⟨rfl, f1702⟩ | ⟨rfl, f1703, f1704, f1705⟩) K1699
                · refine go_aload (pc' := 237) (hb hby at_235) rfl rfl rfl ?_
                  have K1706 : Keep h1694 h1698 [] := ((Keep.refl h1694 []).trans K1699 all0)
                  have S1707 := (f1696.keep K1706)
                  refine go_old (fun O1708 => ?_)
                  refine callSW0 rfl (cells' := 15) (slots' := 187) (Wd := 1) (argsL := [(.ref a1674)]) (rest := [(.ref (s_TRANSPARENT Z))]) (payW_of (a0 := a0) (c_expd l G a1674 [] h1698 O1708 S1707) (wk G 64 rfl) (wk G 3 rfl) (by decide) (by decide) (ew1 G)) (wk G 62 rfl) (wk G 63 rfl) (wk G 3 rfl) (wk G 64 rfl) (by decide) pd12 rfl rfl (by rw [hml]; rfl) (Nat.le_of_ble_eq_true rfl) rfl rfl (by decide) (by decide) all0 (hb hby at_237) (k_v (pc' := 240) rfl ?_)
                  rintro _ h1709 (⟨rfl, f1711⟩ | ⟨rfl, f1712⟩ | ⟨rfl, f1713⟩ | ⟨rfl, f1714, f1715, f1716⟩) K1710
                  · refine go_acF (pc' := 243) (hb hby at_240) rfl rfl rfl (XT.aa_ne_f rfl) ?_
                    refine go_iconst (pc' := 244) (v := 1) (hb hby at_243) rfl rfl ?_
                    refine go_goto (pc' := 248) (hb hby at_244) (by decide) rfl ?_
                    have K1717 : Keep h0 h1673 [] := (K1688.ext X1676)
                    have K1718 : Keep h0 h1680 [] := (K1717.ext X1683)
                    have K1719 : Keep h0 h1694 [] := (K1718.trans K1695 (allS (Or.inr (Nat.le_trans K1688.1 (Nat.le_of_eq g1675))) all0))
                    have K1720 : Keep h0 h1698 [] := (K1719.trans K1699 all0)
                    have K1721 : Keep h0 h1709 [] := (K1720.trans K1710 all0)
                    refine go_ireturn hret hlk rfl (by simp) (hb hby at_248) (by decide) (by decide) ⟨_, rfl, rfl⟩ K1721
                  · exact absurd (f1700.trans f1712) (by decide)
                  · exact absurd (f1700.trans f1713) (by decide)
                  · exact absurd f1700.symm f1714
                · refine go_aload (pc' := 237) (hb hby at_235) rfl rfl rfl ?_
                  have K1722 : Keep h1694 h1698 [] := ((Keep.refl h1694 []).trans K1699 all0)
                  have S1723 := (f1696.keep K1722)
                  refine go_old (fun O1724 => ?_)
                  refine callSW0 rfl (cells' := 15) (slots' := 187) (Wd := 1) (argsL := [(.ref a1674)]) (rest := [(.ref (s_TRANSLUCENT Z))]) (payW_of (a0 := a0) (c_expd l G a1674 [] h1698 O1724 S1723) (wk G 64 rfl) (wk G 3 rfl) (by decide) (by decide) (ew1 G)) (wk G 62 rfl) (wk G 63 rfl) (wk G 3 rfl) (wk G 64 rfl) (by decide) pd12 rfl rfl (by rw [hml]; rfl) (Nat.le_of_ble_eq_true rfl) rfl rfl (by decide) (by decide) all0 (hb hby at_237) (k_v (pc' := 240) rfl ?_)
                  rintro _ h1725 (⟨rfl, f1727⟩ | ⟨rfl, f1728⟩ | ⟨rfl, f1729⟩ | ⟨rfl, f1730, f1731, f1732⟩) K1726
                  · exact absurd (f1701.trans f1727) (by decide)
                  · refine go_acF (pc' := 243) (hb hby at_240) rfl rfl rfl (XT.aa_ne_f rfl) ?_
                    refine go_iconst (pc' := 244) (v := 1) (hb hby at_243) rfl rfl ?_
                    refine go_goto (pc' := 248) (hb hby at_244) (by decide) rfl ?_
                    have K1733 : Keep h0 h1673 [] := (K1688.ext X1676)
                    have K1734 : Keep h0 h1680 [] := (K1733.ext X1683)
                    have K1735 : Keep h0 h1694 [] := (K1734.trans K1695 (allS (Or.inr (Nat.le_trans K1688.1 (Nat.le_of_eq g1675))) all0))
                    have K1736 : Keep h0 h1698 [] := (K1735.trans K1699 all0)
                    have K1737 : Keep h0 h1725 [] := (K1736.trans K1726 all0)
                    refine go_ireturn hret hlk rfl (by simp) (hb hby at_248) (by decide) (by decide) ⟨_, rfl, rfl⟩ K1737
                  · exact absurd (f1701.trans f1729) (by decide)
                  · exact absurd f1701.symm f1731
                · refine go_aload (pc' := 237) (hb hby at_235) rfl rfl rfl ?_
                  have K1738 : Keep h1694 h1698 [] := ((Keep.refl h1694 []).trans K1699 all0)
                  have S1739 := (f1696.keep K1738)
                  refine go_old (fun O1740 => ?_)
                  refine callSW0 rfl (cells' := 15) (slots' := 187) (Wd := 1) (argsL := [(.ref a1674)]) (rest := [(.ref (s_OPAQUE Z))]) (payW_of (a0 := a0) (c_expd l G a1674 [] h1698 O1740 S1739) (wk G 64 rfl) (wk G 3 rfl) (by decide) (by decide) (ew1 G)) (wk G 62 rfl) (wk G 63 rfl) (wk G 3 rfl) (wk G 64 rfl) (by decide) pd12 rfl rfl (by rw [hml]; rfl) (Nat.le_of_ble_eq_true rfl) rfl rfl (by decide) (by decide) all0 (hb hby at_237) (k_v (pc' := 240) rfl ?_)
                  rintro _ h1741 (⟨rfl, f1743⟩ | ⟨rfl, f1744⟩ | ⟨rfl, f1745⟩ | ⟨rfl, f1746, f1747, f1748⟩) K1742
                  · exact absurd (f1702.trans f1743) (by decide)
                  · exact absurd (f1702.trans f1744) (by decide)
                  · refine go_acF (pc' := 243) (hb hby at_240) rfl rfl rfl (XT.aa_ne_f rfl) ?_
                    refine go_iconst (pc' := 244) (v := 1) (hb hby at_243) rfl rfl ?_
                    refine go_goto (pc' := 248) (hb hby at_244) (by decide) rfl ?_
                    have K1749 : Keep h0 h1673 [] := (K1688.ext X1676)
                    have K1750 : Keep h0 h1680 [] := (K1749.ext X1683)
                    have K1751 : Keep h0 h1694 [] := (K1750.trans K1695 (allS (Or.inr (Nat.le_trans K1688.1 (Nat.le_of_eq g1675))) all0))
                    have K1752 : Keep h0 h1698 [] := (K1751.trans K1699 all0)
                    have K1753 : Keep h0 h1741 [] := (K1752.trans K1742 all0)
                    refine go_ireturn hret hlk rfl (by simp) (hb hby at_248) (by decide) (by decide) ⟨_, rfl, rfl⟩ K1753
                  · exact absurd f1702.symm f1748
                · refine go_aload (pc' := 237) (hb hby at_235) rfl rfl rfl ?_
                  have K1754 : Keep h1694 h1698 [] := ((Keep.refl h1694 []).trans K1699 all0)
                  have S1755 := (f1696.keep K1754)
                  refine go_old (fun O1756 => ?_)
                  refine callSW0 rfl (cells' := 15) (slots' := 187) (Wd := 1) (argsL := [(.ref a1674)]) (rest := [.null]) (payW_of (a0 := a0) (c_expd l G a1674 [] h1698 O1756 S1755) (wk G 64 rfl) (wk G 3 rfl) (by decide) (by decide) (ew1 G)) (wk G 62 rfl) (wk G 63 rfl) (wk G 3 rfl) (wk G 64 rfl) (by decide) pd12 rfl rfl (by rw [hml]; rfl) (Nat.le_of_ble_eq_true rfl) rfl rfl (by decide) (by decide) all0 (hb hby at_237) (k_v (pc' := 240) rfl ?_)
                  rintro _ h1757 (⟨rfl, f1759⟩ | ⟨rfl, f1760⟩ | ⟨rfl, f1761⟩ | ⟨rfl, f1762, f1763, f1764⟩) K1758
                  · exact absurd f1759.symm f1703
                  · exact absurd f1760.symm f1704
                  · exact absurd f1761.symm f1705
                  · refine go_acF (pc' := 243) (hb hby at_240) rfl rfl rfl (XT.aa_ne_f rfl) ?_
                    refine go_iconst (pc' := 244) (v := 1) (hb hby at_243) rfl rfl ?_
                    refine go_goto (pc' := 248) (hb hby at_244) (by decide) rfl ?_
                    have K1765 : Keep h0 h1673 [] := (K1688.ext X1676)
                    have K1766 : Keep h0 h1680 [] := (K1765.ext X1683)
                    have K1767 : Keep h0 h1694 [] := (K1766.trans K1695 (allS (Or.inr (Nat.le_trans K1688.1 (Nat.le_of_eq g1675))) all0))
                    have K1768 : Keep h0 h1698 [] := (K1767.trans K1699 all0)
                    have K1769 : Keep h0 h1757 [] := (K1768.trans K1758 all0)
                    refine go_ireturn hret hlk rfl (by simp) (hb hby at_248) (by decide) (by decide) ⟨_, rfl, rfl⟩ K1769
              · refine go_icT (pc' := 156) (hb hby at_138) (by decide) rfl (XT.ii_ne_t cz1672) ?_
                refine go_iload (pc' := 158) (hb hby at_156) rfl rfl ?_
                refine go_bipush (pc' := 160) (v := 6) (hb hby at_158) rfl rfl ?_
                by_cases cz1770 : (x0 &&& (7 : Int32)) = (6 : Int32)
                · refine go_icF (pc' := 163) (hb hby at_160) rfl (XT.ii_ne_f cz1770) ?_
                  refine go_aconst_null (pc' := 164) (hb hby at_163) rfl ?_
                  refine go_astore (pc' := 166) (ls' := #[.val (.int x0), .val (.int x1), .val (.int x2), .val (.long x3), .second, .val (.int (x0 &&& (7 : Int32))), .val (.ref r7), .val (.int (6 : Int32)), .val (.int ((x3 &&& (255 : Int64)).toInt32)), .val .null]) (hb hby at_164) rfl rfl rfl ?_
                  refine go_goto (pc' := 230) (hb hby at_166) (by decide) rfl ?_
                  refine go_aload (pc' := 232) (hb hby at_230) rfl rfl rfl ?_
                  refine callS0 (cells' := 3) (slots' := 51) (Wd := 0) (argsL := [.null]) (rest := []) (pay_of (a0 := a0) (c_ofnull l G  h1 O1303 ) (wk G 30 rfl) (wk G 29 rfl) (by decide) (by decide)) (wk G 27 rfl) (wk G 28 rfl) (wk G 29 rfl) (wk G 30 rfl) (by decide) pd12 rfl rfl (by rw [hml]; rfl) (Nat.le_of_ble_eq_true rfl) rfl rfl (by decide) (by decide) all0 (fun _ _ => sf0) (hb hby at_232) (k_v (pc' := 235) rfl ?_)
                  rintro _ h1771 rfl K1772
                  refine go_aload (pc' := 237) (hb hby at_235) rfl rfl rfl ?_
                  refine go_old (fun O1773 => ?_)
                  refine callSW0 rfl (cells' := 3) (slots' := 51) (Wd := 1) (argsL := [.null]) (rest := [.null]) (payW_of (a0 := a0) (c_expdN l G  h1771 O1773 ) (wk G 64 rfl) (wk G 3 rfl) (by decide) (by decide) (ew1 G)) (wk G 62 rfl) (wk G 63 rfl) (wk G 3 rfl) (wk G 64 rfl) (by decide) pd12 rfl rfl (by rw [hml]; rfl) (Nat.le_of_ble_eq_true rfl) rfl rfl (by decide) (by decide) all0 (hb hby at_237) (k_v (pc' := 240) rfl ?_)
                  rintro _ h1774 ⟨rfl, rfl⟩ K1775
                  refine go_acF (pc' := 243) (hb hby at_240) rfl rfl rfl (XT.aa_ne_f rfl) ?_
                  refine go_iconst (pc' := 244) (v := 1) (hb hby at_243) rfl rfl ?_
                  refine go_goto (pc' := 248) (hb hby at_244) (by decide) rfl ?_
                  have K1776 : Keep h0 h1 [] := ((Keep.refl h0 []).trans K2 all0)
                  have K1777 : Keep h0 h1771 [] := (K1776.trans K1772 all0)
                  refine go_ireturn hret hlk rfl (by simp) (hb hby at_248) (by decide) (by decide) ⟨_, rfl, rfl⟩ K1777
                · refine go_icT (pc' := 169) (hb hby at_160) (by decide) rfl (XT.ii_ne_t cz1770) ?_
                  refine go_newO (pc' := 172) (cells' := 3) (slots' := 52) (wk G 111 rfl) (wk G 7 rfl) (wk G 6 rfl) (hb hby at_169) rfl rfl rfl (by decide) (by decide) (fun h1778 a1779 g1780 X1781 E1782 D1783 U1784 => ?_)
                  refine go_dup (pc' := 173) (hb hby at_172) rfl rfl ?_
                  refine go_bipush (pc' := 175) (v := 6) (hb hby at_173) rfl rfl ?_
                  refine go_newP (pc' := 177) (cells' := 4) (slots' := 58) (cap := 6) (vs := [(.int (0 : Int32)), (.int (0 : Int32)), (.int (0 : Int32)), (.int (0 : Int32)), (.int (0 : Int32)), (.int (0 : Int32))]) (ty := .char) (dv := .int 0) (wk G 112 rfl) rfl rfl (hb hby at_175) rfl (by decide) rfl (by decide) rfl rfl rfl (by decide) (by decide) (fun h1785 a1786 k1790 g1787 X1788 A1789 => ?_)
                  refine go_dup (pc' := 178) (hb hby at_177) rfl rfl ?_
                  refine go_iconst (pc' := 179) (v := 0) (hb hby at_178) rfl rfl ?_
                  refine go_lload_n (pc' := 180) (hb hby at_179) rfl rfl ?_
                  refine go_iconst (pc' := 181) (v := 0) (hb hby at_180) rfl rfl ?_
                  refine go_old (fun O1791 => ?_)
                  refine callS0 (cells' := 4) (slots' := 58) (Wd := 5) (argsL := [(.long x3), (.int (0 : Int32))]) (rest := [(.int (0 : Int32)), (.ref a1786), (.ref a1786), (.ref a1779), (.ref a1779)]) (pay_of (a0 := a0) (c_byteat0 l G x3 h1785 O1791 ) (wk G 131 rfl) (wk G 3 rfl) (by decide) (by decide)) (wk G 129 rfl) (wk G 130 rfl) (wk G 3 rfl) (wk G 131 rfl) (by decide) pd15 rfl rfl (by rw [hml]; rfl) (Nat.le_of_ble_eq_true rfl) rfl rfl (by decide) (by decide) all0 (fun _ _ => sf0) (hb hby at_181) (k_v (pc' := 184) rfl ?_)
                  rintro _ h1792 ⟨r1794, rfl, rfl, f1795⟩ K1793
                  have K1799 : Keep h0 h1 [] := ((Keep.refl h0 []).trans K2 all0)
                  have K1800 : Keep h0 h1778 [] := (K1799.ext X1781)
                  refine go_stC (pc' := 185) (i := 0) (x' := r1794) (vs' := [(.int r1794), (.int (0 : Int32)), (.int (0 : Int32)), (.int (0 : Int32)), (.int (0 : Int32)), (.int (0 : Int32))]) A1789 (Nat.le_trans O0.2.1 (Nat.le_trans K1800.1 (Nat.le_of_eq g1787))) (by decide) (by decide) rfl (Nat.le_of_ble_eq_true rfl) (i2c_c8 f1795) rfl (hb hby at_184) rfl (fun h1796 W1797 A1798 => ?_)
                  refine go_dup (pc' := 186) (hb hby at_185) rfl rfl ?_
                  refine go_iconst (pc' := 187) (v := 1) (hb hby at_186) rfl rfl ?_
                  refine go_lload_n (pc' := 188) (hb hby at_187) rfl rfl ?_
                  refine go_iconst (pc' := 189) (v := 1) (hb hby at_188) rfl rfl ?_
                  refine go_old (fun O1801 => ?_)
                  refine callS0 (cells' := 4) (slots' := 58) (Wd := 5) (argsL := [(.long x3), (.int (1 : Int32))]) (rest := [(.int (1 : Int32)), (.ref a1786), (.ref a1786), (.ref a1779), (.ref a1779)]) (pay_of (a0 := a0) (c_byteat1 l G x3 h1796 O1801 ) (wk G 131 rfl) (wk G 3 rfl) (by decide) (by decide)) (wk G 129 rfl) (wk G 130 rfl) (wk G 3 rfl) (wk G 131 rfl) (by decide) pd15 rfl rfl (by rw [hml]; rfl) (Nat.le_of_ble_eq_true rfl) rfl rfl (by decide) (by decide) all0 (fun _ _ => sf0) (hb hby at_189) (k_v (pc' := 192) rfl ?_)
                  rintro _ h1802 ⟨r1804, rfl, rfl, f1805⟩ K1803
                  refine go_stC (pc' := 193) (i := 1) (x' := r1804) (vs' := [(.int r1794), (.int r1804), (.int (0 : Int32)), (.int (0 : Int32)), (.int (0 : Int32)), (.int (0 : Int32))]) A1798 (Nat.le_trans O0.2.1 (Nat.le_trans K1800.1 (Nat.le_of_eq g1787))) (by decide) (by decide) rfl (Nat.le_of_ble_eq_true rfl) (i2c_c8 f1805) rfl (hb hby at_192) rfl (fun h1806 W1807 A1808 => ?_)
                  refine go_dup (pc' := 194) (hb hby at_193) rfl rfl ?_
                  refine go_iconst (pc' := 195) (v := 2) (hb hby at_194) rfl rfl ?_
                  refine go_lload_n (pc' := 196) (hb hby at_195) rfl rfl ?_
                  refine go_iconst (pc' := 197) (v := 2) (hb hby at_196) rfl rfl ?_
                  refine go_old (fun O1809 => ?_)
                  refine callS0 (cells' := 4) (slots' := 58) (Wd := 5) (argsL := [(.long x3), (.int (2 : Int32))]) (rest := [(.int (2 : Int32)), (.ref a1786), (.ref a1786), (.ref a1779), (.ref a1779)]) (pay_of (a0 := a0) (c_byteat2 l G x3 h1806 O1809 ) (wk G 131 rfl) (wk G 3 rfl) (by decide) (by decide)) (wk G 129 rfl) (wk G 130 rfl) (wk G 3 rfl) (wk G 131 rfl) (by decide) pd15 rfl rfl (by rw [hml]; rfl) (Nat.le_of_ble_eq_true rfl) rfl rfl (by decide) (by decide) all0 (fun _ _ => sf0) (hb hby at_197) (k_v (pc' := 200) rfl ?_)
                  rintro _ h1810 ⟨r1812, rfl, rfl, f1813⟩ K1811
                  refine go_stC (pc' := 201) (i := 2) (x' := r1812) (vs' := [(.int r1794), (.int r1804), (.int r1812), (.int (0 : Int32)), (.int (0 : Int32)), (.int (0 : Int32))]) A1808 (Nat.le_trans O0.2.1 (Nat.le_trans K1800.1 (Nat.le_of_eq g1787))) (by decide) (by decide) rfl (Nat.le_of_ble_eq_true rfl) (i2c_c8 f1813) rfl (hb hby at_200) rfl (fun h1814 W1815 A1816 => ?_)
                  refine go_dup (pc' := 202) (hb hby at_201) rfl rfl ?_
                  refine go_iconst (pc' := 203) (v := 3) (hb hby at_202) rfl rfl ?_
                  refine go_lload_n (pc' := 204) (hb hby at_203) rfl rfl ?_
                  refine go_iconst (pc' := 205) (v := 3) (hb hby at_204) rfl rfl ?_
                  refine go_old (fun O1817 => ?_)
                  refine callS0 (cells' := 4) (slots' := 58) (Wd := 5) (argsL := [(.long x3), (.int (3 : Int32))]) (rest := [(.int (3 : Int32)), (.ref a1786), (.ref a1786), (.ref a1779), (.ref a1779)]) (pay_of (a0 := a0) (c_byteat3 l G x3 h1814 O1817 ) (wk G 131 rfl) (wk G 3 rfl) (by decide) (by decide)) (wk G 129 rfl) (wk G 130 rfl) (wk G 3 rfl) (wk G 131 rfl) (by decide) pd15 rfl rfl (by rw [hml]; rfl) (Nat.le_of_ble_eq_true rfl) rfl rfl (by decide) (by decide) all0 (fun _ _ => sf0) (hb hby at_205) (k_v (pc' := 208) rfl ?_)
                  rintro _ h1818 ⟨r1820, rfl, rfl, f1821⟩ K1819
                  refine go_stC (pc' := 209) (i := 3) (x' := r1820) (vs' := [(.int r1794), (.int r1804), (.int r1812), (.int r1820), (.int (0 : Int32)), (.int (0 : Int32))]) A1816 (Nat.le_trans O0.2.1 (Nat.le_trans K1800.1 (Nat.le_of_eq g1787))) (by decide) (by decide) rfl (Nat.le_of_ble_eq_true rfl) (i2c_c8 f1821) rfl (hb hby at_208) rfl (fun h1822 W1823 A1824 => ?_)
                  refine go_dup (pc' := 210) (hb hby at_209) rfl rfl ?_
                  refine go_iconst (pc' := 211) (v := 4) (hb hby at_210) rfl rfl ?_
                  refine go_lload_n (pc' := 212) (hb hby at_211) rfl rfl ?_
                  refine go_iconst (pc' := 213) (v := 4) (hb hby at_212) rfl rfl ?_
                  refine go_old (fun O1825 => ?_)
                  refine callS0 (cells' := 4) (slots' := 58) (Wd := 5) (argsL := [(.long x3), (.int (4 : Int32))]) (rest := [(.int (4 : Int32)), (.ref a1786), (.ref a1786), (.ref a1779), (.ref a1779)]) (pay_of (a0 := a0) (c_byteat4 l G x3 h1822 O1825 ) (wk G 131 rfl) (wk G 3 rfl) (by decide) (by decide)) (wk G 129 rfl) (wk G 130 rfl) (wk G 3 rfl) (wk G 131 rfl) (by decide) pd15 rfl rfl (by rw [hml]; rfl) (Nat.le_of_ble_eq_true rfl) rfl rfl (by decide) (by decide) all0 (fun _ _ => sf0) (hb hby at_213) (k_v (pc' := 216) rfl ?_)
                  rintro _ h1826 ⟨r1828, rfl, rfl, f1829⟩ K1827
                  refine go_stC (pc' := 217) (i := 4) (x' := r1828) (vs' := [(.int r1794), (.int r1804), (.int r1812), (.int r1820), (.int r1828), (.int (0 : Int32))]) A1824 (Nat.le_trans O0.2.1 (Nat.le_trans K1800.1 (Nat.le_of_eq g1787))) (by decide) (by decide) rfl (Nat.le_of_ble_eq_true rfl) (i2c_c8 f1829) rfl (hb hby at_216) rfl (fun h1830 W1831 A1832 => ?_)
                  refine go_dup (pc' := 218) (hb hby at_217) rfl rfl ?_
                  refine go_iconst (pc' := 219) (v := 5) (hb hby at_218) rfl rfl ?_
                  refine go_lload_n (pc' := 220) (hb hby at_219) rfl rfl ?_
                  refine go_iconst (pc' := 221) (v := 5) (hb hby at_220) rfl rfl ?_
                  refine go_old (fun O1833 => ?_)
                  refine callS0 (cells' := 4) (slots' := 58) (Wd := 5) (argsL := [(.long x3), (.int (5 : Int32))]) (rest := [(.int (5 : Int32)), (.ref a1786), (.ref a1786), (.ref a1779), (.ref a1779)]) (pay_of (a0 := a0) (c_byteat5 l G x3 h1830 O1833 ) (wk G 131 rfl) (wk G 3 rfl) (by decide) (by decide)) (wk G 129 rfl) (wk G 130 rfl) (wk G 3 rfl) (wk G 131 rfl) (by decide) pd15 rfl rfl (by rw [hml]; rfl) (Nat.le_of_ble_eq_true rfl) rfl rfl (by decide) (by decide) all0 (fun _ _ => sf0) (hb hby at_221) (k_v (pc' := 224) rfl ?_)
                  rintro _ h1834 ⟨r1836, rfl, rfl, f1837⟩ K1835
                  refine go_stC (pc' := 225) (i := 5) (x' := r1836) (vs' := [(.int r1794), (.int r1804), (.int r1812), (.int r1820), (.int r1828), (.int r1836)]) A1832 (Nat.le_trans O0.2.1 (Nat.le_trans K1800.1 (Nat.le_of_eq g1787))) (by decide) (by decide) rfl (Nat.le_of_ble_eq_true rfl) (i2c_c8 f1837) rfl (hb hby at_224) rfl (fun h1838 W1839 A1840 => ?_)
                  have K1841 : Keep h1778 h1785 [] := ((Keep.refl h1778 []).ext X1788)
                  have K1842 : Keep h1778 h1796 [] := (K1841.wr W1797 (Or.inr (Nat.le_of_eq g1787)))
                  have K1843 : Keep h1778 h1806 [] := (K1842.wr W1807 (Or.inr (Nat.le_of_eq g1787)))
                  have K1844 : Keep h1778 h1814 [] := (K1843.wr W1815 (Or.inr (Nat.le_of_eq g1787)))
                  have K1845 : Keep h1778 h1822 [] := (K1844.wr W1823 (Or.inr (Nat.le_of_eq g1787)))
                  have K1846 : Keep h1778 h1830 [] := (K1845.wr W1831 (Or.inr (Nat.le_of_eq g1787)))
                  have K1847 : Keep h1778 h1838 [] := (K1846.wr W1839 (Or.inr (Nat.le_of_eq g1787)))
                  have E1848 := (E1782.keep K1847)
                  have F1849 := D1783 (Or.inr (wk G 9 rfl)) (ty := (.array .byte)) (by decide)
                  have F1850 := (F1849.keep K1847 nin0)
                  have F1851 := D1783 (Or.inr (wk G 10 rfl)) (ty := .byte) (by decide)
                  have F1852 := (F1851.keep K1847 nin0)
                  refine go_old (fun O1853 => ?_)
                  refine callI0 (cells' := 5) (slots' := 64) (Wd := 1) (argsL := [(.ref a1786)]) (rest := [(.ref a1779)]) (pay_new G O1853 (cs := [r1794, r1804, r1812, r1820, r1828, r1836]) (n := 6) (Nat.le_trans O0.2.1 (Nat.le_trans K1799.1 (Nat.le_of_eq g1780))) E1848 F1850 F1852 A1840 rfl rfl (by decide) (by decide) (c8c f1795 (c8c f1805 (c8c f1813 (c8c f1821 (c8c f1829 (c8c f1837 c8n)))))) (by decide) (by decide)) rfl (wk G 113 rfl) (wk G 114 rfl) (wk G 115 rfl) (by decide) pd10 rfl rfl (by rw [hml]; rfl) (Nat.le_of_ble_eq_true rfl) rfl rfl (by decide) (by decide) (allS (Nat.le_trans O0.2.1 (Nat.le_trans K1799.1 (Nat.le_of_eq g1780))) all0) (fun _ hal => (sfS (safe_null hal E1848 F1850) sf0)) (hb hby at_225) (k_n (pc' := 228) rfl ?_)
                  rintro h1854 S1856 K1855
                  refine go_astore (pc' := 230) (ls' := #[.val (.int x0), .val (.int x1), .val (.int x2), .val (.long x3), .second, .val (.int (x0 &&& (7 : Int32))), .val (.ref r7), .val (.int (6 : Int32)), .val (.int ((x3 &&& (255 : Int64)).toInt32)), .val (.ref a1779)]) (hb hby at_228) rfl rfl rfl ?_
                  refine go_aload (pc' := 232) (hb hby at_230) rfl rfl rfl ?_
                  refine go_old (fun O1857 => ?_)
                  refine callS0 (cells' := 6) (slots' := 67) (Wd := 0) (argsL := [(.ref a1779)]) (rest := []) (pay_of (a0 := a0) (c_of l G a1779 [r1794, r1804, r1812, r1820, r1828, r1836] h1854 O1857 S1856) (wk G 30 rfl) (wk G 29 rfl) (by decide) (by decide)) (wk G 27 rfl) (wk G 28 rfl) (wk G 29 rfl) (wk G 30 rfl) (by decide) pd12 rfl rfl (by rw [hml]; rfl) (Nat.le_of_ble_eq_true rfl) rfl rfl (by decide) (by decide) all0 (fun _ _ => sf0) (hb hby at_232) (k_v (pc' := 235) rfl ?_)
                  rintro _ h1858 (⟨rfl, f1860⟩ | ⟨rfl, f1861⟩ | ⟨rfl, f1862⟩ | ⟨rfl, f1863, f1864, f1865⟩) K1859
                  · refine go_aload (pc' := 237) (hb hby at_235) rfl rfl rfl ?_
                    have K1866 : Keep h1854 h1858 [] := ((Keep.refl h1854 []).trans K1859 all0)
                    have S1867 := (S1856.keep K1866)
                    refine go_old (fun O1868 => ?_)
                    refine callSW0 rfl (cells' := 12) (slots' := 191) (Wd := 1) (argsL := [(.ref a1779)]) (rest := [(.ref (s_TRANSPARENT Z))]) (payW_of (a0 := a0) (c_expd l G a1779 [r1794, r1804, r1812, r1820, r1828, r1836] h1858 O1868 S1867) (wk G 64 rfl) (wk G 3 rfl) (by decide) (by decide) (ew1 G)) (wk G 62 rfl) (wk G 63 rfl) (wk G 3 rfl) (wk G 64 rfl) (by decide) pd12 rfl rfl (by rw [hml]; rfl) (Nat.le_of_ble_eq_true rfl) rfl rfl (by decide) (by decide) all0 (hb hby at_237) (k_v (pc' := 240) rfl ?_)
                    rintro _ h1869 (⟨rfl, f1871⟩ | ⟨rfl, f1872⟩ | ⟨rfl, f1873⟩ | ⟨rfl, f1874, f1875, f1876⟩) K1870
                    · refine go_acF (pc' := 243) (hb hby at_240) rfl rfl rfl (XT.aa_ne_f rfl) ?_
                      refine go_iconst (pc' := 244) (v := 1) (hb hby at_243) rfl rfl ?_
                      refine go_goto (pc' := 248) (hb hby at_244) (by decide) rfl ?_
                      have K1877 : Keep h0 h1785 [] := (K1800.ext X1788)
                      have K1878 : Keep h0 h1796 [] := (K1877.wr W1797 (Or.inr (Nat.le_trans K1800.1 (Nat.le_of_eq g1787))))
                      have K1879 : Keep h0 h1806 [] := (K1878.wr W1807 (Or.inr (Nat.le_trans K1800.1 (Nat.le_of_eq g1787))))
                      have K1880 : Keep h0 h1814 [] := (K1879.wr W1815 (Or.inr (Nat.le_trans K1800.1 (Nat.le_of_eq g1787))))
                      have K1881 : Keep h0 h1822 [] := (K1880.wr W1823 (Or.inr (Nat.le_trans K1800.1 (Nat.le_of_eq g1787))))
                      have K1882 : Keep h0 h1830 [] := (K1881.wr W1831 (Or.inr (Nat.le_trans K1800.1 (Nat.le_of_eq g1787))))
                      have K1883 : Keep h0 h1838 [] := (K1882.wr W1839 (Or.inr (Nat.le_trans K1800.1 (Nat.le_of_eq g1787))))
                      have K1884 : Keep h0 h1854 [] := (K1883.trans K1855 (allS (Or.inr (Nat.le_trans K1799.1 (Nat.le_of_eq g1780))) all0))
                      have K1885 : Keep h0 h1858 [] := (K1884.trans K1859 all0)
                      have K1886 : Keep h0 h1869 [] := (K1885.trans K1870 all0)
                      refine go_ireturn hret hlk rfl (by simp) (hb hby at_248) (by decide) (by decide) ⟨_, rfl, rfl⟩ K1886
                    · exact absurd (f1860.trans f1872) (by decide)
                    · exact absurd (f1860.trans f1873) (by decide)
                    · exact absurd f1860.symm f1874
                  · refine go_aload (pc' := 237) (hb hby at_235) rfl rfl rfl ?_
                    have K1887 : Keep h1854 h1858 [] := ((Keep.refl h1854 []).trans K1859 all0)
                    have S1888 := (S1856.keep K1887)
                    refine go_old (fun O1889 => ?_)
                    refine callSW0 rfl (cells' := 12) (slots' := 191) (Wd := 1) (argsL := [(.ref a1779)]) (rest := [(.ref (s_TRANSLUCENT Z))]) (payW_of (a0 := a0) (c_expd l G a1779 [r1794, r1804, r1812, r1820, r1828, r1836] h1858 O1889 S1888) (wk G 64 rfl) (wk G 3 rfl) (by decide) (by decide) (ew1 G)) (wk G 62 rfl) (wk G 63 rfl) (wk G 3 rfl) (wk G 64 rfl) (by decide) pd12 rfl rfl (by rw [hml]; rfl) (Nat.le_of_ble_eq_true rfl) rfl rfl (by decide) (by decide) all0 (hb hby at_237) (k_v (pc' := 240) rfl ?_)
                    rintro _ h1890 (⟨rfl, f1892⟩ | ⟨rfl, f1893⟩ | ⟨rfl, f1894⟩ | ⟨rfl, f1895, f1896, f1897⟩) K1891
                    · exact absurd (f1861.trans f1892) (by decide)
                    · refine go_acF (pc' := 243) (hb hby at_240) rfl rfl rfl (XT.aa_ne_f rfl) ?_
                      refine go_iconst (pc' := 244) (v := 1) (hb hby at_243) rfl rfl ?_
                      refine go_goto (pc' := 248) (hb hby at_244) (by decide) rfl ?_
                      have K1898 : Keep h0 h1785 [] := (K1800.ext X1788)
                      have K1899 : Keep h0 h1796 [] := (K1898.wr W1797 (Or.inr (Nat.le_trans K1800.1 (Nat.le_of_eq g1787))))
                      have K1900 : Keep h0 h1806 [] := (K1899.wr W1807 (Or.inr (Nat.le_trans K1800.1 (Nat.le_of_eq g1787))))
                      have K1901 : Keep h0 h1814 [] := (K1900.wr W1815 (Or.inr (Nat.le_trans K1800.1 (Nat.le_of_eq g1787))))
                      have K1902 : Keep h0 h1822 [] := (K1901.wr W1823 (Or.inr (Nat.le_trans K1800.1 (Nat.le_of_eq g1787))))
                      have K1903 : Keep h0 h1830 [] := (K1902.wr W1831 (Or.inr (Nat.le_trans K1800.1 (Nat.le_of_eq g1787))))
                      have K1904 : Keep h0 h1838 [] := (K1903.wr W1839 (Or.inr (Nat.le_trans K1800.1 (Nat.le_of_eq g1787))))
                      have K1905 : Keep h0 h1854 [] := (K1904.trans K1855 (allS (Or.inr (Nat.le_trans K1799.1 (Nat.le_of_eq g1780))) all0))
                      have K1906 : Keep h0 h1858 [] := (K1905.trans K1859 all0)
                      have K1907 : Keep h0 h1890 [] := (K1906.trans K1891 all0)
                      refine go_ireturn hret hlk rfl (by simp) (hb hby at_248) (by decide) (by decide) ⟨_, rfl, rfl⟩ K1907
                    · exact absurd (f1861.trans f1894) (by decide)
                    · exact absurd f1861.symm f1896
                  · refine go_aload (pc' := 237) (hb hby at_235) rfl rfl rfl ?_
                    have K1908 : Keep h1854 h1858 [] := ((Keep.refl h1854 []).trans K1859 all0)
                    have S1909 := (S1856.keep K1908)
                    refine go_old (fun O1910 => ?_)
                    refine callSW0 rfl (cells' := 12) (slots' := 191) (Wd := 1) (argsL := [(.ref a1779)]) (rest := [(.ref (s_OPAQUE Z))]) (payW_of (a0 := a0) (c_expd l G a1779 [r1794, r1804, r1812, r1820, r1828, r1836] h1858 O1910 S1909) (wk G 64 rfl) (wk G 3 rfl) (by decide) (by decide) (ew1 G)) (wk G 62 rfl) (wk G 63 rfl) (wk G 3 rfl) (wk G 64 rfl) (by decide) pd12 rfl rfl (by rw [hml]; rfl) (Nat.le_of_ble_eq_true rfl) rfl rfl (by decide) (by decide) all0 (hb hby at_237) (k_v (pc' := 240) rfl ?_)
                    rintro _ h1911 (⟨rfl, f1913⟩ | ⟨rfl, f1914⟩ | ⟨rfl, f1915⟩ | ⟨rfl, f1916, f1917, f1918⟩) K1912
                    · exact absurd (f1862.trans f1913) (by decide)
                    · exact absurd (f1862.trans f1914) (by decide)
                    · refine go_acF (pc' := 243) (hb hby at_240) rfl rfl rfl (XT.aa_ne_f rfl) ?_
                      refine go_iconst (pc' := 244) (v := 1) (hb hby at_243) rfl rfl ?_
                      refine go_goto (pc' := 248) (hb hby at_244) (by decide) rfl ?_
                      have K1919 : Keep h0 h1785 [] := (K1800.ext X1788)
                      have K1920 : Keep h0 h1796 [] := (K1919.wr W1797 (Or.inr (Nat.le_trans K1800.1 (Nat.le_of_eq g1787))))
                      have K1921 : Keep h0 h1806 [] := (K1920.wr W1807 (Or.inr (Nat.le_trans K1800.1 (Nat.le_of_eq g1787))))
                      have K1922 : Keep h0 h1814 [] := (K1921.wr W1815 (Or.inr (Nat.le_trans K1800.1 (Nat.le_of_eq g1787))))
                      have K1923 : Keep h0 h1822 [] := (K1922.wr W1823 (Or.inr (Nat.le_trans K1800.1 (Nat.le_of_eq g1787))))
                      have K1924 : Keep h0 h1830 [] := (K1923.wr W1831 (Or.inr (Nat.le_trans K1800.1 (Nat.le_of_eq g1787))))
                      have K1925 : Keep h0 h1838 [] := (K1924.wr W1839 (Or.inr (Nat.le_trans K1800.1 (Nat.le_of_eq g1787))))
                      have K1926 : Keep h0 h1854 [] := (K1925.trans K1855 (allS (Or.inr (Nat.le_trans K1799.1 (Nat.le_of_eq g1780))) all0))
                      have K1927 : Keep h0 h1858 [] := (K1926.trans K1859 all0)
                      have K1928 : Keep h0 h1911 [] := (K1927.trans K1912 all0)
                      refine go_ireturn hret hlk rfl (by simp) (hb hby at_248) (by decide) (by decide) ⟨_, rfl, rfl⟩ K1928
                    · exact absurd f1862.symm f1918
                  · refine go_aload (pc' := 237) (hb hby at_235) rfl rfl rfl ?_
                    have K1929 : Keep h1854 h1858 [] := ((Keep.refl h1854 []).trans K1859 all0)
                    have S1930 := (S1856.keep K1929)
                    refine go_old (fun O1931 => ?_)
                    refine callSW0 rfl (cells' := 12) (slots' := 191) (Wd := 1) (argsL := [(.ref a1779)]) (rest := [.null]) (payW_of (a0 := a0) (c_expd l G a1779 [r1794, r1804, r1812, r1820, r1828, r1836] h1858 O1931 S1930) (wk G 64 rfl) (wk G 3 rfl) (by decide) (by decide) (ew1 G)) (wk G 62 rfl) (wk G 63 rfl) (wk G 3 rfl) (wk G 64 rfl) (by decide) pd12 rfl rfl (by rw [hml]; rfl) (Nat.le_of_ble_eq_true rfl) rfl rfl (by decide) (by decide) all0 (hb hby at_237) (k_v (pc' := 240) rfl ?_)
                    rintro _ h1932 (⟨rfl, f1934⟩ | ⟨rfl, f1935⟩ | ⟨rfl, f1936⟩ | ⟨rfl, f1937, f1938, f1939⟩) K1933
                    · exact absurd f1934.symm f1863
                    · exact absurd f1935.symm f1864
                    · exact absurd f1936.symm f1865
                    · refine go_acF (pc' := 243) (hb hby at_240) rfl rfl rfl (XT.aa_ne_f rfl) ?_
                      refine go_iconst (pc' := 244) (v := 1) (hb hby at_243) rfl rfl ?_
                      refine go_goto (pc' := 248) (hb hby at_244) (by decide) rfl ?_
                      have K1940 : Keep h0 h1785 [] := (K1800.ext X1788)
                      have K1941 : Keep h0 h1796 [] := (K1940.wr W1797 (Or.inr (Nat.le_trans K1800.1 (Nat.le_of_eq g1787))))
                      have K1942 : Keep h0 h1806 [] := (K1941.wr W1807 (Or.inr (Nat.le_trans K1800.1 (Nat.le_of_eq g1787))))
                      have K1943 : Keep h0 h1814 [] := (K1942.wr W1815 (Or.inr (Nat.le_trans K1800.1 (Nat.le_of_eq g1787))))
                      have K1944 : Keep h0 h1822 [] := (K1943.wr W1823 (Or.inr (Nat.le_trans K1800.1 (Nat.le_of_eq g1787))))
                      have K1945 : Keep h0 h1830 [] := (K1944.wr W1831 (Or.inr (Nat.le_trans K1800.1 (Nat.le_of_eq g1787))))
                      have K1946 : Keep h0 h1838 [] := (K1945.wr W1839 (Or.inr (Nat.le_trans K1800.1 (Nat.le_of_eq g1787))))
                      have K1947 : Keep h0 h1854 [] := (K1946.trans K1855 (allS (Or.inr (Nat.le_trans K1799.1 (Nat.le_of_eq g1780))) all0))
                      have K1948 : Keep h0 h1858 [] := (K1947.trans K1859 all0)
                      have K1949 : Keep h0 h1932 [] := (K1948.trans K1933 all0)
                      refine go_ireturn hret hlk rfl (by simp) (hb hby at_248) (by decide) (by decide) ⟨_, rfl, rfl⟩ K1949
set_option maxRecDepth 65536 in
set_option maxHeartbeats 40000000 in
theorem comes_1 {Post : Tables → Env → Array Value → State → Outcome → State → Prop} (hpost : ∀ tb e args s v u, (limb_1_1.after args s (.returned v) u = true ∧ limb_1_2.after args s (.returned v) u = true ∧ True) → ReturnedEndW s (.returned v) u (Jvm.fieldLocs frame_1_writes args s ++ Jvm.arrayLocs frame_1_arrays args s ++ Jvm.staticLocs frame_1_statics s) 24 4288 → Post tb e args s (.returned v) u) :
    ArmFor flags0 classFile x code maxLocals ret World_1 tables_1 room_1 Calls_1 rest_1 Pre_1 Post := by
  intro l hfl _ _ p e ha hc hk s m args below hf hA hF happ hP
  obtain ⟨hcalls, hrest, hpre⟩ := hP
  obtain ⟨-, -, -, hnamed, -, -, -, hat⟩ := (Spec.applies_iff hf).mp happ
  obtain ⟨hg, hn⟩ := and_e (Cond.before_iff.mp (show (Jvm.Cond.and given_1 narrow_1).before args s = true from hpre))
  obtain ⟨h1, h2⟩ := and_e hg
  obtain ⟨w0, w1, w2, w3, rfl⟩ : ∃ w0 w1 w2 w3 : Value, args = #[w0, w1, w2, w3] := by
    have hs : args.size = 4 := by simpa [Cond.value, given_1] using h1
    obtain ⟨L⟩ := args
    match L, hs with
    | [w0, w1, w2, w3], _ => exact ⟨w0, w1, w2, w3, rfl⟩
  have hw := fun d (hd : d ∈ tables_1) => atoms_spec (ws := Jvm.Cond.code x code maxLocals ret :: tables_1) hat d (List.mem_cons_of_mem _ hd)
  obtain ⟨hsets, hown0⟩ := atoms_of _ (rest_1_c_eq ▸ (show rest_1_c.before _ s = true from hrest))
  have hfit : Fit s := fun {y c} hc i hi => by
    obtain ⟨ha, rfl⟩ := Array.getElem?_eq_some_iff.mp hc
    have q := List.all_eq_true.mp ((Array.all_eq_true_iff_forall_mem.mp hF) _ (Array.getElem_mem ha)) i (List.mem_range.mpr hi)
    simpa [Array.getElem?_eq_getElem hi] using q
  obtain ⟨q0, h2⟩ := and_e h2
  obtain ⟨i0, e0⟩ := is_v q0
  obtain rfl : w0 = (.int i0) := Option.some.inj e0
  obtain ⟨q1, h2⟩ := and_e h2
  obtain ⟨i1, e1⟩ := is_v q1
  obtain rfl : w1 = (.int i1) := Option.some.inj e1
  obtain ⟨q2, h2⟩ := and_e h2
  obtain ⟨i2, e2⟩ := is_v q2
  obtain rfl : w2 = (.int i2) := Option.some.inj e2
  have q3 := h2
  obtain ⟨i3, e3⟩ := isL_v q3
  obtain rfl : w3 = (.long i3) := Option.some.inj e3
  have hew : EW s #[(.int i0), (.int i1), (.int i2), (.long i3)] EL1 := (EW.cons (hw _ (List.mem_of_getElem? (i := 5) rfl)) (by decide) (EW.cons (hw _ (List.mem_of_getElem? (i := 67) rfl)) (by decide) (EW.cons (hw _ (List.mem_of_getElem? (i := 83) rfl)) (by decide) (EW.cons (hw _ (List.mem_of_getElem? (i := 134) rfl)) (by decide) EW.nil))))
  have G : GH s #[(.int i0), (.int i1), (.int i2), (.long i3)] := ⟨hw, hsets, hew, hn, hfit⟩
  obtain ⟨n, o, h1, h2, h3, v, L, rfl, ⟨⟨_, rfl, hv⟩, N, -⟩, hC, -⟩ := c_law l G i0 i1 i2 i3 s.heap (Old.start s) p e ha hc hk s m _ below hf ((Spec.applies_iff_loose hf).mp happ).1 ⟨rfl, State.Warmed39.refl s, rfl, (fun _ => CHv.start (a0 := _) hew (fun q hq => held_of (hcalls.1 q hq)) (hsets _ (List.mem_of_getElem? (i := 2) rfl)) (hw _ (List.mem_of_getElem? (i := 8) rfl)) (hw _ (List.mem_of_getElem? (i := 7) rfl)))⟩ trivial
  subst hv
  have hq := (hC rfl).2
  refine ⟨n, _, h1, h2, h3, hpost _ _ _ _ _ _ ⟨Cond.after_iff.mpr rfl, Cond.after_iff.mpr (eq_i res_at (Term.int_eval (1)) rfl), trivial⟩ ⟨hq.1, hq.2.1, hq.2.2.1, (hq.2.2.2.sift fun y hy => Or.inr (N y hy)).mono (by decide) (by decide)⟩⟩
theorem main_1_1 : Claimed_1_1 := comes_1 fun _ _ _ _ _ _ h hF => ⟨h.1, hF⟩
theorem main_1_2 : Claimed_1_2 := comes_1 fun _ _ _ _ _ _ h hF => ⟨h.2.1, hF⟩
end Jvm.Pilot.@@N@@
namespace Jvm.Pilot.@@N@@
open Jvm Jvm.ClassFile Sem Op Lib Jvm.Free Jvm.Stand Jvm.Pilot.@@N@@.Jvm.D
/-! MADE BY PROGRAM (witnessworld.py) out of the Statement's table words and the real class files: 22 classes; the members and pool entries that the words name. The judged class is class 1, her method 1. -/
namespace start1
open Jvm.ClassFile
def u (s : String) : CpInfo := .utf8 (stringToUtf16 s)
/-- a pool by its gaps: so many unusable entries, then the entry; so many at the end -/
def gap : Nat → List CpInfo → List CpInfo
  | 0, r => r
  | n + 1, r => .unusable :: gap n r
def poolList (es : List (Nat × CpInfo)) (last : Nat) : List CpInfo := es.foldr (fun e r => gap e.1 (e.2 :: r)) (gap last [])
def pool (es : List (Nat × CpInfo)) (last : Nat) : Array CpInfo := ⟨poolList es last⟩
def fileOf (pool : Array CpInfo) (this : Nat) (attrs : Array Attribute := #[]) (ms : Array MethodInfo := #[]) (fl : Nat := 33) (sup : Nat := 0) (ifs : Array Nat := #[]) (fds : Array FieldInfo := #[]) : ClassFile where
  minorVersion := 0
  majorVersion := 65
  constantPool := pool
  accessFlags := fl
  thisClass := this
  superClass := sup
  interfaces := ifs
  fields := fds
  methods := ms
  attributes := attrs
def plain (name : String) (sup : Option ClassId) : Class where
  name := name
  kind := .ordinary
  loader := none
  accessFlags := 33
  super := sup
  interfaces := #[]
  cf := none
  fields := #[]
  methods := #[]
  instanceTypes := #[]
  staticTypes := #[]
  resolved := #[]
  callSites := []
  init := .initialized
  statics := none
  mirror := none

def pool0 : Array CpInfo := pool [(5, u "<init>"), (0, u "()V"), (1, .class_ 10), (1, u "java/lang/Object"), (85, u "clone"), (0, u "()Ljava/lang/Object;")] 26

def k0c0 : Code := { maxStack := 0, maxLocals := 1, code := object_method_1_code, exceptionTable := #[], attributes := #[] }
def k0m0 : Method := { name := "<init>", desc := "()V", sig := { parameters := [], returnType := none }, accessFlags := 1, code := some k0c0 }
def k0m1 : Method := { name := "clone", desc := "()Ljava/lang/Object;", sig := { parameters := [], returnType := some (.object "java/lang/Object") }, accessFlags := 260, code := none }
/-- java/lang/Object -/
def k0 : Class := { plain "java/lang/Object" none with
  accessFlags := 33
  interfaces := #[]
  cf := some (fileOf pool0 8 #[] #[{ accessFlags := 1, nameIndex := 5, descriptorIndex := 6, attributes := #[] }, { accessFlags := 260, nameIndex := 96, descriptorIndex := 97, attributes := #[] }] 33 0 #[] #[])
  fields := #[]
  methods := #[k0m0, k0m1]
  instanceTypes := #[]
  staticTypes := #[]
  resolved := Array.replicate 124 none
  statics := none }

def pool1 : Array CpInfo := pool [(2, .class_ 4), (1, u "java/lang/Object"), (0, u "<init>"), (0, u "()V"), (0, .integer 2147483647), (0, .methodref 9 10), (0, .class_ 11), (0, .nameAndType 12 13), (0, u "com/example/ispol/ispol/walls/TransparencyOfPinLaw"), (0, u "word"), (0, u "(I)Ljava/lang/String;"), (0, .methodref 15 16), (0, .class_ 17), (0, .nameAndType 18 19), (0, u "java/lang/String"), (0, u "length"), (0, u "()I"), (0, .long 255), (1, .methodref 9 23), (0, .nameAndType 24 25), (0, u "edit"), (0, u "(Ljava/lang/String;IIC)Ljava/lang/String;"), (0, .methodref 15 27), (0, .nameAndType 28 29), (0, u "valueOf"), (0, u "(C)Ljava/lang/String;"), (0, .methodref 15 31), (0, .nameAndType 5 32), (0, u "([C)V"), (0, .methodref 9 34), (0, .nameAndType 35 36), (0, u "byteAt"), (0, u "(JI)C"), (0, .methodref 38 39), (0, .class_ 40), (0, .nameAndType 41 42), (0, u "com/example/ispol/ispol/walls/Transparency"), (0, u "of"), (0, u "(Ljava/lang/String;)Lcom/example/ispol/ispol/walls/Transparency;"), (0, .methodref 9 44), (0, .nameAndType 45 42), (0, u "expected"), (0, .string 47), (0, u "transparent"), (0, .string 49), (0, u "translucent"), (0, .string 51), (0, u "opaque"), (0, .methodref 15 53), (0, .nameAndType 54 55), (0, u "equals"), (0, u "(Ljava/lang/Object;)Z"), (0, .fieldref 38 57), (0, .nameAndType 58 59), (0, u "TRANSPARENT"), (0, u "Lcom/example/ispol/ispol/walls/Transparency;"), (0, .fieldref 38 61), (0, .nameAndType 62 59), (0, u "TRANSLUCENT"), (0, .fieldref 38 64), (0, .nameAndType 65 59), (0, u "OPAQUE"), (0, .methodref 15 67), (0, .nameAndType 68 69), (0, u "charAt"), (0, u "(I)C"), (0, .methodref 9 71), (0, .nameAndType 72 73), (0, u "at"), (0, u "(Ljava/lang/String;IIC)C"), (2, u "law"), (0, u "(IIIJ)Z")] 3

def k1m0 : Method := { name := "<init>", desc := "()V", sig := { parameters := [], returnType := none }, accessFlags := 2, code := none }
def k1c1 : Code := { maxStack := 8, maxLocals := 10, code := code, exceptionTable := #[], attributes := #[] }
def k1m1 : Method := { name := "law", desc := "(IIIJ)Z", sig := { parameters := [.int, .int, .int, .long], returnType := some .boolean }, accessFlags := 9, code := some k1c1 }
def k1c2 : Code := { maxStack := 4, maxLocals := 3, code := method_3_code, exceptionTable := #[], attributes := #[] }
def k1m2 : Method := { name := "byteAt", desc := "(JI)C", sig := { parameters := [.long, .int], returnType := some .char }, accessFlags := 10, code := some k1c2 }
def k1c3 : Code := { maxStack := 2, maxLocals := 1, code := method_4_code, exceptionTable := #[], attributes := #[] }
def k1m3 : Method := { name := "word", desc := "(I)Ljava/lang/String;", sig := { parameters := [.int], returnType := some (.object "java/lang/String") }, accessFlags := 10, code := some k1c3 }
def k1c4 : Code := { maxStack := 2, maxLocals := 1, code := method_5_code, exceptionTable := #[], attributes := #[] }
def k1m4 : Method := { name := "expected", desc := "(Ljava/lang/String;)Lcom/example/ispol/ispol/walls/Transparency;", sig := { parameters := [(.object "java/lang/String")], returnType := some (.object "com/example/ispol/ispol/walls/Transparency") }, accessFlags := 10, code := some k1c4 }
def k1c5 : Code := { maxStack := 2, maxLocals := 4, code := method_6_code, exceptionTable := #[], attributes := #[] }
def k1m5 : Method := { name := "at", desc := "(Ljava/lang/String;IIC)C", sig := { parameters := [(.object "java/lang/String"), .int, .int, .char], returnType := some .char }, accessFlags := 10, code := some k1c5 }
def k1c6 : Code := { maxStack := 6, maxLocals := 16, code := method_7_code, exceptionTable := #[], attributes := #[] }
def k1m6 : Method := { name := "edit", desc := "(Ljava/lang/String;IIC)Ljava/lang/String;", sig := { parameters := [(.object "java/lang/String"), .int, .int, .char], returnType := some (.object "java/lang/String") }, accessFlags := 10, code := some k1c6 }
/-- com/example/ispol/ispol/walls/TransparencyOfPinLaw -/
def k1 : Class := { plain "com/example/ispol/ispol/walls/TransparencyOfPinLaw" (some 0) with
  accessFlags := 49
  interfaces := #[]
  cf := some (fileOf pool1 9 #[] #[{ accessFlags := 2, nameIndex := 5, descriptorIndex := 6, attributes := #[] }, { accessFlags := 9, nameIndex := 76, descriptorIndex := 77, attributes := #[] }, { accessFlags := 10, nameIndex := 35, descriptorIndex := 36, attributes := #[] }, { accessFlags := 10, nameIndex := 12, descriptorIndex := 13, attributes := #[] }, { accessFlags := 10, nameIndex := 45, descriptorIndex := 42, attributes := #[] }, { accessFlags := 10, nameIndex := 72, descriptorIndex := 73, attributes := #[] }, { accessFlags := 10, nameIndex := 24, descriptorIndex := 25, attributes := #[] }] 49 2 #[] #[])
  fields := #[]
  methods := #[k1m0, k1m1, k1m2, k1m3, k1m4, k1m5, k1m6]
  instanceTypes := #[]
  staticTypes := #[]
  resolved := Array.replicate 81 none
  statics := none }

def pool2 : Array CpInfo := pool [(1, .class_ 2), (0, u "java/io/Serializable"), (0, .class_ 4), (0, u "java/lang/Object")] 2

/-- java/io/Serializable -/
def k2 : Class := { plain "java/io/Serializable" (some 0) with
  accessFlags := 1537
  interfaces := #[]
  cf := some (fileOf pool2 1 #[] #[] 1537 3 #[] #[])
  fields := #[]
  methods := #[]
  instanceTypes := #[]
  staticTypes := #[]
  resolved := Array.replicate 7 none
  statics := none }

def pool3 : Array CpInfo := pool [(1, .class_ 2), (0, u "java/lang/Comparable"), (0, .class_ 4), (0, u "java/lang/Object")] 7

/-- java/lang/Comparable -/
def k3 : Class := { plain "java/lang/Comparable" (some 0) with
  accessFlags := 1537
  interfaces := #[]
  cf := some (fileOf pool3 1 #[] #[] 1537 3 #[] #[])
  fields := #[]
  methods := #[]
  instanceTypes := #[]
  staticTypes := #[]
  resolved := Array.replicate 12 none
  statics := none }

def pool4 : Array CpInfo := pool [(2, .class_ 4), (1, u "java/lang/CharSequence"), (42, .class_ 48), (0, u "java/lang/CharSequence$1CodePointIterator"), (10, .class_ 60), (0, u "java/lang/CharSequence$1CharIterator"), (5, .class_ 67), (0, u "java/lang/Object")] 63

/-- java/lang/CharSequence -/
def k4 : Class := { plain "java/lang/CharSequence" (some 0) with
  accessFlags := 1537
  interfaces := #[]
  cf := some (fileOf pool4 2 #[.nestMembers #[47, 59]] #[] 1537 66 #[] #[])
  fields := #[]
  methods := #[]
  instanceTypes := #[]
  staticTypes := #[]
  resolved := Array.replicate 131 none
  statics := none }

def pool5 : Array CpInfo := pool [(1, .class_ 2), (0, u "java/lang/constant/Constable"), (0, .class_ 4), (0, u "java/lang/Object")] 6

/-- java/lang/constant/Constable -/
def k5 : Class := { plain "java/lang/constant/Constable" (some 0) with
  accessFlags := 1537
  interfaces := #[]
  cf := some (fileOf pool5 1 #[] #[] 1537 3 #[] #[])
  fields := #[]
  methods := #[]
  instanceTypes := #[]
  staticTypes := #[]
  resolved := Array.replicate 11 none
  statics := none }

def pool6 : Array CpInfo := pool [(1, .class_ 2), (0, u "java/lang/constant/ConstantDesc"), (0, .class_ 4), (0, u "java/lang/Object")] 32

/-- java/lang/constant/ConstantDesc -/
def k6 : Class := { plain "java/lang/constant/ConstantDesc" (some 0) with
  accessFlags := 1537
  interfaces := #[]
  cf := some (fileOf pool6 1 #[] #[] 1537 3 #[] #[])
  fields := #[]
  methods := #[]
  instanceTypes := #[]
  staticTypes := #[]
  resolved := Array.replicate 37 none
  statics := none }

def pool7 : Array CpInfo := pool [(1, .methodref 2 3), (0, .class_ 4), (0, .nameAndType 5 6), (0, u "java/lang/Object"), (0, u "<init>"), (0, u "()V"), (0, .string 8), (0, u ""), (0, .fieldref 10 11), (0, .class_ 12), (0, .nameAndType 13 14), (0, u "java/lang/String"), (0, u "value"), (0, u "[B"), (0, .fieldref 10 16), (0, .nameAndType 17 18), (0, u "coder"), (0, u "B"), (2, u "hash"), (0, u "I"), (2, u "hashIsZero"), (0, u "Z"), (0, .methodref 10 28), (0, .nameAndType 5 29), (0, u "([CIILjava/lang/Void;)V"), (8, .fieldref 10 39), (0, .nameAndType 40 26), (0, u "COMPACT_STRINGS"), (1, .class_ 44), (1, u "java/lang/StringUTF16"), (0, u "compress"), (1, .methodref 42 48), (0, .nameAndType 49 50), (0, u "coderFromArrayLen"), (0, u "([BI)B"), (2, u "toBytes"), (53, .class_ 109), (1, u "java/lang/StringLatin1"), (32, u "()Z"), (34, .methodref 42 178), (0, .nameAndType 45 179), (0, u "([CII)[B"), (29, .methodref 10 210), (0, .nameAndType 5 211), (0, u "([BB)V"), (122, u "()I"), (0, .methodref 10 336), (0, .nameAndType 17 337), (0, u "()B"), (25, u "([BI)C"), (5, u "(C)Z"), (21, u "(II)V"), (35, u "(I)C"), (64, .methodref 10 493), (0, .nameAndType 494 142), (0, u "isLatin1"), (0, .methodref 107 496), (0, .nameAndType 497 363), (0, u "charAt"), (3, u "checkIndex"), (5, u "length"), (33, .methodref 107 542), (0, .nameAndType 543 544), (0, u "equals"), (0, u "([B[B)Z"), (28, u "(Ljava/lang/Object;)Z"), (1, .class_ 576), (0, u "java/lang/CharSequence"), (22, u "CASE_INSENSITIVE_ORDER"), (0, u "Ljava/util/Comparator;"), (181, u "valueOf"), (0, u "(C)Ljava/lang/String;"), (226, u "([C)V"), (4, .methodref 107 1016), (0, .nameAndType 1017 369), (0, u "canEncode"), (0, .methodref 107 1019), (0, .nameAndType 53 1020), (0, u "(C)[B"), (32, .fieldref 1054 1055), (0, .class_ 1056), (0, .nameAndType 1057 1058), (0, u "jdk/internal/util/Preconditions"), (0, u "SIOOBE_FORMATTER"), (0, u "Ljava/util/function/BiFunction;"), (0, .methodref 1054 1060), (0, .nameAndType 501 1061), (0, u "(IILjava/util/function/BiFunction;)I"), (39, u "serialPersistentFields"), (0, u "[Ljava/io/ObjectStreamField;"), (0, .class_ 1104), (0, u "java/lang/String$CaseInsensitiveComparator"), (1, .class_ 1107), (0, u "java/io/Serializable"), (0, .class_ 1109), (0, u "java/lang/Comparable"), (0, .class_ 1111), (0, u "java/lang/constant/Constable"), (0, .class_ 1113), (0, u "java/lang/constant/ConstantDesc"), (2, u "serialVersionUID"), (0, u "J"), (3, u "REPL"), (0, u "C"), (2, u "LATIN1"), (1, u "UTF16")] 323

def k7m0 : Method := { name := "<init>", desc := "()V", sig := { parameters := [], returnType := none }, accessFlags := 1, code := none }
def k7c1 : Code := { maxStack := 5, maxLocals := 2, code := jdk_42_method_3_code, exceptionTable := #[], attributes := #[] }
def k7m1 : Method := { name := "<init>", desc := "([C)V", sig := { parameters := [(.array .char)], returnType := none }, accessFlags := 1, code := some k7c1 }
def k7c2 : Code := { maxStack := 2, maxLocals := 1, code := jdk_42_method_54_code, exceptionTable := #[], attributes := #[] }
def k7m2 : Method := { name := "length", desc := "()I", sig := { parameters := [], returnType := some .int }, accessFlags := 1, code := some k7c2 }
def k7c3 : Code := { maxStack := 2, maxLocals := 2, code := jdk_42_method_56_code, exceptionTable := #[], attributes := #[] }
def k7m3 : Method := { name := "charAt", desc := "(I)C", sig := { parameters := [.int], returnType := some .char }, accessFlags := 1, code := some k7c3 }
def k7c4 : Code := { maxStack := 2, maxLocals := 3, code := jdk_42_method_66_code, exceptionTable := #[], attributes := #[] }
def k7m4 : Method := { name := "equals", desc := "(Ljava/lang/Object;)Z", sig := { parameters := [(.object "java/lang/Object")], returnType := some .boolean }, accessFlags := 1, code := some k7c4 }
def k7c5 : Code := { maxStack := 4, maxLocals := 1, code := jdk_42_method_139_code, exceptionTable := #[], attributes := #[] }
def k7m5 : Method := { name := "valueOf", desc := "(C)Ljava/lang/String;", sig := { parameters := [.char], returnType := some (.object "java/lang/String") }, accessFlags := 9, code := some k7c5 }
def k7c6 : Code := { maxStack := 4, maxLocals := 6, code := jdk_42_method_149_code, exceptionTable := #[], attributes := #[] }
def k7m6 : Method := { name := "<init>", desc := "([CIILjava/lang/Void;)V", sig := { parameters := [(.array .char), .int, .int, (.object "java/lang/Void")], returnType := none }, accessFlags := 2, code := some k7c6 }
def k7c7 : Code := { maxStack := 2, maxLocals := 3, code := jdk_42_method_151_code, exceptionTable := #[], attributes := #[] }
def k7m7 : Method := { name := "<init>", desc := "([BB)V", sig := { parameters := [(.array .byte), .byte], returnType := none }, accessFlags := 0, code := some k7c7 }
def k7c8 : Code := { maxStack := 1, maxLocals := 1, code := jdk_42_method_152_code, exceptionTable := #[], attributes := #[] }
def k7m8 : Method := { name := "coder", desc := "()B", sig := { parameters := [], returnType := some .byte }, accessFlags := 0, code := some k7c8 }
def k7c9 : Code := { maxStack := 1, maxLocals := 1, code := jdk_42_method_154_code, exceptionTable := #[], attributes := #[] }
def k7m9 : Method := { name := "isLatin1", desc := "()Z", sig := { parameters := [], returnType := some .boolean }, accessFlags := 0, code := some k7c9 }
def k7c10 : Code := { maxStack := 3, maxLocals := 2, code := jdk_42_method_155_code, exceptionTable := #[], attributes := #[] }
def k7m10 : Method := { name := "checkIndex", desc := "(II)V", sig := { parameters := [.int, .int], returnType := none }, accessFlags := 8, code := some k7c10 }
/-- java/lang/String -/
def k7 : Class := { plain "java/lang/String" (some 0) with
  accessFlags := 49
  interfaces := #[2, 3, 4, 5, 6]
  cf := some (fileOf pool7 10 #[.nestMembers #[1103]] #[{ accessFlags := 1, nameIndex := 5, descriptorIndex := 6, attributes := #[] }, { accessFlags := 1, nameIndex := 5, descriptorIndex := 1010, attributes := #[] }, { accessFlags := 1, nameIndex := 507, descriptorIndex := 334, attributes := #[] }, { accessFlags := 1, nameIndex := 497, descriptorIndex := 427, attributes := #[] }, { accessFlags := 1, nameIndex := 543, descriptorIndex := 573, attributes := #[] }, { accessFlags := 9, nameIndex := 782, descriptorIndex := 783, attributes := #[] }, { accessFlags := 2, nameIndex := 5, descriptorIndex := 29, attributes := #[] }, { accessFlags := 0, nameIndex := 5, descriptorIndex := 211, attributes := #[] }, { accessFlags := 0, nameIndex := 17, descriptorIndex := 337, attributes := #[] }, { accessFlags := 0, nameIndex := 494, descriptorIndex := 142, attributes := #[] }, { accessFlags := 8, nameIndex := 501, descriptorIndex := 391, attributes := #[] }] 49 2 #[1106, 1108, 575, 1110, 1112] #[{ accessFlags := 18, nameIndex := 13, descriptorIndex := 14, attributes := #[] }, { accessFlags := 18, nameIndex := 17, descriptorIndex := 18, attributes := #[] }, { accessFlags := 2, nameIndex := 21, descriptorIndex := 22, attributes := #[] }, { accessFlags := 2, nameIndex := 25, descriptorIndex := 26, attributes := #[] }, { accessFlags := 26, nameIndex := 1116, descriptorIndex := 1117, attributes := #[] }, { accessFlags := 24, nameIndex := 40, descriptorIndex := 26, attributes := #[] }, { accessFlags := 26, nameIndex := 1101, descriptorIndex := 1102, attributes := #[] }, { accessFlags := 26, nameIndex := 1121, descriptorIndex := 1122, attributes := #[] }, { accessFlags := 25, nameIndex := 599, descriptorIndex := 600, attributes := #[] }, { accessFlags := 24, nameIndex := 1125, descriptorIndex := 18, attributes := #[] }, { accessFlags := 24, nameIndex := 1127, descriptorIndex := 18, attributes := #[] }])
  fields := #[{ name := "value", type := (.array .byte), accessFlags := 18, slot := 0, constantValue := 0 }, { name := "coder", type := .byte, accessFlags := 18, slot := 1, constantValue := 0 }, { name := "hash", type := .int, accessFlags := 2, slot := 2, constantValue := 0 }, { name := "hashIsZero", type := .boolean, accessFlags := 2, slot := 3, constantValue := 0 }, { name := "serialVersionUID", type := .long, accessFlags := 26, slot := 0, constantValue := 0 }, { name := "COMPACT_STRINGS", type := .boolean, accessFlags := 24, slot := 1, constantValue := 0 }, { name := "serialPersistentFields", type := (.array (.object "java/io/ObjectStreamField")), accessFlags := 26, slot := 2, constantValue := 0 }, { name := "REPL", type := .char, accessFlags := 26, slot := 3, constantValue := 0 }, { name := "CASE_INSENSITIVE_ORDER", type := (.object "java/util/Comparator"), accessFlags := 25, slot := 4, constantValue := 0 }, { name := "LATIN1", type := .byte, accessFlags := 24, slot := 5, constantValue := 0 }, { name := "UTF16", type := .byte, accessFlags := 24, slot := 6, constantValue := 0 }]
  methods := #[k7m0, k7m1, k7m2, k7m3, k7m4, k7m5, k7m6, k7m7, k7m8, k7m9, k7m10]
  instanceTypes := #[(.array .byte), .byte, .int, .boolean]
  staticTypes := #[.long, .boolean, (.array (.object "java/io/ObjectStreamField")), .char, (.object "java/util/Comparator"), .byte, .byte]
  resolved := Array.replicate 1451 none
  statics := some 0 }

def pool8 : Array CpInfo := pool [(2, .class_ 4), (1, u "java/lang/Enum"), (0, u "name"), (0, u "Ljava/lang/String;"), (2, u "ordinal"), (0, u "I"), (1, .class_ 14), (1, u "java/lang/Object"), (4, u "hash"), (86, .class_ 108), (1, u "java/lang/Enum$EnumDesc"), (2, .class_ 112), (0, u "java/lang/constant/Constable"), (0, .class_ 114), (0, u "java/lang/Comparable"), (0, .class_ 116), (0, u "java/io/Serializable")] 87

/-- java/lang/Enum -/
def k8 : Class := { plain "java/lang/Enum" (some 0) with
  accessFlags := 1057
  interfaces := #[5, 3, 2]
  cf := some (fileOf pool8 2 #[.nestMembers #[106]] #[] 1057 12 #[111, 113, 115] #[{ accessFlags := 18, nameIndex := 5, descriptorIndex := 6, attributes := #[] }, { accessFlags := 18, nameIndex := 9, descriptorIndex := 10, attributes := #[] }, { accessFlags := 2, nameIndex := 19, descriptorIndex := 10, attributes := #[] }])
  fields := #[{ name := "name", type := (.object "java/lang/String"), accessFlags := 18, slot := 0, constantValue := 0 }, { name := "ordinal", type := .int, accessFlags := 18, slot := 1, constantValue := 0 }, { name := "hash", type := .int, accessFlags := 2, slot := 2, constantValue := 0 }]
  methods := #[]
  instanceTypes := #[(.object "java/lang/String"), .int, .int]
  staticTypes := #[]
  resolved := Array.replicate 204 none
  statics := none }

def pool9 : Array CpInfo := pool [(1, .class_ 2), (0, u "com/example/ispol/ispol/walls/Transparency"), (2, u "TRANSPARENT"), (0, u "Lcom/example/ispol/ispol/walls/Transparency;"), (2, u "TRANSLUCENT"), (2, u "OPAQUE"), (0, .fieldref 1 14), (0, .nameAndType 15 16), (0, u "$VALUES"), (0, u "[Lcom/example/ispol/ispol/walls/Transparency;"), (0, .methodref 18 19), (0, .class_ 16), (0, .nameAndType 20 21), (0, u "clone"), (0, u "()Ljava/lang/Object;"), (1, .class_ 25), (1, u "java/lang/Enum"), (6, .fieldref 1 33), (0, .nameAndType 34 35), (0, u "word"), (0, u "Ljava/lang/String;"), (0, .methodref 1 37), (0, .nameAndType 38 39), (0, u "values"), (0, u "()[Lcom/example/ispol/ispol/walls/Transparency;"), (0, .methodref 41 42), (0, .class_ 43), (0, .nameAndType 44 45), (0, u "java/lang/String"), (0, u "equals"), (0, u "(Ljava/lang/Object;)Z"), (17, u "(Ljava/lang/String;)Lcom/example/ispol/ispol/walls/Transparency;"), (3, u "of")] 8

def k9c0 : Code := { maxStack := 1, maxLocals := 0, code := prog_21_method_1_code, exceptionTable := #[], attributes := #[] }
def k9m0 : Method := { name := "values", desc := "()[Lcom/example/ispol/ispol/walls/Transparency;", sig := { parameters := [], returnType := some (.array (.object "com/example/ispol/ispol/walls/Transparency")) }, accessFlags := 9, code := some k9c0 }
def k9c1 : Code := { maxStack := 2, maxLocals := 6, code := prog_21_method_4_code, exceptionTable := #[], attributes := #[] }
def k9m1 : Method := { name := "of", desc := "(Ljava/lang/String;)Lcom/example/ispol/ispol/walls/Transparency;", sig := { parameters := [(.object "java/lang/String")], returnType := some (.object "com/example/ispol/ispol/walls/Transparency") }, accessFlags := 8, code := some k9c1 }
/-- com/example/ispol/ispol/walls/Transparency -/
def k9 : Class := { plain "com/example/ispol/ispol/walls/Transparency" (some 8) with
  accessFlags := 16432
  interfaces := #[]
  cf := some (fileOf pool9 1 #[] #[{ accessFlags := 9, nameIndex := 38, descriptorIndex := 39, attributes := #[] }, { accessFlags := 8, nameIndex := 67, descriptorIndex := 63, attributes := #[] }] 16432 23 #[] #[{ accessFlags := 16409, nameIndex := 5, descriptorIndex := 6, attributes := #[] }, { accessFlags := 16409, nameIndex := 9, descriptorIndex := 6, attributes := #[] }, { accessFlags := 16409, nameIndex := 12, descriptorIndex := 6, attributes := #[] }, { accessFlags := 18, nameIndex := 34, descriptorIndex := 35, attributes := #[] }, { accessFlags := 4122, nameIndex := 15, descriptorIndex := 16, attributes := #[] }])
  fields := #[{ name := "TRANSPARENT", type := (.object "com/example/ispol/ispol/walls/Transparency"), accessFlags := 16409, slot := 0, constantValue := 0 }, { name := "TRANSLUCENT", type := (.object "com/example/ispol/ispol/walls/Transparency"), accessFlags := 16409, slot := 1, constantValue := 0 }, { name := "OPAQUE", type := (.object "com/example/ispol/ispol/walls/Transparency"), accessFlags := 16409, slot := 2, constantValue := 0 }, { name := "word", type := (.object "java/lang/String"), accessFlags := 18, slot := 3, constantValue := 0 }, { name := "$VALUES", type := (.array (.object "com/example/ispol/ispol/walls/Transparency")), accessFlags := 4122, slot := 3, constantValue := 0 }]
  methods := #[k9m0, k9m1]
  instanceTypes := #[(.object "java/lang/String"), .int, .int, (.object "java/lang/String")]
  staticTypes := #[(.object "com/example/ispol/ispol/walls/Transparency"), (.object "com/example/ispol/ispol/walls/Transparency"), (.object "com/example/ispol/ispol/walls/Transparency"), (.array (.object "com/example/ispol/ispol/walls/Transparency"))]
  resolved := Array.replicate 76 none
  statics := some 1 }

def pool10 : Array CpInfo := pool [(1, .class_ 2), (0, u "java/lang/Cloneable"), (0, .class_ 4), (0, u "java/lang/Object")] 2

/-- java/lang/Cloneable -/
def k10 : Class := { plain "java/lang/Cloneable" (some 0) with
  accessFlags := 1537
  interfaces := #[]
  cf := some (fileOf pool10 1 #[] #[] 1537 3 #[] #[])
  fields := #[]
  methods := #[]
  instanceTypes := #[]
  staticTypes := #[]
  resolved := Array.replicate 7 none
  statics := none }

def pool11 : Array CpInfo := pool [(1, .class_ 2), (0, u "java/lang/String"), (1, .class_ 6), (1, u "java/lang/Object"), (0, u "<init>"), (0, u "()V"), (0, .methodref 1 10), (0, .nameAndType 11 12), (0, u "checkIndex"), (0, u "(II)V"), (1, .class_ 16), (1, u "java/lang/StringLatin1"), (36, u "([BI)C"), (36, u "canEncode"), (14, u "(C)Z"), (15, u "$assertionsDisabled"), (0, u "Z"), (98, .class_ 223), (1, u "java/lang/StringLatin1$LinesSpliterator"), (28, u "charAt"), (28, u "equals"), (0, u "([B[B)Z"), (97, u "toBytes"), (1, u "(C)[B"), (7, .class_ 391), (0, u "java/lang/StringLatin1$CharsSpliterator")] 3

def k11m0 : Method := { name := "<init>", desc := "()V", sig := { parameters := [], returnType := none }, accessFlags := 0, code := none }
def k11c1 : Code := { maxStack := 2, maxLocals := 2, code := jdk_43_method_2_code, exceptionTable := #[], attributes := #[] }
def k11m1 : Method := { name := "charAt", desc := "([BI)C", sig := { parameters := [(.array .byte), .int], returnType := some .char }, accessFlags := 9, code := some k11c1 }
def k11c2 : Code := { maxStack := 2, maxLocals := 1, code := jdk_43_method_3_code, exceptionTable := #[], attributes := #[] }
def k11m2 : Method := { name := "canEncode", desc := "(C)Z", sig := { parameters := [.char], returnType := some .boolean }, accessFlags := 9, code := some k11c2 }
def k11c3 : Code := { maxStack := 3, maxLocals := 3, code := jdk_43_method_13_code, exceptionTable := #[], attributes := #[] }
def k11m3 : Method := { name := "equals", desc := "([B[B)Z", sig := { parameters := [(.array .byte), (.array .byte)], returnType := some .boolean }, accessFlags := 9, code := some k11c3 }
def k11c4 : Code := { maxStack := 4, maxLocals := 1, code := jdk_43_method_46_code, exceptionTable := #[], attributes := #[] }
def k11m4 : Method := { name := "toBytes", desc := "(C)[B", sig := { parameters := [.char], returnType := some (.array .byte) }, accessFlags := 9, code := some k11c4 }
/-- java/lang/StringLatin1 -/
def k11 : Class := { plain "java/lang/StringLatin1" (some 0) with
  accessFlags := 48
  interfaces := #[]
  cf := some (fileOf pool11 14 #[.nestMembers #[390, 221]] #[{ accessFlags := 0, nameIndex := 7, descriptorIndex := 8, attributes := #[] }, { accessFlags := 9, nameIndex := 252, descriptorIndex := 53, attributes := #[] }, { accessFlags := 9, nameIndex := 90, descriptorIndex := 105, attributes := #[] }, { accessFlags := 9, nameIndex := 281, descriptorIndex := 282, attributes := #[] }, { accessFlags := 9, nameIndex := 380, descriptorIndex := 382, attributes := #[] }] 48 4 #[] #[{ accessFlags := 4120, nameIndex := 121, descriptorIndex := 122, attributes := #[] }])
  fields := #[{ name := "$assertionsDisabled", type := .boolean, accessFlags := 4120, slot := 0, constantValue := 0 }]
  methods := #[k11m0, k11m1, k11m2, k11m3, k11m4]
  instanceTypes := #[]
  staticTypes := #[.boolean]
  resolved := Array.replicate 395 none
  statics := none }

def pool12 : Array CpInfo := pool [(2, .class_ 4), (1, u "java/lang/Object"), (0, u "<init>"), (0, u "()V"), (17, .class_ 26), (1, u "jdk/internal/util/Preconditions"), (6, u "checkIndex"), (21, .class_ 56), (0, u "jdk/internal/util/Preconditions$4"), (57, .class_ 115), (0, u "jdk/internal/util/Preconditions$1"), (7, u "SIOOBE_FORMATTER"), (0, u "Ljava/util/function/BiFunction;"), (0, .class_ 126), (0, u "jdk/internal/util/Preconditions$2"), (3, u "AIOOBE_FORMATTER"), (0, .class_ 132), (0, u "jdk/internal/util/Preconditions$3"), (3, u "IOOBE_FORMATTER"), (41, u "(IILjava/util/function/BiFunction;)I")] 15

def k12m0 : Method := { name := "<init>", desc := "()V", sig := { parameters := [], returnType := none }, accessFlags := 1, code := none }
def k12c1 : Code := { maxStack := 3, maxLocals := 3, code := jdk_41_method_11_code, exceptionTable := #[], attributes := #[] }
def k12m1 : Method := { name := "checkIndex", desc := "(IILjava/util/function/BiFunction;)I", sig := { parameters := [.int, .int, (.object "java/util/function/BiFunction")], returnType := some .int }, accessFlags := 9, code := some k12c1 }
/-- jdk/internal/util/Preconditions -/
def k12 : Class := { plain "jdk/internal/util/Preconditions" (some 0) with
  accessFlags := 33
  interfaces := #[]
  cf := some (fileOf pool12 24 #[.nestMembers #[55, 131, 125, 114]] #[{ accessFlags := 1, nameIndex := 5, descriptorIndex := 6, attributes := #[] }, { accessFlags := 9, nameIndex := 33, descriptorIndex := 178, attributes := #[] }] 33 2 #[] #[{ accessFlags := 25, nameIndex := 123, descriptorIndex := 124, attributes := #[] }, { accessFlags := 25, nameIndex := 130, descriptorIndex := 124, attributes := #[] }, { accessFlags := 25, nameIndex := 136, descriptorIndex := 124, attributes := #[] }])
  fields := #[{ name := "SIOOBE_FORMATTER", type := (.object "java/util/function/BiFunction"), accessFlags := 25, slot := 0, constantValue := 0 }, { name := "AIOOBE_FORMATTER", type := (.object "java/util/function/BiFunction"), accessFlags := 25, slot := 1, constantValue := 0 }, { name := "IOOBE_FORMATTER", type := (.object "java/util/function/BiFunction"), accessFlags := 25, slot := 2, constantValue := 0 }]
  methods := #[k12m0, k12m1]
  instanceTypes := #[]
  staticTypes := #[(.object "java/util/function/BiFunction"), (.object "java/util/function/BiFunction"), (.object "java/util/function/BiFunction")]
  resolved := Array.replicate 194 none
  statics := some 2 }

def pool13 : Array CpInfo := pool [(6, .class_ 8), (1, u "java/lang/Object"), (0, u "<init>"), (0, u "()V"), (1, .class_ 14), (1, u "java/lang/StringUTF16"), (31, u "$assertionsDisabled"), (0, u "Z"), (13, u "HI_BYTE_SHIFT"), (0, u "I"), (2, u "LO_BYTE_SHIFT"), (49, .methodref 12 116), (0, .nameAndType 117 118), (0, u "compress"), (0, u "([CI[BII)I"), (3, u "([CII)[B"), (138, u "coderFromArrayLen"), (0, u "([BI)B"), (106, .class_ 371), (1, u "java/lang/StringUTF16$LinesSpliterator"), (58, u "MAX_LENGTH"), (196, .class_ 628), (0, u "java/lang/StringUTF16$CodePointsSpliterator"), (0, .class_ 630), (0, u "java/lang/StringUTF16$CharsSpliterator")] 4

def k13m0 : Method := { name := "<init>", desc := "()V", sig := { parameters := [], returnType := none }, accessFlags := 0, code := none }
def k13c1 : Code := { maxStack := 2, maxLocals := 2, code := jdk_52_method_15_code, exceptionTable := #[], attributes := #[] }
def k13m1 : Method := { name := "coderFromArrayLen", desc := "([BI)B", sig := { parameters := [(.array .byte), .int], returnType := some .byte }, accessFlags := 8, code := some k13c1 }
def k13c2 : Code := { maxStack := 5, maxLocals := 6, code := jdk_52_method_16_code, exceptionTable := #[], attributes := #[] }
def k13m2 : Method := { name := "compress", desc := "([CII)[B", sig := { parameters := [(.array .char), .int, .int], returnType := some (.array .byte) }, accessFlags := 9, code := some k13c2 }
def k13c3 : Code := { maxStack := 3, maxLocals := 7, code := jdk_52_method_21_code, exceptionTable := #[], attributes := #[] }
def k13m3 : Method := { name := "compress", desc := "([CI[BII)I", sig := { parameters := [(.array .char), .int, (.array .byte), .int, .int], returnType := some .int }, accessFlags := 9, code := some k13c3 }
/-- java/lang/StringUTF16 -/
def k13 : Class := { plain "java/lang/StringUTF16" (some 0) with
  accessFlags := 48
  interfaces := #[]
  cf := some (fileOf pool13 12 #[.nestMembers #[627, 629, 369]] #[{ accessFlags := 0, nameIndex := 9, descriptorIndex := 10, attributes := #[] }, { accessFlags := 8, nameIndex := 261, descriptorIndex := 262, attributes := #[] }, { accessFlags := 9, nameIndex := 117, descriptorIndex := 122, attributes := #[] }, { accessFlags := 9, nameIndex := 117, descriptorIndex := 118, attributes := #[] }] 48 6 #[] #[{ accessFlags := 26, nameIndex := 61, descriptorIndex := 62, attributes := #[] }, { accessFlags := 26, nameIndex := 65, descriptorIndex := 62, attributes := #[] }, { accessFlags := 24, nameIndex := 430, descriptorIndex := 62, attributes := #[] }, { accessFlags := 4120, nameIndex := 46, descriptorIndex := 47, attributes := #[] }])
  fields := #[{ name := "HI_BYTE_SHIFT", type := .int, accessFlags := 26, slot := 0, constantValue := 0 }, { name := "LO_BYTE_SHIFT", type := .int, accessFlags := 26, slot := 1, constantValue := 0 }, { name := "MAX_LENGTH", type := .int, accessFlags := 24, slot := 2, constantValue := 0 }, { name := "$assertionsDisabled", type := .boolean, accessFlags := 4120, slot := 3, constantValue := 0 }]
  methods := #[k13m0, k13m1, k13m2, k13m3]
  instanceTypes := #[]
  staticTypes := #[.int, .int, .int, .boolean]
  resolved := Array.replicate 635 none
  statics := none }

def pool14 : Array CpInfo := pool [(9, u "<init>"), (6, .class_ 18), (1, u "java/lang/Object"), (0, u "()V"), (1, .class_ 23), (1, u "jdk/internal/util/ArraysSupport"), (0, u "LOG2_ARRAY_LONG_INDEX_SCALE"), (0, u "I"), (2, u "U"), (0, u "Ljdk/internal/misc/Unsafe;"), (8, u "BIG_ENDIAN"), (0, u "Z"), (8, u "LOG2_BYTE_BIT_SIZE"), (4, u "LOG2_ARRAY_INT_INDEX_SCALE"), (54, u "JLA"), (0, u "Ljdk/internal/access/JavaLangAccess;"), (11, u "LOG2_ARRAY_BOOLEAN_INDEX_SCALE"), (9, u "LOG2_ARRAY_BYTE_INDEX_SCALE"), (5, u "LOG2_ARRAY_CHAR_INDEX_SCALE"), (5, u "LOG2_ARRAY_SHORT_INDEX_SCALE"), (18, u "LOG2_ARRAY_FLOAT_INDEX_SCALE"), (24, u "LOG2_ARRAY_DOUBLE_INDEX_SCALE"), (89, u "T_BOOLEAN"), (2, u "T_CHAR"), (1, u "T_FLOAT"), (1, u "T_DOUBLE"), (1, u "T_BYTE"), (1, u "T_SHORT"), (1, u "T_INT"), (1, u "T_LONG"), (1, u "SOFT_MAX_ARRAY_LENGTH")] 83

def k14m0 : Method := { name := "<init>", desc := "()V", sig := { parameters := [], returnType := none }, accessFlags := 2, code := none }
/-- jdk/internal/util/ArraysSupport -/
def k14 : Class := { plain "jdk/internal/util/ArraysSupport" (some 0) with
  accessFlags := 33
  interfaces := #[]
  cf := some (fileOf pool14 21 #[] #[{ accessFlags := 2, nameIndex := 9, descriptorIndex := 19, attributes := #[] }] 33 16 #[] #[{ accessFlags := 24, nameIndex := 28, descriptorIndex := 29, attributes := #[] }, { accessFlags := 26, nameIndex := 38, descriptorIndex := 39, attributes := #[] }, { accessFlags := 25, nameIndex := 121, descriptorIndex := 25, attributes := #[] }, { accessFlags := 25, nameIndex := 131, descriptorIndex := 25, attributes := #[] }, { accessFlags := 25, nameIndex := 137, descriptorIndex := 25, attributes := #[] }, { accessFlags := 25, nameIndex := 143, descriptorIndex := 25, attributes := #[] }, { accessFlags := 25, nameIndex := 53, descriptorIndex := 25, attributes := #[] }, { accessFlags := 25, nameIndex := 24, descriptorIndex := 25, attributes := #[] }, { accessFlags := 25, nameIndex := 162, descriptorIndex := 25, attributes := #[] }, { accessFlags := 25, nameIndex := 187, descriptorIndex := 25, attributes := #[] }, { accessFlags := 26, nameIndex := 48, descriptorIndex := 25, attributes := #[] }, { accessFlags := 25, nameIndex := 277, descriptorIndex := 25, attributes := #[] }, { accessFlags := 25, nameIndex := 280, descriptorIndex := 25, attributes := #[] }, { accessFlags := 25, nameIndex := 282, descriptorIndex := 25, attributes := #[] }, { accessFlags := 25, nameIndex := 284, descriptorIndex := 25, attributes := #[] }, { accessFlags := 25, nameIndex := 286, descriptorIndex := 25, attributes := #[] }, { accessFlags := 25, nameIndex := 288, descriptorIndex := 25, attributes := #[] }, { accessFlags := 25, nameIndex := 290, descriptorIndex := 25, attributes := #[] }, { accessFlags := 25, nameIndex := 292, descriptorIndex := 25, attributes := #[] }, { accessFlags := 26, nameIndex := 108, descriptorIndex := 109, attributes := #[] }, { accessFlags := 25, nameIndex := 294, descriptorIndex := 25, attributes := #[] }])
  fields := #[{ name := "U", type := (.object "jdk/internal/misc/Unsafe"), accessFlags := 24, slot := 0, constantValue := 0 }, { name := "BIG_ENDIAN", type := .boolean, accessFlags := 26, slot := 1, constantValue := 0 }, { name := "LOG2_ARRAY_BOOLEAN_INDEX_SCALE", type := .int, accessFlags := 25, slot := 2, constantValue := 0 }, { name := "LOG2_ARRAY_BYTE_INDEX_SCALE", type := .int, accessFlags := 25, slot := 3, constantValue := 0 }, { name := "LOG2_ARRAY_CHAR_INDEX_SCALE", type := .int, accessFlags := 25, slot := 4, constantValue := 0 }, { name := "LOG2_ARRAY_SHORT_INDEX_SCALE", type := .int, accessFlags := 25, slot := 5, constantValue := 0 }, { name := "LOG2_ARRAY_INT_INDEX_SCALE", type := .int, accessFlags := 25, slot := 6, constantValue := 0 }, { name := "LOG2_ARRAY_LONG_INDEX_SCALE", type := .int, accessFlags := 25, slot := 7, constantValue := 0 }, { name := "LOG2_ARRAY_FLOAT_INDEX_SCALE", type := .int, accessFlags := 25, slot := 8, constantValue := 0 }, { name := "LOG2_ARRAY_DOUBLE_INDEX_SCALE", type := .int, accessFlags := 25, slot := 9, constantValue := 0 }, { name := "LOG2_BYTE_BIT_SIZE", type := .int, accessFlags := 26, slot := 10, constantValue := 0 }, { name := "T_BOOLEAN", type := .int, accessFlags := 25, slot := 11, constantValue := 0 }, { name := "T_CHAR", type := .int, accessFlags := 25, slot := 12, constantValue := 0 }, { name := "T_FLOAT", type := .int, accessFlags := 25, slot := 13, constantValue := 0 }, { name := "T_DOUBLE", type := .int, accessFlags := 25, slot := 14, constantValue := 0 }, { name := "T_BYTE", type := .int, accessFlags := 25, slot := 15, constantValue := 0 }, { name := "T_SHORT", type := .int, accessFlags := 25, slot := 16, constantValue := 0 }, { name := "T_INT", type := .int, accessFlags := 25, slot := 17, constantValue := 0 }, { name := "T_LONG", type := .int, accessFlags := 25, slot := 18, constantValue := 0 }, { name := "JLA", type := (.object "jdk/internal/access/JavaLangAccess"), accessFlags := 26, slot := 19, constantValue := 0 }, { name := "SOFT_MAX_ARRAY_LENGTH", type := .int, accessFlags := 25, slot := 20, constantValue := 0 }]
  methods := #[k14m0]
  instanceTypes := #[]
  staticTypes := #[(.object "jdk/internal/misc/Unsafe"), .boolean, .int, .int, .int, .int, .int, .int, .int, .int, .int, .int, .int, .int, .int, .int, .int, .int, .int, (.object "jdk/internal/access/JavaLangAccess"), .int]
  resolved := Array.replicate 378 none
  statics := none }

/-- the primitive byte -/
def k15 : Class := { plain "byte" none with kind := .primitive 'B', accessFlags := 0x411 }
/-- [B -/
def k16 : Class := { plain "[B" (some 0) with kind := .array 15 .byte, interfaces := #[10, 2], accessFlags := 1041 }

/-- the primitive char -/
def k17 : Class := { plain "char" none with kind := .primitive 'C', accessFlags := 0x411 }
/-- [C -/
def k18 : Class := { plain "[C" (some 0) with kind := .array 17 .char, interfaces := #[10, 2], accessFlags := 1041 }

/-- the primitive int -/
def k19 : Class := { plain "int" none with kind := .primitive 'I', accessFlags := 0x411 }
/-- [I -/
def k20 : Class := { plain "[I" (some 0) with kind := .array 19 .int, interfaces := #[10, 2], accessFlags := 1041 }

/-- [Lcom/example/ispol/ispol/walls/Transparency; -/
def k21 : Class := { plain "[Lcom/example/ispol/ispol/walls/Transparency;" (some 0) with kind := .array 9 (.object "com/example/ispol/ispol/walls/Transparency"), interfaces := #[10, 2], accessFlags := 1041 }

def heap : Heap := #[{ cls := 7, slots := #[.long 0, .int 1, .null, .int 0, .null, .int 0, .int 0], vm := .statics 7 },
  { cls := 9, slots := #[.ref 4, .ref 5, .ref 6, .ref 3], vm := .statics 9 },
  { cls := 12, slots := #[.null, .null, .null], vm := .statics 12 },
  { cls := 21, slots := #[.ref 4, .ref 5, .ref 6], vm := .none },
  { cls := 9, slots := #[.null, .int 0, .int 0, .ref 7], vm := .none },
  { cls := 9, slots := #[.null, .int 1, .int 0, .ref 8], vm := .none },
  { cls := 9, slots := #[.null, .int 2, .int 0, .ref 9], vm := .none },
  { cls := 7, slots := #[.ref 10, .int 0, .int 0, .int 0], vm := .none },
  { cls := 7, slots := #[.ref 11, .int 0, .int 0, .int 0], vm := .none },
  { cls := 7, slots := #[.ref 12, .int 0, .int 0, .int 0], vm := .none },
  { cls := 16, slots := #[.int 116, .int 114, .int 97, .int 110, .int 115, .int 112, .int 97, .int 114, .int 101, .int 110, .int 116], vm := .none },
  { cls := 16, slots := #[.int 116, .int 114, .int 97, .int 110, .int 115, .int 108, .int 117, .int 99, .int 101, .int 110, .int 116], vm := .none },
  { cls := 16, slots := #[.int 111, .int 112, .int 97, .int 113, .int 117, .int 101], vm := .none }]
def classes : Array Class := #[k0, k1, k2, k3, k4, k5, k6, k7, k8, k9, k10, k11, k12, k13, k14, k15, k16, k17, k18, k19, k20, k21]
def interned : List (Array UInt16 × Addr) := []
def slotsUsed : Nat := 69
def theMethod : MethodId := ⟨1, 1⟩
def args0 : Array Value := #[.int 0, .int 0, .int 0, .long 0]
def aboutOver (below : List Frame) : State where
  vm := { classes := classes, interned := interned.toArray }
  heap := heap
  slotsUsed := slotsUsed
  threads := #[{ frames := .invoking theMethod args0 :: below }]
def below0 : List Frame := [.native { method := ⟨0, 0⟩, args := #[] }]
def about1 : State := aboutOver below0
def p0 : Program := .bare "" "" ""
def e0 : Env := launch0.env 0 0 0
theorem w_frames : about1.frames = Frame.invoking theMethod args0 :: below0 := rfl
set_option maxRecDepth 65536 in
theorem w_args : argsFit about1.vm theMethod args0 = true := by decide +kernel
set_option maxRecDepth 65536 in
theorem w_heap : heapFits about1 = true := by decide +kernel
set_option maxRecDepth 65536 in
theorem w_runnable : about1.curStatus? = some .runnable := by decide +kernel
set_option maxRecDepth 65536 in
theorem w_alone : about1.alone = true := by decide +kernel
set_option maxRecDepth 65536 in
theorem w_named : about1.methodNamed? x = some theMethod := by decide +kernel
set_option maxRecDepth 65536 in
theorem w_hears : about1.hears theMethod below0 = true := by decide +kernel
set_option maxRecDepth 65536 in
theorem w_ripe : about1.ripe theMethod args0 below0 = true := by decide +kernel
theorem w_running : about1.status = .running := rfl
set_option maxRecDepth 65536 in
theorem w_room : about1.hasRoom e0.platform room_1 = true :=
  launch0.hasRoom_least _ room_1 (by decide +kernel) (by decide +kernel) (by decide +kernel) (by decide +kernel) (by decide +kernel) (by decide +kernel)
theorem allAtoms_all (ts : List Jvm.Cond) (a : Array Jvm.Value) (st : Jvm.State) : (allAtoms ts).before a st = ts.all (fun c => c.before a st) := by
  induction ts with
  | nil => rfl
  | cons c t ih =>
    show (Jvm.Cond.and c (allAtoms t)).before a st = _
    rw [Jvm.Cond.before_and, ih, List.all_cons]
def words1 : List Jvm.Cond := Jvm.Cond.code x code maxLocals ret :: tables_1
/-- a 'code' word, met by the world's own term for the bytes: nothing is compared byte by byte -/
theorem code_word {y : MethodName} {bytes : ByteArray} {mx : Nat} {rt : Option FieldType} {a : Array Value} {s : State} {m : MethodId} {meth : Method} {c : Code} (h1 : s.methodNamed? y = some m) (h2 : s.vm.method? m = some meth) (h3 : meth.code = some c) (h4 : c.code = bytes)
    (h5 : (c.maxLocals == mx && c.exceptionTable.isEmpty && decide (c.maxStack ≤ mostOperands) && decide (meth.sig.returnType = rt) && !meth.locks && decide (parseMethodDescriptor y.desc = some meth.sig)) = true) : (Jvm.Cond.code y bytes mx rt).before a s = true := by
  simp only [Bool.and_eq_true, beq_iff_eq, Bool.not_eq_true', decide_eq_true_eq] at h5
  obtain ⟨⟨⟨⟨⟨g1, g2⟩, g3⟩, g4⟩, g5⟩, g6⟩ := h5
  simp [Cond.before, Cond.holds, Cond.value, h1, h2, h3, h4, g1, g2, g3, g4, g5, g6]
def isCode : Jvm.Cond → Bool
  | .code _ _ _ _ => true
  | _ => false
theorem all_split {L : List Jvm.Cond} {P : Jvm.Cond → Bool} (h1 : L.all (fun c => isCode c || P c) = true) (h2 : ∀ c ∈ L.filter isCode, P c = true) : L.all P = true := by
  refine List.all_eq_true.mpr fun c hc => ?_
  have h := List.all_eq_true.mp h1 c hc
  rcases Bool.eq_false_or_eq_true (isCode c) with hi | hi
  · exact h2 c (List.mem_filter.mpr ⟨hc, hi⟩)
  · simpa [hi] using h
set_option maxRecDepth 65536 in
theorem w_c0 : (Jvm.Cond.code x code maxLocals ret).before args0 about1 = true := code_word (m := ⟨1, 1⟩) (meth := k1m1) (c := k1c1) (by decide +kernel) rfl rfl rfl (by decide +kernel)
set_option maxRecDepth 65536 in
theorem w_c1 : (Jvm.Cond.code ({ cls := "com/example/ispol/ispol/walls/TransparencyOfPinLaw", name := "word", desc := "(I)Ljava/lang/String;" } : Jvm.MethodName) method_4_code (1 : Nat) (Option.some (Jvm.ClassFile.FieldType.object "java/lang/String"))).before args0 about1 = true := code_word (m := ⟨1, 3⟩) (meth := k1m3) (c := k1c3) (by decide +kernel) rfl rfl rfl (by decide +kernel)
set_option maxRecDepth 65536 in
theorem w_c2 : (Jvm.Cond.code ({ cls := "java/lang/String", name := "length", desc := "()I" } : Jvm.MethodName) jdk_42_method_54_code (1 : Nat) (Option.some Jvm.ClassFile.FieldType.int)).before args0 about1 = true := code_word (m := ⟨7, 2⟩) (meth := k7m2) (c := k7c2) (by decide +kernel) rfl rfl rfl (by decide +kernel)
set_option maxRecDepth 65536 in
theorem w_c3 : (Jvm.Cond.code ({ cls := "java/lang/String", name := "coder", desc := "()B" } : Jvm.MethodName) jdk_42_method_152_code (1 : Nat) (Option.some Jvm.ClassFile.FieldType.byte)).before args0 about1 = true := code_word (m := ⟨7, 8⟩) (meth := k7m8) (c := k7c8) (by decide +kernel) rfl rfl rfl (by decide +kernel)
set_option maxRecDepth 65536 in
theorem w_c4 : (Jvm.Cond.code ({ cls := "com/example/ispol/ispol/walls/Transparency", name := "of", desc := "(Ljava/lang/String;)Lcom/example/ispol/ispol/walls/Transparency;" } : Jvm.MethodName) prog_21_method_4_code (6 : Nat) (Option.some (Jvm.ClassFile.FieldType.object "com/example/ispol/ispol/walls/Transparency"))).before args0 about1 = true := code_word (m := ⟨9, 1⟩) (meth := k9m1) (c := k9c1) (by decide +kernel) rfl rfl rfl (by decide +kernel)
set_option maxRecDepth 65536 in
theorem w_c5 : (Jvm.Cond.code ({ cls := "com/example/ispol/ispol/walls/Transparency", name := "values", desc := "()[Lcom/example/ispol/ispol/walls/Transparency;" } : Jvm.MethodName) prog_21_method_1_code (0 : Nat) (Option.some (Jvm.ClassFile.FieldType.array (Jvm.ClassFile.FieldType.object "com/example/ispol/ispol/walls/Transparency")))).before args0 about1 = true := code_word (m := ⟨9, 0⟩) (meth := k9m0) (c := k9c0) (by decide +kernel) rfl rfl rfl (by decide +kernel)
set_option maxRecDepth 65536 in
theorem w_c6 : (Jvm.Cond.code ({ cls := "java/lang/String", name := "equals", desc := "(Ljava/lang/Object;)Z" } : Jvm.MethodName) jdk_42_method_66_code (3 : Nat) (Option.some Jvm.ClassFile.FieldType.boolean)).before args0 about1 = true := code_word (m := ⟨7, 4⟩) (meth := k7m4) (c := k7c4) (by decide +kernel) rfl rfl rfl (by decide +kernel)
set_option maxRecDepth 65536 in
theorem w_c7 : (Jvm.Cond.code ({ cls := "java/lang/StringLatin1", name := "equals", desc := "([B[B)Z" } : Jvm.MethodName) jdk_43_method_13_code (3 : Nat) (Option.some Jvm.ClassFile.FieldType.boolean)).before args0 about1 = true := code_word (m := ⟨11, 3⟩) (meth := k11m3) (c := k11c3) (by decide +kernel) rfl rfl rfl (by decide +kernel)
set_option maxRecDepth 65536 in
theorem w_c8 : (Jvm.Cond.code ({ cls := "com/example/ispol/ispol/walls/TransparencyOfPinLaw", name := "expected", desc := "(Ljava/lang/String;)Lcom/example/ispol/ispol/walls/Transparency;" } : Jvm.MethodName) method_5_code (1 : Nat) (Option.some (Jvm.ClassFile.FieldType.object "com/example/ispol/ispol/walls/Transparency"))).before args0 about1 = true := code_word (m := ⟨1, 4⟩) (meth := k1m4) (c := k1c4) (by decide +kernel) rfl rfl rfl (by decide +kernel)
set_option maxRecDepth 65536 in
theorem w_c9 : (Jvm.Cond.code ({ cls := "java/lang/String", name := "valueOf", desc := "(C)Ljava/lang/String;" } : Jvm.MethodName) jdk_42_method_139_code (1 : Nat) (Option.some (Jvm.ClassFile.FieldType.object "java/lang/String"))).before args0 about1 = true := code_word (m := ⟨7, 5⟩) (meth := k7m5) (c := k7c5) (by decide +kernel) rfl rfl rfl (by decide +kernel)
set_option maxRecDepth 65536 in
theorem w_c10 : (Jvm.Cond.code ({ cls := "java/lang/StringLatin1", name := "canEncode", desc := "(C)Z" } : Jvm.MethodName) jdk_43_method_3_code (1 : Nat) (Option.some Jvm.ClassFile.FieldType.boolean)).before args0 about1 = true := code_word (m := ⟨11, 2⟩) (meth := k11m2) (c := k11c2) (by decide +kernel) rfl rfl rfl (by decide +kernel)
set_option maxRecDepth 65536 in
theorem w_c11 : (Jvm.Cond.code ({ cls := "java/lang/StringLatin1", name := "toBytes", desc := "(C)[B" } : Jvm.MethodName) jdk_43_method_46_code (1 : Nat) (Option.some (Jvm.ClassFile.FieldType.array Jvm.ClassFile.FieldType.byte))).before args0 about1 = true := code_word (m := ⟨11, 4⟩) (meth := k11m4) (c := k11c4) (by decide +kernel) rfl rfl rfl (by decide +kernel)
set_option maxRecDepth 65536 in
theorem w_c12 : (Jvm.Cond.code ({ cls := "java/lang/String", name := "<init>", desc := "([BB)V" } : Jvm.MethodName) jdk_42_method_151_code (3 : Nat) (Option.none : Option Jvm.ClassFile.FieldType)).before args0 about1 = true := code_word (m := ⟨7, 7⟩) (meth := k7m7) (c := k7c7) (by decide +kernel) rfl rfl rfl (by decide +kernel)
set_option maxRecDepth 65536 in
theorem w_c13 : (Jvm.Cond.code ({ cls := "java/lang/Object", name := "<init>", desc := "()V" } : Jvm.MethodName) object_method_1_code (1 : Nat) (Option.none : Option Jvm.ClassFile.FieldType)).before args0 about1 = true := code_word (m := ⟨0, 0⟩) (meth := k0m0) (c := k0c0) (by decide +kernel) rfl rfl rfl (by decide +kernel)
set_option maxRecDepth 65536 in
theorem w_c14 : (Jvm.Cond.code ({ cls := "com/example/ispol/ispol/walls/TransparencyOfPinLaw", name := "edit", desc := "(Ljava/lang/String;IIC)Ljava/lang/String;" } : Jvm.MethodName) method_7_code (16 : Nat) (Option.some (Jvm.ClassFile.FieldType.object "java/lang/String"))).before args0 about1 = true := code_word (m := ⟨1, 6⟩) (meth := k1m6) (c := k1c6) (by decide +kernel) rfl rfl rfl (by decide +kernel)
set_option maxRecDepth 65536 in
theorem w_c15 : (Jvm.Cond.code ({ cls := "com/example/ispol/ispol/walls/TransparencyOfPinLaw", name := "at", desc := "(Ljava/lang/String;IIC)C" } : Jvm.MethodName) method_6_code (4 : Nat) (Option.some Jvm.ClassFile.FieldType.char)).before args0 about1 = true := code_word (m := ⟨1, 5⟩) (meth := k1m5) (c := k1c5) (by decide +kernel) rfl rfl rfl (by decide +kernel)
set_option maxRecDepth 65536 in
theorem w_c16 : (Jvm.Cond.code ({ cls := "java/lang/String", name := "charAt", desc := "(I)C" } : Jvm.MethodName) jdk_42_method_56_code (2 : Nat) (Option.some Jvm.ClassFile.FieldType.char)).before args0 about1 = true := code_word (m := ⟨7, 3⟩) (meth := k7m3) (c := k7c3) (by decide +kernel) rfl rfl rfl (by decide +kernel)
set_option maxRecDepth 65536 in
theorem w_c17 : (Jvm.Cond.code ({ cls := "java/lang/String", name := "isLatin1", desc := "()Z" } : Jvm.MethodName) jdk_42_method_154_code (1 : Nat) (Option.some Jvm.ClassFile.FieldType.boolean)).before args0 about1 = true := code_word (m := ⟨7, 9⟩) (meth := k7m9) (c := k7c9) (by decide +kernel) rfl rfl rfl (by decide +kernel)
set_option maxRecDepth 65536 in
theorem w_c18 : (Jvm.Cond.code ({ cls := "java/lang/StringLatin1", name := "charAt", desc := "([BI)C" } : Jvm.MethodName) jdk_43_method_2_code (2 : Nat) (Option.some Jvm.ClassFile.FieldType.char)).before args0 about1 = true := code_word (m := ⟨11, 1⟩) (meth := k11m1) (c := k11c1) (by decide +kernel) rfl rfl rfl (by decide +kernel)
set_option maxRecDepth 65536 in
theorem w_c19 : (Jvm.Cond.code ({ cls := "java/lang/String", name := "checkIndex", desc := "(II)V" } : Jvm.MethodName) jdk_42_method_155_code (2 : Nat) (Option.none : Option Jvm.ClassFile.FieldType)).before args0 about1 = true := code_word (m := ⟨7, 10⟩) (meth := k7m10) (c := k7c10) (by decide +kernel) rfl rfl rfl (by decide +kernel)
set_option maxRecDepth 65536 in
theorem w_c20 : (Jvm.Cond.code ({ cls := "jdk/internal/util/Preconditions", name := "checkIndex", desc := "(IILjava/util/function/BiFunction;)I" } : Jvm.MethodName) jdk_41_method_11_code (3 : Nat) (Option.some Jvm.ClassFile.FieldType.int)).before args0 about1 = true := code_word (m := ⟨12, 1⟩) (meth := k12m1) (c := k12c1) (by decide +kernel) rfl rfl rfl (by decide +kernel)
set_option maxRecDepth 65536 in
theorem w_c21 : (Jvm.Cond.code ({ cls := "java/lang/String", name := "<init>", desc := "([C)V" } : Jvm.MethodName) jdk_42_method_3_code (2 : Nat) (Option.none : Option Jvm.ClassFile.FieldType)).before args0 about1 = true := code_word (m := ⟨7, 1⟩) (meth := k7m1) (c := k7c1) (by decide +kernel) rfl rfl rfl (by decide +kernel)
set_option maxRecDepth 65536 in
theorem w_c22 : (Jvm.Cond.code ({ cls := "java/lang/String", name := "<init>", desc := "([CIILjava/lang/Void;)V" } : Jvm.MethodName) jdk_42_method_149_code (6 : Nat) (Option.none : Option Jvm.ClassFile.FieldType)).before args0 about1 = true := code_word (m := ⟨7, 6⟩) (meth := k7m6) (c := k7c6) (by decide +kernel) rfl rfl rfl (by decide +kernel)
set_option maxRecDepth 65536 in
theorem w_c23 : (Jvm.Cond.code ({ cls := "java/lang/StringUTF16", name := "compress", desc := "([CII)[B" } : Jvm.MethodName) jdk_52_method_16_code (6 : Nat) (Option.some (Jvm.ClassFile.FieldType.array Jvm.ClassFile.FieldType.byte))).before args0 about1 = true := code_word (m := ⟨13, 2⟩) (meth := k13m2) (c := k13c2) (by decide +kernel) rfl rfl rfl (by decide +kernel)
set_option maxRecDepth 65536 in
theorem w_c24 : (Jvm.Cond.code ({ cls := "java/lang/StringUTF16", name := "compress", desc := "([CI[BII)I" } : Jvm.MethodName) jdk_52_method_21_code (7 : Nat) (Option.some Jvm.ClassFile.FieldType.int)).before args0 about1 = true := code_word (m := ⟨13, 3⟩) (meth := k13m3) (c := k13c3) (by decide +kernel) rfl rfl rfl (by decide +kernel)
set_option maxRecDepth 65536 in
theorem w_c25 : (Jvm.Cond.code ({ cls := "java/lang/StringUTF16", name := "coderFromArrayLen", desc := "([BI)B" } : Jvm.MethodName) jdk_52_method_15_code (2 : Nat) (Option.some Jvm.ClassFile.FieldType.byte)).before args0 about1 = true := code_word (m := ⟨13, 1⟩) (meth := k13m1) (c := k13c1) (by decide +kernel) rfl rfl rfl (by decide +kernel)
set_option maxRecDepth 65536 in
theorem w_c26 : (Jvm.Cond.code ({ cls := "com/example/ispol/ispol/walls/TransparencyOfPinLaw", name := "byteAt", desc := "(JI)C" } : Jvm.MethodName) method_3_code (3 : Nat) (Option.some Jvm.ClassFile.FieldType.char)).before args0 about1 = true := code_word (m := ⟨1, 2⟩) (meth := k1m2) (c := k1c2) (by decide +kernel) rfl rfl rfl (by decide +kernel)
def codes1 : List Jvm.Cond := [Jvm.Cond.code x code maxLocals ret, Jvm.Cond.code ({ cls := "com/example/ispol/ispol/walls/TransparencyOfPinLaw", name := "word", desc := "(I)Ljava/lang/String;" } : Jvm.MethodName) method_4_code (1 : Nat) (Option.some (Jvm.ClassFile.FieldType.object "java/lang/String")), Jvm.Cond.code ({ cls := "java/lang/String", name := "length", desc := "()I" } : Jvm.MethodName) jdk_42_method_54_code (1 : Nat) (Option.some Jvm.ClassFile.FieldType.int), Jvm.Cond.code ({ cls := "java/lang/String", name := "coder", desc := "()B" } : Jvm.MethodName) jdk_42_method_152_code (1 : Nat) (Option.some Jvm.ClassFile.FieldType.byte), Jvm.Cond.code ({ cls := "com/example/ispol/ispol/walls/Transparency", name := "of", desc := "(Ljava/lang/String;)Lcom/example/ispol/ispol/walls/Transparency;" } : Jvm.MethodName) prog_21_method_4_code (6 : Nat) (Option.some (Jvm.ClassFile.FieldType.object "com/example/ispol/ispol/walls/Transparency")), Jvm.Cond.code ({ cls := "com/example/ispol/ispol/walls/Transparency", name := "values", desc := "()[Lcom/example/ispol/ispol/walls/Transparency;" } : Jvm.MethodName) prog_21_method_1_code (0 : Nat) (Option.some (Jvm.ClassFile.FieldType.array (Jvm.ClassFile.FieldType.object "com/example/ispol/ispol/walls/Transparency"))), Jvm.Cond.code ({ cls := "java/lang/String", name := "equals", desc := "(Ljava/lang/Object;)Z" } : Jvm.MethodName) jdk_42_method_66_code (3 : Nat) (Option.some Jvm.ClassFile.FieldType.boolean), Jvm.Cond.code ({ cls := "java/lang/StringLatin1", name := "equals", desc := "([B[B)Z" } : Jvm.MethodName) jdk_43_method_13_code (3 : Nat) (Option.some Jvm.ClassFile.FieldType.boolean), Jvm.Cond.code ({ cls := "com/example/ispol/ispol/walls/TransparencyOfPinLaw", name := "expected", desc := "(Ljava/lang/String;)Lcom/example/ispol/ispol/walls/Transparency;" } : Jvm.MethodName) method_5_code (1 : Nat) (Option.some (Jvm.ClassFile.FieldType.object "com/example/ispol/ispol/walls/Transparency")), Jvm.Cond.code ({ cls := "java/lang/String", name := "valueOf", desc := "(C)Ljava/lang/String;" } : Jvm.MethodName) jdk_42_method_139_code (1 : Nat) (Option.some (Jvm.ClassFile.FieldType.object "java/lang/String")), Jvm.Cond.code ({ cls := "java/lang/StringLatin1", name := "canEncode", desc := "(C)Z" } : Jvm.MethodName) jdk_43_method_3_code (1 : Nat) (Option.some Jvm.ClassFile.FieldType.boolean), Jvm.Cond.code ({ cls := "java/lang/StringLatin1", name := "toBytes", desc := "(C)[B" } : Jvm.MethodName) jdk_43_method_46_code (1 : Nat) (Option.some (Jvm.ClassFile.FieldType.array Jvm.ClassFile.FieldType.byte)), Jvm.Cond.code ({ cls := "java/lang/String", name := "<init>", desc := "([BB)V" } : Jvm.MethodName) jdk_42_method_151_code (3 : Nat) (Option.none : Option Jvm.ClassFile.FieldType), Jvm.Cond.code ({ cls := "java/lang/Object", name := "<init>", desc := "()V" } : Jvm.MethodName) object_method_1_code (1 : Nat) (Option.none : Option Jvm.ClassFile.FieldType), Jvm.Cond.code ({ cls := "com/example/ispol/ispol/walls/TransparencyOfPinLaw", name := "edit", desc := "(Ljava/lang/String;IIC)Ljava/lang/String;" } : Jvm.MethodName) method_7_code (16 : Nat) (Option.some (Jvm.ClassFile.FieldType.object "java/lang/String")), Jvm.Cond.code ({ cls := "com/example/ispol/ispol/walls/TransparencyOfPinLaw", name := "at", desc := "(Ljava/lang/String;IIC)C" } : Jvm.MethodName) method_6_code (4 : Nat) (Option.some Jvm.ClassFile.FieldType.char), Jvm.Cond.code ({ cls := "java/lang/String", name := "charAt", desc := "(I)C" } : Jvm.MethodName) jdk_42_method_56_code (2 : Nat) (Option.some Jvm.ClassFile.FieldType.char), Jvm.Cond.code ({ cls := "java/lang/String", name := "isLatin1", desc := "()Z" } : Jvm.MethodName) jdk_42_method_154_code (1 : Nat) (Option.some Jvm.ClassFile.FieldType.boolean), Jvm.Cond.code ({ cls := "java/lang/StringLatin1", name := "charAt", desc := "([BI)C" } : Jvm.MethodName) jdk_43_method_2_code (2 : Nat) (Option.some Jvm.ClassFile.FieldType.char), Jvm.Cond.code ({ cls := "java/lang/String", name := "checkIndex", desc := "(II)V" } : Jvm.MethodName) jdk_42_method_155_code (2 : Nat) (Option.none : Option Jvm.ClassFile.FieldType), Jvm.Cond.code ({ cls := "jdk/internal/util/Preconditions", name := "checkIndex", desc := "(IILjava/util/function/BiFunction;)I" } : Jvm.MethodName) jdk_41_method_11_code (3 : Nat) (Option.some Jvm.ClassFile.FieldType.int), Jvm.Cond.code ({ cls := "java/lang/String", name := "<init>", desc := "([C)V" } : Jvm.MethodName) jdk_42_method_3_code (2 : Nat) (Option.none : Option Jvm.ClassFile.FieldType), Jvm.Cond.code ({ cls := "java/lang/String", name := "<init>", desc := "([CIILjava/lang/Void;)V" } : Jvm.MethodName) jdk_42_method_149_code (6 : Nat) (Option.none : Option Jvm.ClassFile.FieldType), Jvm.Cond.code ({ cls := "java/lang/StringUTF16", name := "compress", desc := "([CII)[B" } : Jvm.MethodName) jdk_52_method_16_code (6 : Nat) (Option.some (Jvm.ClassFile.FieldType.array Jvm.ClassFile.FieldType.byte)), Jvm.Cond.code ({ cls := "java/lang/StringUTF16", name := "compress", desc := "([CI[BII)I" } : Jvm.MethodName) jdk_52_method_21_code (7 : Nat) (Option.some Jvm.ClassFile.FieldType.int), Jvm.Cond.code ({ cls := "java/lang/StringUTF16", name := "coderFromArrayLen", desc := "([BI)B" } : Jvm.MethodName) jdk_52_method_15_code (2 : Nat) (Option.some Jvm.ClassFile.FieldType.byte), Jvm.Cond.code ({ cls := "com/example/ispol/ispol/walls/TransparencyOfPinLaw", name := "byteAt", desc := "(JI)C" } : Jvm.MethodName) method_3_code (3 : Nat) (Option.some Jvm.ClassFile.FieldType.char)]
set_option maxRecDepth 65536 in
theorem codes_eq : words1.filter isCode = codes1 := rfl
theorem w_codes : ∀ c ∈ words1.filter isCode, c.before args0 about1 = true := by
  rw [codes_eq]
  intro c hc
  simp only [codes1, List.mem_cons, List.not_mem_nil, or_false] at hc
  rcases hc with rfl | rfl | rfl | rfl | rfl | rfl | rfl | rfl | rfl | rfl | rfl | rfl | rfl | rfl | rfl | rfl | rfl | rfl | rfl | rfl | rfl | rfl | rfl | rfl | rfl | rfl | rfl
  · exact w_c0
  · exact w_c1
  · exact w_c2
  · exact w_c3
  · exact w_c4
  · exact w_c5
  · exact w_c6
  · exact w_c7
  · exact w_c8
  · exact w_c9
  · exact w_c10
  · exact w_c11
  · exact w_c12
  · exact w_c13
  · exact w_c14
  · exact w_c15
  · exact w_c16
  · exact w_c17
  · exact w_c18
  · exact w_c19
  · exact w_c20
  · exact w_c21
  · exact w_c22
  · exact w_c23
  · exact w_c24
  · exact w_c25
  · exact w_c26
set_option maxRecDepth 65536 in
theorem w_t1 : (words1.take 24).all (fun c => isCode c || c.before args0 about1) = true := by decide +kernel
set_option maxRecDepth 65536 in
theorem w_t2 : ((words1.drop 24).take 24).all (fun c => isCode c || c.before args0 about1) = true := by decide +kernel
set_option maxRecDepth 65536 in
theorem w_t3 : (((words1.drop 24).drop 24).take 24).all (fun c => isCode c || c.before args0 about1) = true := by decide +kernel
set_option maxRecDepth 65536 in
theorem w_t4 : ((((words1.drop 24).drop 24).drop 24).take 24).all (fun c => isCode c || c.before args0 about1) = true := by decide +kernel
set_option maxRecDepth 65536 in
theorem w_t5 : (((((words1.drop 24).drop 24).drop 24).drop 24).take 24).all (fun c => isCode c || c.before args0 about1) = true := by decide +kernel
set_option maxRecDepth 65536 in
theorem w_t6 : (((((words1.drop 24).drop 24).drop 24).drop 24).drop 24).all (fun c => isCode c || c.before args0 about1) = true := by decide +kernel
theorem w_tables : (allAtoms (Jvm.Cond.code x code maxLocals ret :: tables_1)).before args0 about1 = true := by
  rw [allAtoms_all]
  show words1.all (fun c => c.before args0 about1) = true
  refine all_split ?_ w_codes
  rw [← List.take_append_drop 24 words1, List.all_append, w_t1, ← List.take_append_drop 24 (words1.drop 24), List.all_append, w_t2, ← List.take_append_drop 24 ((words1.drop 24).drop 24), List.all_append, w_t3, ← List.take_append_drop 24 (((words1.drop 24).drop 24).drop 24), List.all_append, w_t4, ← List.take_append_drop 24 ((((words1.drop 24).drop 24).drop 24).drop 24), List.all_append, w_t5, w_t6]
  rfl
set_option maxRecDepth 65536 in
theorem w_rest : rest_1_c.before args0 about1 = true := by decide +kernel
set_option maxRecDepth 65536 in
theorem w_case : (Jvm.Cond.and given_1 narrow_1).before args0 about1 = true := by decide +kernel
set_option maxRecDepth 65536 in
theorem w_consts : constsHeld consts_1 about1 := Jvm.Lit.constsHeldB_iff.mp (by decide +kernel)
theorem w_applies : (headSpec (Jvm.Cond.code x code maxLocals ret :: tables_1) room_1).applies x e0.platform about1 = true :=
  (Spec.applies_iff w_frames).mpr ⟨w_running, w_runnable, w_alone, w_named, w_hears, w_ripe, w_room, w_tables⟩
theorem atStart : AtStart classFile x code maxLocals ret World_1 tables_1 room_1 Calls_1 rest_1 Pre_1 launch0 p0 e0 about1 theMethod args0 below0 :=
  ⟨lists_1, trivial, launch0.admits_env _ _ _, launch0.least_env, fairChoices_fair.cas, fairChoices_fair.clock, w_frames, w_args, w_heap, w_applies, ⟨w_consts, trivial⟩, w_rest, w_case⟩
end start1
theorem witness_1 : WitnessClaimed_1 := ⟨start1.p0, start1.e0, start1.about1, start1.theMethod, start1.args0, start1.below0, start1.atStart⟩
end Jvm.Pilot.@@N@@
