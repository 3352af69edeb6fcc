import JvmDerived
import JvmDerived.Pilot.@@N@@Statement
import JvmDerived.Pilot.@@N@@Code
set_option linter.unusedVariables false
set_option linter.unusedSimpArgs false
/- laws to paste: Road.backV, Road.chN, Road.codOf (cut by pick.py; bodies as the Statement names them) -/
namespace Jvm.Pilot.@@N@@
namespace StrChars
open Jvm Sem ClassFile Op Lib Jvm.Stand Jvm.Free.XT Jvm.Free.ALB Jvm.Free.JM Jvm.Free
open Jvm.Lib.Cold (StaticIs)
/-- a char array whose places are chars -/
def Ch (a : Addr) (A : Cell) (U : State) : Prop := Arr .char a A U ∧ Typed .char A
theorem Ch.mv {a : Addr} {A : Cell} {U U' : State} (h : Ch a A U) (hal : U.vm.Alike U'.vm) (hh : U'.heap = U.heap) : Ch a A U' := ⟨h.1.mv hal hh, h.2⟩
theorem Ch.keep {a : Addr} {A : Cell} {U U' : State} (h : Ch a A U) (hal : U.vm.Alike U'.vm) (hk : U'.heap[a]? = some A) : Ch a A U' := ⟨h.1.keep hal hk, h.2⟩
/-- what place i of a char[]'s cell holds -/
def cv (A : Cell) (i : Nat) : Int32 := match A.slots[i]? with | some (.int x) => x | _ => 0
theorem Ch.get {a : Addr} {A : Cell} {U : State} (h : Ch a A U) {i : Nat} (hi : i < A.slots.size) : A.slots[i]? = some (.int (cv A i)) := by
  have e := Array.getElem?_eq_getElem hi
  have f := h.2 i _ e
  unfold cv; rw [e]
  generalize A.slots[i] = v at f
  cases v <;> simp [fits] at f ⊢
/-- the byte that i2b leaves of a char -/
def lo8 (x : Int32) : Int32 := x.toInt8.toInt32
theorem fits_lo8 (y : Int32) : fits .byte (.int (lo8 y)) = true := by
  have h1 := y.toInt8.le_toInt
  have h2 := y.toInt8.toInt_lt
  simp only [lo8, fits, Bool.and_eq_true, decide_eq_true_eq, Int32.le_iff_toInt_le, Int8.toInt_toInt32, show (-128 : Int32).toInt = -128 from by decide, show (127 : Int32).toInt = 127 from by decide]
  omega
/-- A' is A but that each place j of lo .. hi - 1 holds f j -/
def Laid (A A' : Cell) (lo hi : Nat) (f : Nat → Value) : Prop := A'.cls = A.cls ∧ A'.vm = A.vm ∧ A'.slots.size = A.slots.size ∧ ∀ i, A'.slots[i]? = if lo ≤ i ∧ i < hi then some (f i) else A.slots[i]?
theorem Laid.zero (A : Cell) (lo : Nat) (f : Nat → Value) : Laid A A lo (lo + 0) f := ⟨rfl, rfl, rfl, fun i => by rw [if_neg (by omega)]⟩
theorem Laid.step {A Ak : Cell} {lo k : Nat} {f : Nat → Value} {v : Value} (h : Laid A Ak lo k f) (hlo : lo ≤ k) (hk : k < Ak.slots.size) (hv : v = f k) : Laid A (Ak.setSlot k v) lo (k + 1) f := by
  refine ⟨h.1, h.2.1, by simpa [Cell.setSlot] using h.2.2.1, fun i => ?_⟩
  by_cases e : k = i
  · subst e; rw [Cell.slots_setSlot_self v hk, if_pos (by omega), hv]
  · rw [Cell.slots_setSlot_ne v e, h.2.2.2 i]
    by_cases q : lo ≤ i ∧ i < k
    · rw [if_pos q, if_pos (by omega)]
    · rw [if_neg q, if_neg (by omega)]
def U16 : String := "java/lang/StringUTF16"
namespace Cmp5
def yN : MethodName := ⟨"java/lang/StringUTF16", "compress", "([CI[BII)I"⟩
abbrev yB : ByteArray := jdk_52_method_21_code
theorem d0 : decode yB 0 = .ok (.iconst 0, 1) := by decide +kernel
theorem d1 : decode yB 1 = .ok (.istore 5, 2) := by decide +kernel
theorem d3 : decode yB 3 = .ok (.iload 5, 2) := by decide +kernel
theorem d5 : decode yB 5 = .ok (.iload 4, 2) := by decide +kernel
theorem d7 : decode yB 7 = .ok (.if_icmp (.ge) 37, 3) := by decide +kernel
theorem d10 : decode yB 10 = .ok (.aload_n 0, 1) := by decide +kernel
theorem d11 : decode yB 11 = .ok (.iload_n 1, 1) := by decide +kernel
theorem d12 : decode yB 12 = .ok (.caload, 1) := by decide +kernel
theorem d13 : decode yB 13 = .ok (.istore 6, 2) := by decide +kernel
theorem d15 : decode yB 15 = .ok (.iload 6, 2) := by decide +kernel
theorem d17 : decode yB 17 = .ok (.sipush 255, 3) := by decide +kernel
theorem d20 : decode yB 20 = .ok (.if_icmp (.le) 6, 3) := by decide +kernel
theorem d26 : decode yB 26 = .ok (.aload_n 2, 1) := by decide +kernel
theorem d27 : decode yB 27 = .ok (.iload_n 3, 1) := by decide +kernel
theorem d28 : decode yB 28 = .ok (.iload 6, 2) := by decide +kernel
theorem d30 : decode yB 30 = .ok (.i2b, 1) := by decide +kernel
theorem d31 : decode yB 31 = .ok (.bastore, 1) := by decide +kernel
theorem d32 : decode yB 32 = .ok (.iinc 1 1, 3) := by decide +kernel
theorem d35 : decode yB 35 = .ok (.iinc 3 1, 3) := by decide +kernel
theorem d38 : decode yB 38 = .ok (.iinc 5 1, 3) := by decide +kernel
theorem d41 : decode yB 41 = .ok (.goto (-38), 3) := by decide +kernel
theorem d44 : decode yB 44 = .ok (.iload 4, 2) := by decide +kernel
theorem d46 : decode yB 46 = .ok (.ireturn, 1) := by decide +kernel
def site : List Cond := []
def tab : Cond := tabOf yN yB 7 (some .int) site
def P (b : Addr) (A : Cell) (d : Addr) (B : Cell) (o q len : Nat) (args : Array Value) (s : State) : Prop := args = #[.ref b, .int (Int32.ofNat o), .ref d, .int (Int32.ofNat q), .int (Int32.ofNat len)] ∧ Ch b A s ∧ Arr .byte d B s ∧ b ≠ d ∧ o + len ≤ A.slots.size ∧ q + len ≤ B.slots.size ∧ ∀ i, i < len → ¬ 255 < cv A (o + i)
def E (b : Addr) (A : Cell) (d : Addr) (B : Cell) (o q len : Nat) (r : Option Value) (s u : State) : Prop := r = some (.int (Int32.ofNat len)) ∧ ∃ B', Put d B' s u ∧ Laid B B' q (q + len) (fun j => Value.int (lo8 (cv A (o + (j - q)))))
/-- no char of the range above 255: len; the places written hold each char's low byte -/
theorem law (l : Launch) (b : Addr) (A : Cell) (d : Addr) (B : Cell) (o q len : Nat) : Law l yN 5 5 0 0 yB 7 (some .int) site (P b A d B o q len) (E b A d B o q len) (copyLocs d q len) 0 0 := by
  refine Law.of_walk (plainFor_of_name (by decide +kernel)) (by decide +kernel) (by decide +kernel) (by decide) (fun _ _ h => by rw [h.1]; rfl) (fun _ U U' hal hh h => ⟨h.1, h.2.1.mv hal hh, h.2.2.1.mv hal hh, h.2.2.2⟩) (fun r U U' V V' h1 hal h2 h => ⟨h.1, h.2.elim fun B' q => ⟨B', q.1.mv h1 h2, q.2⟩⟩) ?_
  intro p e s m args below meth c s₁ X0 hexec hbytes hml hret hlk hnm hown hh0 W hP
  obtain ⟨rfl, hA, hB, hne, l1, l2, hp⟩ := hP
  have c1 : Steps p.tables e below (s₁.setTop (entryFrame m #[.ref b, .int (Int32.ofNat o), .ref d, .int (Int32.ofNat q), .int (Int32.ofNat len)] 7)) (s₁.setTop (mkF m 0 #[.val (.ref b), .val (.int (Int32.ofNat o)), .val (.ref d), .val (.int (Int32.ofNat q)), .val (.int (Int32.ofNat len)), .unset, .unset] [])) := entry rfl
  have hA0 := hA.1.mv X0.warmed.alike hh0
  have hB0 := hB.mv X0.warmed.alike hh0
  have a31 := hA.1.2.2.2
  have c2 : Steps p.tables e below (s₁.setTop (entryFrame m #[.ref b, .int (Int32.ofNat o), .ref d, .int (Int32.ofNat q), .int (Int32.ofNat len)] 7)) (s₁.setTop (mkF m 3 #[.val (.ref b), .val (.int (Int32.ofNat o)), .val (.ref d), .val (.int (Int32.ofNat q)), .val (.int (Int32.ofNat len)), .val (.int 0), .unset] [])) := c1.trans (by
    refine iconstV X0.here hexec rfl 0 (hb hbytes d0) (by decide) ?_
    refine XS.istore X0.here hexec rfl (hb hbytes d1) rfl rfl ?_
    exact Steps.refl _)
  have loop : ∀ (r i : Nat), i + r = len → ∀ (z : Slot), (z = .unset ∨ ∃ w, z = .val w ∧ w.category = 1) → ∀ (Tl : State) (Bk : Cell), Stand p l e { frames := 0, locals := 0, cells := 0, slots := 0 } s m #[.ref b, .int (Int32.ofNat o), .ref d, .int (Int32.ofNat q), .int (Int32.ofNat len)] below meth c Tl ([] ++ copyLocs d q i) 0 0 → Put d Bk s₁ Tl → Laid B Bk q (q + i) (fun j => Value.int (lo8 (cv A (o + (j - q))))) →
      Steps p.tables e below (s₁.setTop (entryFrame m #[.ref b, .int (Int32.ofNat o), .ref d, .int (Int32.ofNat q), .int (Int32.ofNat len)] 7)) (Tl.setTop (mkF m 3 #[.val (.ref b), .val (.int (Int32.ofNat (o + i))), .val (.ref d), .val (.int (Int32.ofNat (q + i))), .val (.int (Int32.ofNat len)), .val (.int (Int32.ofNat i)), z] [])) → ∃ (T' : State) (B' : Cell) (z' : Slot), Stand p l e { frames := 0, locals := 0, cells := 0, slots := 0 } s m #[.ref b, .int (Int32.ofNat o), .ref d, .int (Int32.ofNat q), .int (Int32.ofNat len)] below meth c T' ([] ++ copyLocs d q len) 0 0 ∧ Put d B' s₁ T' ∧ Laid B B' q (q + len) (fun j => Value.int (lo8 (cv A (o + (j - q))))) ∧
      Steps p.tables e below (s₁.setTop (entryFrame m #[.ref b, .int (Int32.ofNat o), .ref d, .int (Int32.ofNat q), .int (Int32.ofNat len)] 7)) (T'.setTop (mkF m 3 #[.val (.ref b), .val (.int (Int32.ofNat (o + len))), .val (.ref d), .val (.int (Int32.ofNat (q + len))), .val (.int (Int32.ofNat len)), .val (.int (Int32.ofNat len)), z'] [])) := by
    intro r
    induction r with
    | zero =>
      intro i hi z hz Tl Bk Xl pl fl cl
      have hil : i = len := by omega
      rw [hil] at Xl fl cl
      exact ⟨Tl, Bk, z, Xl, pl, fl, cl⟩
    | succ r ih =>
      intro i hi z hz Tl Bk Xl pl fl cl
      have all := X0.warmed.alike.symm.trans Xl.warmed.alike
      have hAl := hA0.keep all (pl.other hne hA0.1)
      have hBk := hB0.like all pl.1 fl.1 fl.2.1 fl.2.2.1
      have hlt : q + i < Bk.slots.size := by rw [fl.2.2.1]; omega
      have c3 : Steps p.tables e below (s₁.setTop (entryFrame m #[.ref b, .int (Int32.ofNat o), .ref d, .int (Int32.ofNat q), .int (Int32.ofNat len)] 7)) (Tl.setTop (mkF m 12 #[.val (.ref b), .val (.int (Int32.ofNat (o + i))), .val (.ref d), .val (.int (Int32.ofNat (q + i))), .val (.int (Int32.ofNat len)), .val (.int (Int32.ofNat i)), z] [.int (Int32.ofNat (o + i)), .ref b])) := cl.trans (by
        refine XS.iload Xl.here hexec rfl (hb hbytes d3) rfl ?_
        refine XS.iload Xl.here hexec rfl (hb hbytes d5) rfl ?_
        refine XS.icmpNo Xl.here hexec rfl (hb hbytes d7) rfl (ii_ge_f (lt32 (by omega) (by omega))) ?_
        refine XS.aloadN Xl.here hexec rfl (hb hbytes d10) rfl rfl ?_
        refine XS.iloadN Xl.here hexec rfl (hb hbytes d11) rfl ?_
        exact Steps.refl _)
      have c4 : Steps p.tables e below (s₁.setTop (entryFrame m #[.ref b, .int (Int32.ofNat o), .ref d, .int (Int32.ofNat q), .int (Int32.ofNat len)] 7)) (Tl.setTop (mkF m 13 #[.val (.ref b), .val (.int (Int32.ofNat (o + i))), .val (.ref d), .val (.int (Int32.ofNat (q + i))), .val (.int (Int32.ofNat len)), .val (.int (Int32.ofNat i)), z] [.int (cv A (o + i))])) := c3.trans (by
        refine Xl.aget hexec hAl rfl (hA.get (i := o + i) (by omega)) rfl rfl (hb hbytes d12) ?_
        exact Steps.refl _)
      have c5 : Steps p.tables e below (s₁.setTop (entryFrame m #[.ref b, .int (Int32.ofNat o), .ref d, .int (Int32.ofNat q), .int (Int32.ofNat len)] 7)) (Tl.setTop (mkF m 15 #[.val (.ref b), .val (.int (Int32.ofNat (o + i))), .val (.ref d), .val (.int (Int32.ofNat (q + i))), .val (.int (Int32.ofNat len)), .val (.int (Int32.ofNat i)), .val (.int (cv A (o + i)))] [])) := c4.trans (by
        refine XS.istoreS Xl.here hexec rfl (hb hbytes d13) rfl rfl hz ?_
        exact Steps.refl _)
      have c6 : Steps p.tables e below (s₁.setTop (entryFrame m #[.ref b, .int (Int32.ofNat o), .ref d, .int (Int32.ofNat q), .int (Int32.ofNat len)] 7)) (Tl.setTop (mkF m 31 #[.val (.ref b), .val (.int (Int32.ofNat (o + i))), .val (.ref d), .val (.int (Int32.ofNat (q + i))), .val (.int (Int32.ofNat len)), .val (.int (Int32.ofNat i)), .val (.int (cv A (o + i)))] [.int (lo8 (cv A (o + i))), .int (Int32.ofNat (q + i)), .ref d])) := c5.trans (by
        refine XS.iload Xl.here hexec rfl (hb hbytes d15) rfl ?_
        refine sipushV Xl.here hexec rfl 255 (hb hbytes d17) (by decide) ?_
        refine XS.icmpYes Xl.here hexec rfl (pc0 := 20) rfl (hb hbytes d20) rfl (ii_le_t (hp i (by omega))) (by decide) rfl ?_
        refine XS.aloadN Xl.here hexec rfl (hb hbytes d26) rfl rfl ?_
        refine XS.iloadN Xl.here hexec rfl (hb hbytes d27) rfl ?_
        refine XS.iload Xl.here hexec rfl (hb hbytes d28) rfl ?_
        refine i2b Xl.here hexec rfl (hb hbytes d30) rfl ?_
        exact Steps.refl _)
      obtain ⟨T7, X7, p7, st7⟩ := Xl.aput hexec hBk rfl hlt rfl (fits_lo8 (cv A (o + i))) (g := (mkF m 31 #[.val (.ref b), .val (.int (Int32.ofNat (o + i))), .val (.ref d), .val (.int (Int32.ofNat (q + i))), .val (.int (Int32.ofNat len)), .val (.int (Int32.ofNat i)), .val (.int (cv A (o + i)))] [.int (lo8 (cv A (o + i))), .int (Int32.ofNat (q + i)), .ref d])) rfl (rest := []) rfl (hb hbytes d31)
      have c8 : Steps p.tables e below (s₁.setTop (entryFrame m #[.ref b, .int (Int32.ofNat o), .ref d, .int (Int32.ofNat q), .int (Int32.ofNat len)] 7)) (T7.setTop (mkF m 32 #[.val (.ref b), .val (.int (Int32.ofNat (o + i))), .val (.ref d), .val (.int (Int32.ofNat (q + i))), .val (.int (Int32.ofNat len)), .val (.int (Int32.ofNat i)), .val (.int (cv A (o + i)))] [])) := c6.trans (st7 _ (Steps.refl _))
      have c9 : Steps p.tables e below (s₁.setTop (entryFrame m #[.ref b, .int (Int32.ofNat o), .ref d, .int (Int32.ofNat q), .int (Int32.ofNat len)] 7)) (T7.setTop (mkF m 3 #[.val (.ref b), .val (.int (Int32.ofNat (o + i) + 1)), .val (.ref d), .val (.int (Int32.ofNat (q + i) + 1)), .val (.int (Int32.ofNat len)), .val (.int (Int32.ofNat i + 1)), .val (.int (cv A (o + i)))] [])) := c8.trans (by
        refine iincV X7.here hexec rfl 1 (hb hbytes d32) (by decide) rfl rfl ?_
        refine iincV X7.here hexec rfl 1 (hb hbytes d35) (by decide) rfl rfl ?_
        refine iincV X7.here hexec rfl 1 (hb hbytes d38) (by decide) rfl rfl ?_
        refine XS.goto X7.here hexec rfl (pc0 := 41) rfl (hb hbytes d41) (by decide) rfl ?_
        exact Steps.refl _)
      have c10 : Steps p.tables e below (s₁.setTop (entryFrame m #[.ref b, .int (Int32.ofNat o), .ref d, .int (Int32.ofNat q), .int (Int32.ofNat len)] 7)) (T7.setTop (mkF m 3 #[.val (.ref b), .val (.int (Int32.ofNat (o + (i + 1)))), .val (.ref d), .val (.int (Int32.ofNat (q + (i + 1)))), .val (.int (Int32.ofNat len)), .val (.int (Int32.ofNat (i + 1))), .val (.int (cv A (o + i)))] [])) := by
        have := c9
        rw [succ32, succ32, succ32] at this
        exact this
      exact ih (i + 1) (by omega) _ (Or.inr ⟨_, rfl, rfl⟩) T7 _ (by rw [copyLocs_step, ← List.append_assoc]; exact X7) (pl.trans p7) (fl.step (by omega) hlt (by simp)) c10
  obtain ⟨T9, B9, z9, X9, p9, f9, g9⟩ := loop len 0 (by omega) .unset (Or.inl rfl) s₁ B (by simpa [copyLocs] using X0) ⟨hB0.1, fun _ _ => rfl, rfl⟩ (Laid.zero _ _ _) c2
  have c11 : Steps p.tables e below (s₁.setTop (entryFrame m #[.ref b, .int (Int32.ofNat o), .ref d, .int (Int32.ofNat q), .int (Int32.ofNat len)] 7)) (T9.setTop (mkF m 46 #[.val (.ref b), .val (.int (Int32.ofNat (o + len))), .val (.ref d), .val (.int (Int32.ofNat (q + len))), .val (.int (Int32.ofNat len)), .val (.int (Int32.ofNat len)), z9] [.int (Int32.ofNat len)])) := g9.trans (by
    refine XS.iload X9.here hexec rfl (hb hbytes d3) rfl ?_
    refine XS.iload X9.here hexec rfl (hb hbytes d5) rfl ?_
    refine XS.icmpYes X9.here hexec rfl (pc0 := 7) rfl (hb hbytes d7) rfl (ii_ge_t (nlt32 (by omega) (Nat.le_refl _))) (by decide) rfl ?_
    refine XS.iload X9.here hexec rfl (hb hbytes d44) rfl ?_
    exact Steps.refl _)
  exact ⟨T9, some (.int (Int32.ofNat len)), _, _, _, X9, by simp, rfl, rfl, (fun h => by cases h), ⟨rfl, B9, p9.from hh0, f9⟩, fun fs hl => c11.trans (X9.ireturnOut hexec hret rfl (Or.inl rfl) (hb hbytes d46) hl)⟩
end Cmp5
namespace Cmp3
def yN : MethodName := ⟨"java/lang/StringUTF16", "compress", "([CII)[B"⟩
abbrev yB : ByteArray := jdk_52_method_16_code
theorem d0 : decode yB 0 = .ok (.iload_n 2, 1) := by decide +kernel
theorem d1 : decode yB 1 = .ok (.newarray .byte, 2) := by decide +kernel
theorem d3 : decode yB 3 = .ok (.astore_n 3, 1) := by decide +kernel
theorem d4 : decode yB 4 = .ok (.aload_n 0, 1) := by decide +kernel
theorem d5 : decode yB 5 = .ok (.iload_n 1, 1) := by decide +kernel
theorem d6 : decode yB 6 = .ok (.aload_n 3, 1) := by decide +kernel
theorem d7 : decode yB 7 = .ok (.iconst 0, 1) := by decide +kernel
theorem d8 : decode yB 8 = .ok (.iload_n 2, 1) := by decide +kernel
theorem d9 : decode yB 9 = .ok (.invokestatic 115, 3) := by decide +kernel
theorem d12 : decode yB 12 = .ok (.istore 4, 2) := by decide +kernel
theorem d14 : decode yB 14 = .ok (.iload 4, 2) := by decide +kernel
theorem d16 : decode yB 16 = .ok (.iload_n 2, 1) := by decide +kernel
theorem d17 : decode yB 17 = .ok (.if_icmp (.eq) 40, 3) := by decide +kernel
theorem d57 : decode yB 57 = .ok (.aload_n 3, 1) := by decide +kernel
theorem d58 : decode yB 58 = .ok (.areturn, 1) := by decide +kernel
def site : List Cond := [.arrayClass .byte, Cmp5.tab] ++ staticW U16 115 Cmp5.yN
def tab : Cond := tabOf yN yB 6 (some (.array .byte)) site
def P (b : Addr) (A : Cell) (o len : Nat) (args : Array Value) (s : State) : Prop := args = #[.ref b, .int (Int32.ofNat o), .int (Int32.ofNat len)] ∧ Ch b A s ∧ o + len ≤ A.slots.size ∧ len ≤ 536870912 ∧ ∀ i, i < len → ¬ 255 < cv A (o + i)
def E (b : Addr) (A : Cell) (o len : Nat) (r : Option Value) (s u : State) : Prop := NewArr .byte "[B" len (fun j => .int (lo8 (cv A (o + j)))) r s u ∧ u.heap.size = s.heap.size + 1
/-- no char of the range above 255: a new byte[] of their low bytes -/
theorem law (l : Launch) (b : Addr) (A : Cell) (o len : Nat) : Law l yN 3 3 1 18 yB 6 (some (.array .byte)) site (P b A o len) (E b A o len) [] 1 len := by
  refine Law.of_walk (plainFor_of_name (by decide +kernel)) (by decide +kernel) (by decide +kernel) (by decide) (fun _ _ h => by rw [h.1]; rfl) (fun _ U U' hal hh h => ⟨h.1, h.2.1.mv hal hh, h.2.2⟩) (fun r U U' V V' h1 hal h2 h => ⟨NewArr.mv r U U' V V' h1 hal h2 h.1, by rw [h1, h2]; exact h.2⟩) ?_
  intro p e s m args below meth c s₁ X0 hexec hbytes hml hret hlk hnm hown hh0 W hP
  obtain ⟨rfl, hA, l1, l2, hp⟩ := hP
  have a31 := hA.1.2.2.2
  have c1 : Steps p.tables e below (s₁.setTop (entryFrame m #[.ref b, .int (Int32.ofNat o), .int (Int32.ofNat len)] 6)) (s₁.setTop (mkF m 0 #[.val (.ref b), .val (.int (Int32.ofNat o)), .val (.int (Int32.ofNat len)), .unset, .unset, .unset] [])) := entry rfl
  have c2 : Steps p.tables e below (s₁.setTop (entryFrame m #[.ref b, .int (Int32.ofNat o), .int (Int32.ofNat len)] 6)) (s₁.setTop (mkF m 1 #[.val (.ref b), .val (.int (Int32.ofNat o)), .val (.int (Int32.ofNat len)), .unset, .unset, .unset] [.int (Int32.ofNat len)])) := c1.trans (by
    refine XS.iloadN X0.here hexec rfl (hb hbytes d0) rfl ?_
    exact Steps.refl _)
  obtain ⟨T3, B3, X3, ba3, bs3, bv3, bh3, bf3, st3⟩ := X0.anew hexec (atype := .byte) (wk W (.arrayClass .byte)) rfl (by show len * 1 ≤ _; omega) (by omega) (g := (mkF m 1 #[.val (.ref b), .val (.int (Int32.ofNat o)), .val (.int (Int32.ofNat len)), .unset, .unset, .unset] [.int (Int32.ofNat len)])) rfl (hb hbytes d1) (rest := []) rfl (Nat.le_refl _) (by show 0 + len ≤ len; omega)
  rw [hh0] at ba3 st3
  have kp3 : XT.Kept s T3 := (XT.Kept.of_eq hh0).push bh3
  have hA3 := hA.keep X3.warmed.alike (kp3 _ _ hA.1.1)
  have hne : b ≠ s.heap.size := hA.1.ne
  have c4 : Steps p.tables e below (s₁.setTop (entryFrame m #[.ref b, .int (Int32.ofNat o), .int (Int32.ofNat len)] 6)) (T3.setTop (mkF m 3 #[.val (.ref b), .val (.int (Int32.ofNat o)), .val (.int (Int32.ofNat len)), .unset, .unset, .unset] [.ref s.heap.size])) := c2.trans (st3 _ (Steps.refl _))
  have c5 : Steps p.tables e below (s₁.setTop (entryFrame m #[.ref b, .int (Int32.ofNat o), .int (Int32.ofNat len)] 6)) (T3.setTop (mkF m 9 #[.val (.ref b), .val (.int (Int32.ofNat o)), .val (.int (Int32.ofNat len)), .val (.ref s.heap.size), .unset, .unset] [.int (Int32.ofNat len), .int 0, .ref s.heap.size, .int (Int32.ofNat o), .ref b])) := c4.trans (by
    refine XS.astoreN X3.here hexec rfl (hb hbytes d3) rfl rfl rfl ?_
    refine XS.aloadN X3.here hexec rfl (hb hbytes d4) rfl rfl ?_
    refine XS.iloadN X3.here hexec rfl (hb hbytes d5) rfl ?_
    refine XS.aloadN X3.here hexec rfl (hb hbytes d6) rfl rfl ?_
    refine iconstV X3.here hexec rfl 0 (hb hbytes d7) (by decide) ?_
    refine XS.iloadN X3.here hexec rfl (hb hbytes d8) rfl ?_
    exact Steps.refl _)
  obtain ⟨v6, T6, X6, E6, g6⟩ := X3.callS hexec (Cmp5.law l b A s.heap.size B3 o 0 len) hown (wks W (staticW U16 115 Cmp5.yN)) (wk W Cmp5.tab) (W := 0) (Nat.le_of_ble_eq_true rfl) (Nat.le_of_ble_eq_true rfl) (Nat.le_refl _) (by show 0 + len + 0 ≤ len; omega) (g := (mkF m 9 #[.val (.ref b), .val (.int (Int32.ofNat o)), .val (.int (Int32.ofNat len)), .val (.ref s.heap.size), .unset, .unset] [.int (Int32.ofNat len), .int (Int32.ofNat 0), .ref s.heap.size, .int (Int32.ofNat o), .ref b])) rfl (by rw [hml]; rfl) c5 (argsL := [.ref b, .int (Int32.ofNat o), .ref s.heap.size, .int (Int32.ofNat 0), .int (Int32.ofNat len)]) (rest := []) rfl rfl (by show 2 * 0 + 0 ≤ _; decide) (hb hbytes d9) (⟨rfl, hA3, ba3, hne, l1, by rw [bs3]; simp, hp⟩)
  obtain ⟨rfl, B6, p6, f6⟩ := E6
  have c7 : Steps p.tables e below (s₁.setTop (entryFrame m #[.ref b, .int (Int32.ofNat o), .int (Int32.ofNat len)] 6)) (T6.setTop (mkF m 12 #[.val (.ref b), .val (.int (Int32.ofNat o)), .val (.int (Int32.ofNat len)), .val (.ref s.heap.size), .unset, .unset] [.int (Int32.ofNat len)])) := g6
  have c8 : Steps p.tables e below (s₁.setTop (entryFrame m #[.ref b, .int (Int32.ofNat o), .int (Int32.ofNat len)] 6)) (T6.setTop (mkF m 58 #[.val (.ref b), .val (.int (Int32.ofNat o)), .val (.int (Int32.ofNat len)), .val (.ref s.heap.size), .val (.int (Int32.ofNat len)), .unset] [.ref s.heap.size])) := c7.trans (by
    refine XS.istore X6.here hexec rfl (hb hbytes d12) rfl rfl ?_
    refine XS.iload X6.here hexec rfl (hb hbytes d14) rfl ?_
    refine XS.iloadN X6.here hexec rfl (hb hbytes d16) rfl ?_
    refine XS.icmpYes X6.here hexec rfl (pc0 := 17) rfl (hb hbytes d17) rfl (ii_eq_t rfl) (by decide) rfl ?_
    refine XS.aloadN X6.here hexec rfl (hb hbytes d57) rfl rfl ?_
    exact Steps.refl _)
  have X8 := X6.wide (L' := []) (cells' := 1) (slots' := len) (fun x hx hlt => by
    simp only [List.nil_append, copyLocs, List.mem_map, List.mem_range] at hx
    obtain ⟨i, -, rfl⟩ := hx
    exact absurd hlt (Nat.lt_irrefl _)) (Nat.le_refl _) (by omega)
  exact ⟨T6, some (.ref s.heap.size), _, _, _, X8, rfl, rfl, rfl, (fun h => by cases h), ⟨⟨rfl, B6, ba3.like (X3.warmed.alike.symm.trans X6.warmed.alike) p6.1 f6.1 f6.2.1 f6.2.2.1, f6.2.1.trans bv3, by rw [X6.warmed.alike.findClass, f6.1]; exact bf3, by rw [f6.2.2.1, bs3]; simp, fun j hj => by rw [f6.2.2.2 j, if_pos (by omega)]; rfl, kp3.put p6 (Nat.le_refl _)⟩, by rw [p6.2.2, bh3, hh0]; simp⟩, fun fs hl => c8.trans (X8.areturnOut hexec rfl hret rfl (hb hbytes d58) hl)⟩
end Cmp3
namespace CodL
def yN : MethodName := ⟨"java/lang/StringUTF16", "coderFromArrayLen", "([BI)B"⟩
abbrev yB : ByteArray := jdk_52_method_15_code
theorem d0 : decode yB 0 = .ok (.iload_n 1, 1) := by decide +kernel
theorem d1 : decode yB 1 = .ok (.aload_n 0, 1) := by decide +kernel
theorem d2 : decode yB 2 = .ok (.arraylength, 1) := by decide +kernel
theorem d3 : decode yB 3 = .ok (.isub, 1) := by decide +kernel
theorem d4 : decode yB 4 = .ok (.bipush 31, 2) := by decide +kernel
theorem d6 : decode yB 6 = .ok (.iushr, 1) := by decide +kernel
theorem d7 : decode yB 7 = .ok (.i2b, 1) := by decide +kernel
theorem d8 : decode yB 8 = .ok (.ireturn, 1) := by decide +kernel
def site : List Cond := []
def tab : Cond := tabOf yN yB 2 (some .byte) site
def P (d : Addr) (B : Cell) (args : Array Value) (s : State) : Prop := args = #[.ref d, .int (Int32.ofNat B.slots.size)] ∧ Arr .byte d B s
def E (r : Option Value) (s u : State) : Prop := XT.PureE (some (.int 0)) r s u
/-- an array as long as the number of chars: LATIN1 -/
theorem law (l : Launch) (d : Addr) (B : Cell) : Law l yN 2 2 0 0 yB 2 (some .byte) site (P d B) E [] 0 0 := by
  refine Law.of_walk (plainFor_of_name (by decide +kernel)) (by decide +kernel) (by decide +kernel) (by decide) (fun _ _ h => by rw [h.1]; rfl) (fun _ U U' hal hh h => ⟨h.1, h.2.mv hal hh⟩) (fun r U U' V V' h1 hal h2 h => XT.PureE.mv r U U' V V' h1 hal h2 h) ?_
  intro p e s m args below meth c s₁ X0 hexec hbytes hml hret hlk hnm hown hh0 W hP
  obtain ⟨rfl, hB⟩ := hP
  have hB0 := hB.mv X0.warmed.alike hh0
  have c1 : Steps p.tables e below (s₁.setTop (entryFrame m #[.ref d, .int (Int32.ofNat B.slots.size)] 2)) (s₁.setTop (mkF m 0 #[.val (.ref d), .val (.int (Int32.ofNat B.slots.size))] [])) := entry rfl
  have c2 : Steps p.tables e below (s₁.setTop (entryFrame m #[.ref d, .int (Int32.ofNat B.slots.size)] 2)) (s₁.setTop (mkF m 2 #[.val (.ref d), .val (.int (Int32.ofNat B.slots.size))] [.ref d, .int (Int32.ofNat B.slots.size)])) := c1.trans (by
    refine XS.iloadN X0.here hexec rfl (hb hbytes d0) rfl ?_
    refine XS.aloadN X0.here hexec rfl (hb hbytes d1) rfl rfl ?_
    exact Steps.refl _)
  have c3 : Steps p.tables e below (s₁.setTop (entryFrame m #[.ref d, .int (Int32.ofNat B.slots.size)] 2)) (s₁.setTop (mkF m 8 #[.val (.ref d), .val (.int (Int32.ofNat B.slots.size))] [.int (lo8 (ushr (Int32.ofNat B.slots.size - Int32.ofNat B.slots.size) 31))])) := c2.trans (by
    refine X0.alen hexec hB0 rfl rfl (hb hbytes d2) ?_
    refine XS.isub X0.here hexec rfl (hb hbytes d3) rfl ?_
    refine bipushV X0.here hexec rfl 31 (hb hbytes d4) (by decide) ?_
    refine iushr X0.here hexec rfl (hb hbytes d6) rfl ?_
    refine i2b X0.here hexec rfl (hb hbytes d7) rfl ?_
    exact Steps.refl _)
  have e0 : lo8 (ushr (Int32.ofNat B.slots.size - Int32.ofNat B.slots.size) 31) = 0 := by rw [Int32.sub_self]; decide
  rw [e0] at c3
  exact ⟨s₁, some (.int 0), _, _, _, X0, rfl, rfl, rfl, (fun h => by cases h), ⟨rfl, hh0⟩, fun fs hl => c3.trans (X0.ireturnOut hexec hret rfl (Or.inr (Or.inr (Or.inl rfl))) (hb hbytes d8) hl)⟩
end CodL
/-- the String at a is Latin-1 over a new byte[] (the heap's one new cell): the low bytes of the len chars of A from o on; every cell but a is kept -/
def Got (a : Addr) (D : Cell) (fV fC : Field) (A : Cell) (o len : Nat) (r : Option Value) (s u : State) : Prop := r = none ∧ ∃ D' V : Cell, Blank "java/lang/String" a D' u ∧ Same D D' [fV.slot, fC.slot] ∧ D'.slots[fV.slot]? = some (.ref s.heap.size) ∧ D'.slots[fC.slot]? = some (.int 0) ∧ Arr .byte s.heap.size V u ∧ V.vm = .none ∧ u.vm.findClass "[B" = some V.cls ∧ V.slots.size = len ∧ (∀ j, j < len → V.slots[j]? = some (.int (lo8 (cv A (o + j))))) ∧ (∀ (y : Addr) (c : Cell), y ≠ a → s.heap[y]? = some c → u.heap[y]? = some c) ∧ u.heap.size = s.heap.size + 1
theorem Got.mv {a : Addr} {D A : Cell} {fV fC : Field} {o len : Nat} : ∀ r (U U' V V' : State), U'.heap = U.heap → V.vm.Alike V'.vm → V'.heap = V.heap → Got a D fV fC A o len r U V → Got a D fV fC A o len r U' V' :=
  fun r U U' V V' h1 hal h2 ⟨e0, D', X, a1, a2, a3, a4, a5, a6, a7, a8, a9, a10, a11⟩ => ⟨e0, D', X, a1.mv hal h2, a2, by rw [h1]; exact a3, a4, by rw [h1]; exact a5.mv hal h2, a6, by rw [hal.findClass]; exact a7, a8, a9, by rw [h1, h2]; exact a10, by rw [h1, h2]; exact a11⟩
namespace New4
def yN : MethodName := ⟨"java/lang/String", "<init>", "([CIILjava/lang/Void;)V"⟩
abbrev yB : ByteArray := jdk_42_method_149_code
theorem d0 : decode yB 0 = .ok (.aload_n 0, 1) := by decide +kernel
theorem d1 : decode yB 1 = .ok (.invokespecial 1, 3) := by decide +kernel
theorem d4 : decode yB 4 = .ok (.iload_n 3, 1) := by decide +kernel
theorem d5 : decode yB 5 = .ok (.ifCond (.ne) 22, 3) := by decide +kernel
theorem d27 : decode yB 27 = .ok (.getstatic 38, 3) := by decide +kernel
theorem d30 : decode yB 30 = .ok (.ifCond (.eq) 28, 3) := by decide +kernel
theorem d33 : decode yB 33 = .ok (.aload_n 1, 1) := by decide +kernel
theorem d34 : decode yB 34 = .ok (.iload_n 2, 1) := by decide +kernel
theorem d35 : decode yB 35 = .ok (.iload_n 3, 1) := by decide +kernel
theorem d36 : decode yB 36 = .ok (.invokestatic 177, 3) := by decide +kernel
theorem d39 : decode yB 39 = .ok (.astore 5, 2) := by decide +kernel
theorem d41 : decode yB 41 = .ok (.aload_n 0, 1) := by decide +kernel
theorem d42 : decode yB 42 = .ok (.aload 5, 2) := by decide +kernel
theorem d44 : decode yB 44 = .ok (.iload_n 3, 1) := by decide +kernel
theorem d45 : decode yB 45 = .ok (.invokestatic 47, 3) := by decide +kernel
theorem d48 : decode yB 48 = .ok (.putfield 15, 3) := by decide +kernel
theorem d51 : decode yB 51 = .ok (.aload_n 0, 1) := by decide +kernel
theorem d52 : decode yB 52 = .ok (.aload 5, 2) := by decide +kernel
theorem d54 : decode yB 54 = .ok (.putfield 9, 3) := by decide +kernel
theorem d57 : decode yB 57 = .ok (.return_, 1) := by decide +kernel
def site : List Cond := [.fieldLink "java/lang/String" 38 "java/lang/String" "COMPACT_STRINGS" "Z", Cmp3.tab, CodL.tab, .laysFinal "java/lang/String" "java/lang/String" "value" "[B", .fieldLink "java/lang/String" 9 "java/lang/String" "value" "[B", .laysFinal "java/lang/String" "java/lang/String" "coder" "B", .fieldLink "java/lang/String" 15 "java/lang/String" "coder" "B"] ++ objW "java/lang/String" 1 ++ staticW "java/lang/String" 177 Cmp3.yN ++ staticW "java/lang/String" 47 CodL.yN
def tab : Cond := tabOf yN yB 6 none site
def P (a : Addr) (D : Cell) (fV fC : Field) (b : Addr) (A : Cell) (z : Int32) (o len : Nat) (args : Array Value) (s : State) : Prop := args = #[.ref a, .ref b, .int (Int32.ofNat o), .int (Int32.ofNat len), .null] ∧ Blank "java/lang/String" a D s ∧ Found "java/lang/String" "value" "[B" fV s ∧ Found "java/lang/String" "coder" "B" fC s ∧ Ch b A s ∧ StaticIs s "java/lang/String" "COMPACT_STRINGS" "Z" (.int z) ∧ ¬ z = 0 ∧ 0 < len ∧ o + len ≤ A.slots.size ∧ len ≤ 536870912 ∧ ∀ i, i < len → ¬ 255 < cv A (o + i)
def E (a : Addr) (D : Cell) (fV fC : Field) (A : Cell) (o len : Nat) (r : Option Value) (s u : State) : Prop := Got a D fV fC A o len r s u
/-- len > 0, no char of the range above 255: a Latin-1 String of their low bytes -/
theorem law (l : Launch) (a : Addr) (D : Cell) (fV fC : Field) (b : Addr) (A : Cell) (z : Int32) (o len : Nat) : Law l yN 5 4 2 35 yB 6 none site (P a D fV fC b A z o len) (E a D fV fC A o len) [⟨a, fC.slot⟩, ⟨a, fV.slot⟩] 1 len := by
  refine Law.of_walk (plainFor_of_name (by decide +kernel)) (by decide +kernel) (by decide +kernel) (by decide) (fun _ _ h => by rw [h.1]; rfl) (fun _ U U' hal hh h => ⟨h.1, h.2.1.mv hal hh, h.2.2.1.al hal, h.2.2.2.1.al hal, h.2.2.2.2.1.mv hal hh, h.2.2.2.2.2.1.there hal hh, h.2.2.2.2.2.2⟩) (fun r U U' V V' h1 hal h2 h => Got.mv r U U' V V' h1 hal h2 h) ?_
  intro p e s m args below meth c s₁ X0 hexec hbytes hml hret hlk hnm hown hh0 W hP
  obtain ⟨rfl, hB, f1, f2, hA, s1, hz, l0, l1, l2, hp⟩ := hP
  have a31 := hA.1.2.2.2
  have c1 : Steps p.tables e below (s₁.setTop (entryFrame m #[.ref a, .ref b, .int (Int32.ofNat o), .int (Int32.ofNat len), .null] 6)) (s₁.setTop (mkF m 0 #[.val (.ref a), .val (.ref b), .val (.int (Int32.ofNat o)), .val (.int (Int32.ofNat len)), .val .null, .unset] [])) := entry rfl
  have c2 : Steps p.tables e below (s₁.setTop (entryFrame m #[.ref a, .ref b, .int (Int32.ofNat o), .int (Int32.ofNat len), .null] 6)) (s₁.setTop (mkF m 1 #[.val (.ref a), .val (.ref b), .val (.int (Int32.ofNat o)), .val (.int (Int32.ofNat len)), .val .null, .unset] [.ref a])) := c1.trans (by
    refine XS.aloadN X0.here hexec rfl (hb hbytes d0) rfl rfl ?_
    exact Steps.refl _)
  obtain ⟨T3, X3, q3, st3⟩ := X0.oinit hexec hown (wks W (objW "java/lang/String" 1)) (g := (mkF m 1 #[.val (.ref a), .val (.ref b), .val (.int (Int32.ofNat o)), .val (.int (Int32.ofNat len)), .val .null, .unset] [.ref a])) rfl (by rw [hml]; rfl) (rest := []) rfl (hb hbytes d1) (W := 0) (by show 2 * 0 + 0 ≤ _; decide) (Nat.le_of_ble_eq_true rfl) (Nat.le_of_ble_eq_true rfl)
  have hh3 := q3.trans hh0
  have c4 : Steps p.tables e below (s₁.setTop (entryFrame m #[.ref a, .ref b, .int (Int32.ofNat o), .int (Int32.ofNat len), .null] 6)) (T3.setTop (mkF m 27 #[.val (.ref a), .val (.ref b), .val (.int (Int32.ofNat o)), .val (.int (Int32.ofNat len)), .val .null, .unset] [])) := (c2.trans (st3 _ (Steps.refl _))).trans (by
    refine XS.iloadN X3.here hexec rfl (hb hbytes d4) rfl ?_
    refine XS.ifYes X3.here hexec rfl (pc0 := 5) rfl (hb hbytes d5) rfl (i0_ne_t (nz32 (by omega) l0)) (by decide) rfl ?_
    exact Steps.refl _)
  obtain ⟨T5, X5, q5, st5⟩ := X3.sget hexec hown (wk W (.fieldLink "java/lang/String" 38 "java/lang/String" "COMPACT_STRINGS" "Z")) s1 (fun _ _ h => by rw [hh3]; exact h) (g := (mkF m 27 #[.val (.ref a), .val (.ref b), .val (.int (Int32.ofNat o)), .val (.int (Int32.ofNat len)), .val .null, .unset] [])) rfl (hb hbytes d27)
  have hh5 := q5.trans hh3
  have c6 : Steps p.tables e below (s₁.setTop (entryFrame m #[.ref a, .ref b, .int (Int32.ofNat o), .int (Int32.ofNat len), .null] 6)) (T5.setTop (mkF m 30 #[.val (.ref a), .val (.ref b), .val (.int (Int32.ofNat o)), .val (.int (Int32.ofNat len)), .val .null, .unset] [.int z])) := c4.trans (st5 _ (Steps.refl _))
  have c7 : Steps p.tables e below (s₁.setTop (entryFrame m #[.ref a, .ref b, .int (Int32.ofNat o), .int (Int32.ofNat len), .null] 6)) (T5.setTop (mkF m 36 #[.val (.ref a), .val (.ref b), .val (.int (Int32.ofNat o)), .val (.int (Int32.ofNat len)), .val .null, .unset] [.int (Int32.ofNat len), .int (Int32.ofNat o), .ref b])) := c6.trans (by
    refine XS.ifNo X5.here hexec rfl (hb hbytes d30) rfl (i0_eq_f hz) ?_
    refine XS.aloadN X5.here hexec rfl (hb hbytes d33) rfl rfl ?_
    refine XS.iloadN X5.here hexec rfl (hb hbytes d34) rfl ?_
    refine XS.iloadN X5.here hexec rfl (hb hbytes d35) rfl ?_
    exact Steps.refl _)
  obtain ⟨v8, T8, X8, E8, g8⟩ := X5.callS hexec (Cmp3.law l b A o len) hown (wks W (staticW "java/lang/String" 177 Cmp3.yN)) (wk W Cmp3.tab) (W := 0) (Nat.le_of_ble_eq_true rfl) (Nat.le_of_ble_eq_true rfl) (Nat.le_refl _) (by show 0 + len ≤ len; omega) (g := (mkF m 36 #[.val (.ref a), .val (.ref b), .val (.int (Int32.ofNat o)), .val (.int (Int32.ofNat len)), .val .null, .unset] [.int (Int32.ofNat len), .int (Int32.ofNat o), .ref b])) rfl (by rw [hml]; rfl) c7 (argsL := [.ref b, .int (Int32.ofNat o), .int (Int32.ofNat len)]) (rest := []) rfl rfl (by show 2 * 0 + 0 ≤ _; decide) (hb hbytes d36) (⟨rfl, hA.mv X5.warmed.alike hh5, l1, l2, hp⟩)
  obtain ⟨e8, z8⟩ := E8
  obtain ⟨rfl, N, n1, n2, n3, n4, n5, n6⟩ := NewArr.mv _ T5 s _ _ hh5.symm (Vm.Alike.refl _) rfl e8
  rw [hh5] at z8
  have hB1 := hB.keep X8.warmed.alike (n6 _ _ hB.1)
  have hne : s.heap.size ≠ a := (Nat.ne_of_lt (Array.getElem?_eq_some_iff.mp hB.1).1).symm
  have c9 : Steps p.tables e below (s₁.setTop (entryFrame m #[.ref a, .ref b, .int (Int32.ofNat o), .int (Int32.ofNat len), .null] 6)) (T8.setTop (mkF m 39 #[.val (.ref a), .val (.ref b), .val (.int (Int32.ofNat o)), .val (.int (Int32.ofNat len)), .val .null, .unset] [.ref s.heap.size])) := g8
  have c10 : Steps p.tables e below (s₁.setTop (entryFrame m #[.ref a, .ref b, .int (Int32.ofNat o), .int (Int32.ofNat len), .null] 6)) (T8.setTop (mkF m 45 #[.val (.ref a), .val (.ref b), .val (.int (Int32.ofNat o)), .val (.int (Int32.ofNat len)), .val .null, .val (.ref s.heap.size)] [.int (Int32.ofNat N.slots.size), .ref s.heap.size, .ref a])) := by
    have hc : Steps p.tables e below (s₁.setTop (entryFrame m #[.ref a, .ref b, .int (Int32.ofNat o), .int (Int32.ofNat len), .null] 6)) (T8.setTop (mkF m 45 #[.val (.ref a), .val (.ref b), .val (.int (Int32.ofNat o)), .val (.int (Int32.ofNat len)), .val .null, .val (.ref s.heap.size)] [.int (Int32.ofNat len), .ref s.heap.size, .ref a])) := c9.trans (by
      refine XS.astore X8.here hexec rfl (hb hbytes d39) rfl rfl rfl ?_
      refine XS.aloadN X8.here hexec rfl (hb hbytes d41) rfl rfl ?_
      refine XS.aload X8.here hexec rfl (hb hbytes d42) rfl rfl ?_
      refine XS.iloadN X8.here hexec rfl (hb hbytes d44) rfl ?_
      exact Steps.refl _)
    rw [n4]; exact hc
  obtain ⟨v11, T11, X11, E11, g11⟩ := X8.callS hexec (CodL.law l s.heap.size N) hown (wks W (staticW "java/lang/String" 47 CodL.yN)) (wk W CodL.tab) (W := 1) (Nat.le_of_ble_eq_true rfl) (Nat.le_of_ble_eq_true rfl) (Nat.le_refl _) (by show 0 + len + 0 ≤ len; omega) (g := (mkF m 45 #[.val (.ref a), .val (.ref b), .val (.int (Int32.ofNat o)), .val (.int (Int32.ofNat len)), .val .null, .val (.ref s.heap.size)] [.int (Int32.ofNat N.slots.size), .ref s.heap.size, .ref a])) rfl (by rw [hml]; rfl) c10 (argsL := [.ref s.heap.size, .int (Int32.ofNat N.slots.size)]) (rest := [.ref a]) rfl rfl (by show 2 * 0 + (1 + 0) ≤ _; decide) (hb hbytes d45) (⟨rfl, n1⟩)
  obtain ⟨rfl, q11⟩ := E11
  have hB11 := hB1.mv (X8.warmed.alike.symm.trans X11.warmed.alike) q11
  have c12 : Steps p.tables e below (s₁.setTop (entryFrame m #[.ref a, .ref b, .int (Int32.ofNat o), .int (Int32.ofNat len), .null] 6)) (T11.setTop (mkF m 48 #[.val (.ref a), .val (.ref b), .val (.int (Int32.ofNat o)), .val (.int (Int32.ofNat len)), .val .null, .val (.ref s.heap.size)] [.int 0, .ref a])) := g11
  obtain ⟨T13, X13, p13, bl13, sl13, st13⟩ := X11.finit hexec hown (wk W (.fieldLink "java/lang/String" 15 "java/lang/String" "coder" "B")) (Or.inr ⟨_, (wk W (.laysFinal "java/lang/String" "java/lang/String" "coder" "B"))⟩) (Or.inl ⟨rfl, hnm⟩) f2 (Or.inl rfl) hB11 (t := .byte) (by decide +kernel) rfl (g := (mkF m 48 #[.val (.ref a), .val (.ref b), .val (.int (Int32.ofNat o)), .val (.int (Int32.ofNat len)), .val .null, .val (.ref s.heap.size)] [.int 0, .ref a])) rfl (rest := []) rfl (hb hbytes d48)
  have c14 : Steps p.tables e below (s₁.setTop (entryFrame m #[.ref a, .ref b, .int (Int32.ofNat o), .int (Int32.ofNat len), .null] 6)) (T13.setTop (mkF m 54 #[.val (.ref a), .val (.ref b), .val (.int (Int32.ofNat o)), .val (.int (Int32.ofNat len)), .val .null, .val (.ref s.heap.size)] [.ref s.heap.size, .ref a])) := (c12.trans (st13 _ (Steps.refl _))).trans (by
    refine XS.aloadN X13.here hexec rfl (hb hbytes d51) rfl rfl ?_
    refine XS.aload X13.here hexec rfl (hb hbytes d52) rfl rfl ?_
    exact Steps.refl _)
  obtain ⟨T15, X15, p15, bl15, sl15, st15⟩ := X13.finit hexec hown (wk W (.fieldLink "java/lang/String" 9 "java/lang/String" "value" "[B")) (Or.inr ⟨_, (wk W (.laysFinal "java/lang/String" "java/lang/String" "value" "[B"))⟩) (Or.inl ⟨rfl, hnm⟩) f1 (Or.inl rfl) bl13 (t := (.array .byte)) (by decide +kernel) rfl (g := (mkF m 54 #[.val (.ref a), .val (.ref b), .val (.int (Int32.ofNat o)), .val (.int (Int32.ofNat len)), .val .null, .val (.ref s.heap.size)] [.ref s.heap.size, .ref a])) rfl (rest := []) rfl (hb hbytes d54)
  have c16 : Steps p.tables e below (s₁.setTop (entryFrame m #[.ref a, .ref b, .int (Int32.ofNat o), .int (Int32.ofNat len), .null] 6)) (T15.setTop (mkF m 57 #[.val (.ref a), .val (.ref b), .val (.int (Int32.ofNat o)), .val (.int (Int32.ofNat len)), .val .null, .val (.ref s.heap.size)] [])) := c14.trans (st15 _ (Steps.refl _))
  have ap := apart (Or.inr ⟨_, (wk W (.laysFinal "java/lang/String" "java/lang/String" "value" "[B"))⟩) (Or.inr ⟨_, (wk W (.laysFinal "java/lang/String" "java/lang/String" "coder" "B"))⟩) f1 f2 (t₁ := .array .byte) (t₂ := .byte) (by decide +kernel) (by decide +kernel) (by decide)
  have al := X8.warmed.alike.symm.trans X15.warmed.alike
  have n7 : T11.heap[s.heap.size]? = some N := by rw [q11]; exact n1.1
  exact ⟨T15, none, _, _, _, X15, by simp, rfl, by omega, (fun _ => rfl), ⟨rfl, _, N, bl15, ((Same.refl D _).set _ (by simp)).set _ (by simp), sl15, (Cell.slots_setSlot_ne _ ap).trans sl13, n1.keep al (p15.other hne (p13.other hne n7)), n2, by rw [al.findClass]; exact n3, n4, n5, fun y c h1 h2 => p15.other h1 (p13.other h1 (by rw [q11]; exact n6 y c h2)), by rw [p15.2.2, p13.2.2, q11]; exact z8⟩, fun fs hl => c16.trans (X15.returnOut hexec hret (hb hbytes d57) hl)⟩
end New4
namespace New1
def yN : MethodName := ⟨"java/lang/String", "<init>", "([C)V"⟩
abbrev yB : ByteArray := jdk_42_method_3_code
theorem d0 : decode yB 0 = .ok (.aload_n 0, 1) := by decide +kernel
theorem d1 : decode yB 1 = .ok (.aload_n 1, 1) := by decide +kernel
theorem d2 : decode yB 2 = .ok (.iconst 0, 1) := by decide +kernel
theorem d3 : decode yB 3 = .ok (.aload_n 1, 1) := by decide +kernel
theorem d4 : decode yB 4 = .ok (.arraylength, 1) := by decide +kernel
theorem d5 : decode yB 5 = .ok (.aconst_null, 1) := by decide +kernel
theorem d6 : decode yB 6 = .ok (.invokespecial 27, 3) := by decide +kernel
theorem d9 : decode yB 9 = .ok (.return_, 1) := by decide +kernel
def site : List Cond := [New4.tab] ++ initW "java/lang/String" 27 New4.yN
def tab : Cond := tabOf yN yB 2 none site
def P (a : Addr) (D : Cell) (fV fC : Field) (b : Addr) (A : Cell) (z : Int32) (args : Array Value) (s : State) : Prop := args = #[.ref a, .ref b] ∧ Blank "java/lang/String" a D s ∧ Found "java/lang/String" "value" "[B" fV s ∧ Found "java/lang/String" "coder" "B" fC s ∧ Ch b A s ∧ StaticIs s "java/lang/String" "COMPACT_STRINGS" "Z" (.int z) ∧ ¬ z = 0 ∧ 0 < A.slots.size ∧ A.slots.size ≤ 536870912 ∧ ∀ i, i < A.slots.size → ¬ 255 < cv A i
def E (a : Addr) (D : Cell) (fV fC : Field) (A : Cell) (r : Option Value) (s u : State) : Prop := Got a D fV fC A 0 A.slots.size r s u
/-- new String(chars), not empty, no char above 255: a Latin-1 String of their low bytes -/
theorem law (l : Launch) (a : Addr) (D : Cell) (fV fC : Field) (b : Addr) (A : Cell) (z : Int32) : Law l yN 2 1 3 52 yB 2 none site (P a D fV fC b A z) (E a D fV fC A) [⟨a, fC.slot⟩, ⟨a, fV.slot⟩] 1 A.slots.size := by
  refine Law.of_walk (plainFor_of_name (by decide +kernel)) (by decide +kernel) (by decide +kernel) (by decide) (fun _ _ h => by rw [h.1]; rfl) (fun _ U U' hal hh h => ⟨h.1, h.2.1.mv hal hh, h.2.2.1.al hal, h.2.2.2.1.al hal, h.2.2.2.2.1.mv hal hh, h.2.2.2.2.2.1.there hal hh, h.2.2.2.2.2.2⟩) (fun r U U' V V' h1 hal h2 h => Got.mv r U U' V V' h1 hal h2 h) ?_
  intro p e s m args below meth c s₁ X0 hexec hbytes hml hret hlk hnm hown hh0 W hP
  obtain ⟨rfl, hB, f1, f2, hA, s1, hz, l0, l2, hp⟩ := hP
  have c1 : Steps p.tables e below (s₁.setTop (entryFrame m #[.ref a, .ref b] 2)) (s₁.setTop (mkF m 0 #[.val (.ref a), .val (.ref b)] [])) := entry rfl
  have c2 : Steps p.tables e below (s₁.setTop (entryFrame m #[.ref a, .ref b] 2)) (s₁.setTop (mkF m 6 #[.val (.ref a), .val (.ref b)] [.null, .int (Int32.ofNat A.slots.size), .int 0, .ref b, .ref a])) := c1.trans (by
    refine XS.aloadN X0.here hexec rfl (hb hbytes d0) rfl rfl ?_
    refine XS.aloadN X0.here hexec rfl (hb hbytes d1) rfl rfl ?_
    refine iconstV X0.here hexec rfl 0 (hb hbytes d2) (by decide) ?_
    refine XS.aloadN X0.here hexec rfl (hb hbytes d3) rfl rfl ?_
    refine X0.alen hexec (hA.1.mv X0.warmed.alike hh0) rfl rfl (hb hbytes d4) ?_
    refine XS.aconstNull X0.here hexec rfl (hb hbytes d5) ?_
    exact Steps.refl _)
  obtain ⟨v3, T3, X3, E3, g3⟩ := X0.callN hexec (New4.law l a D fV fC b A z 0 A.slots.size) rfl hown (wks W (initW "java/lang/String" 27 New4.yN)) (W New4.tab (by simp only [site, List.mem_cons, List.mem_append, true_or, or_true])) (W := 0) (Nat.le_of_ble_eq_true rfl) (Nat.le_of_ble_eq_true rfl) (Nat.le_refl _) (by show 0 + A.slots.size ≤ A.slots.size; omega) (g := (mkF m 6 #[.val (.ref a), .val (.ref b)] [.null, .int (Int32.ofNat A.slots.size), .int (Int32.ofNat 0), .ref b, .ref a])) rfl (by rw [hml]; rfl) c2 (argsL := [.ref b, .int (Int32.ofNat 0), .int (Int32.ofNat A.slots.size), .null]) (rest := []) rfl rfl (by show 2 * 0 + 0 ≤ _; decide) (hb hbytes d6) (⟨rfl, hB.mv X0.warmed.alike hh0, f1.al X0.warmed.alike, f2.al X0.warmed.alike, hA.mv X0.warmed.alike hh0, s1.there X0.warmed.alike hh0, hz, l0, by omega, l2, fun i hi => by rw [Nat.zero_add]; exact hp i hi⟩)
  have e0 := Got.mv _ s₁ s _ _ hh0.symm (Vm.Alike.refl _) rfl E3
  obtain rfl := e0.1
  have c4 : Steps p.tables e below (s₁.setTop (entryFrame m #[.ref a, .ref b] 2)) (T3.setTop (mkF m 9 #[.val (.ref a), .val (.ref b)] [])) := g3
  exact ⟨T3, none, _, _, _, X3, by simp, rfl, by omega, (fun _ => rfl), e0, fun fs hl => c4.trans (X3.returnOut hexec hret (hb hbytes d9) hl)⟩
theorem pays {l : Launch} {R : Room} {p : Program} {e : Env} {below : List Frame} {s : State} {sargs : Array Value} {len W : Nat} (a : Addr) (D : Cell) (fV fC : Field) (b : Addr) (A : Cell) (z : Int32) (htab : tab.before sargs s = true) (hfr : 4 ≤ R.frames) (hlo : W + 65 ≤ R.locals) :
    Back l R p e below s sargs yN len W (fun A₁ a₁ => A₁.cells + 1 ≤ R.cells ∧ A₁.slots + A.slots.size ≤ R.slots ∧ P a D fV fC b A z a₁ A₁.U) (fun A₁ _ v₁ B₁ => E a D fV fC A v₁ A₁.U B₁.U ∧ B₁.locs = A₁.locs ++ [⟨a, fC.slot⟩, ⟨a, fV.slot⟩] ∧ B₁.cells = A₁.cells + 1 ∧ B₁.slots = A₁.slots + A.slots.size) :=
  (law l a D fV fC b A z).pays htab hfr (by omega)
end New1
/-- the byte, read back as charAt reads it, is the char -/
theorem lo8_mask {x : Int32} (h0 : ¬ x < 0) (h1 : ¬ 255 < x) : lo8 x &&& 255 = x := by
  have t : ∀ k : Fin 256, lo8 (Int32.ofNat k.val) &&& 255 = Int32.ofNat k.val := by decide +kernel
  rw [Int32.lt_iff_toInt_lt] at h0 h1
  have e0 : (0 : Int32).toInt = 0 := rfl
  have e1 : (255 : Int32).toInt = 255 := rfl
  obtain ⟨k, hk⟩ : ∃ k : Nat, x.toInt = k := ⟨x.toInt.toNat, by omega⟩
  have hx : x = Int32.ofNat k := Int32.toInt_inj.mp (by rw [hk, Int32.toInt_ofNat_small (by omega)])
  rw [hx]
  exact t ⟨k, by omega⟩
end StrChars
namespace StrChars.Road
open Jvm Sem ClassFile Op Lib Jvm.Stand Jvm.Free Jvm.Free.XT
open Jvm.Lib.Cold (StaticIs)
abbrev ST : String := "java/lang/String"
/-- every table word that New1's law asks, flat -/
abbrev words : List Jvm.Cond := [.code New1.yN New1.yB 2 none, .initialized ST, .methodLink ST 27 New4.yN, .instanceMethod New4.yN,
  .code New4.yN New4.yB 6 none, .fieldLink ST 38 ST "COMPACT_STRINGS" "Z", .laysFinal ST ST "value" "[B", .fieldLink ST 9 ST "value" "[B", .laysFinal ST ST "coder" "B", .fieldLink ST 15 ST "coder" "B",
  .methodLink ST 1 Lib.objectInit, .instanceMethod Lib.objectInit, .code Lib.objectInit ⟨#[0xb1]⟩ 1 none, .methodLink ST 177 Cmp3.yN, .static Cmp3.yN, .methodLink ST 47 CodL.yN, .static CodL.yN,
  .code Cmp3.yN Cmp3.yB 6 (some (.array .byte)), .initialized U16, .arrayClass .byte, .methodLink U16 115 Cmp5.yN, .static Cmp5.yN, .code Cmp5.yN Cmp5.yB 7 (some .int), .code CodL.yN CodL.yB 2 (some .byte)]
theorem tab_of {a : Array Value} {s : State} (h : ∀ w ∈ words, w.before a s = true) : New1.tab.before a s = true := by
  have h5 : Cmp5.tab.before a s = true := unparts (wk h (.code Cmp5.yN Cmp5.yB 7 (some .int))) (wks h (.initialized Cmp5.yN.cls :: Cmp5.site))
  have hc : CodL.tab.before a s = true := unparts (wk h (.code CodL.yN CodL.yB 2 (some .byte))) (wks h (.initialized CodL.yN.cls :: CodL.site))
  have q5 : ∀ w ∈ Cmp5.tab :: words, w.before a s = true := fun w hw => (List.mem_cons.mp hw).elim (fun e => e ▸ h5) (h w)
  have h3 : Cmp3.tab.before a s = true := unparts (wk q5 (.code Cmp3.yN Cmp3.yB 6 (some (.array .byte)))) (wks q5 (.initialized Cmp3.yN.cls :: Cmp3.site))
  have q3 : ∀ w ∈ Cmp3.tab :: CodL.tab :: words, w.before a s = true := fun w hw => (List.mem_cons.mp hw).elim (fun e => e ▸ h3) fun hw => (List.mem_cons.mp hw).elim (fun e => e ▸ hc) (h w)
  have h4 : New4.tab.before a s = true := unparts (wk q3 (.code New4.yN New4.yB 6 none)) (wks q3 (.initialized New4.yN.cls :: New4.site))
  have q4 : ∀ w ∈ New4.tab :: words, w.before a s = true := fun w hw => (List.mem_cons.mp hw).elim (fun e => e ▸ h4) (h w)
  exact unparts (wk q4 (.code New1.yN New1.yB 2 none)) (wks q4 (.initialized New1.yN.cls :: New1.site))
/-- the words ride from the start Z to the walk's own state -/
theorem moved {Z s : State} {a0 args : Array Value} (hZ : Z.Warmed39 s.vm) (hw : ∀ d ∈ words, d.before a0 Z = true) : ∀ d ∈ words, d.before args s = true := fun d hd => by
  have q := hw d hd
  have t : ∀ d ∈ words, d = .arrayClass .byte ∨ (d.onTables && d.keepsFace) = true := by decide +kernel
  rcases t d hd with rfl | t
  · exact RoadKit.mvA hZ q
  · exact RoadKit.mv hZ q t
/-- WHAT COMES BACK, over the tables of the start Z: h the heap at the call, h' behind it -/
def Q (Z : State) (x : Addr) (A : Cell) (h : Heap) (v : Option Value) (h' : Heap) (L : List Loc) : Prop := v = none ∧ (∀ y ∈ L, y.base = x) ∧ RoadKit.Keep h h' [x] ∧ h'.size = h.size + 1 ∧ RoadKit.Exa Z h' x ST ∧ RoadKit.Fld Z h' x ST "value" "[B" (.ref h.size) ∧ RoadKit.Fld Z h' x ST "coder" "B" (.int 0) ∧
  (∃ V : Cell, RoadKit.Arr Z h' h.size V .byte ∧ V.vm = .none ∧ Z.vm.findClass "[B" = some V.cls ∧ V.slots.size = A.slots.size ∧ ∀ j, j < A.slots.size → V.slots[j]? = some (.int (lo8 (cv A j)))) ∧
  ∀ (O n d : String) (w : Value), RoadKit.Fld Z h x O n d w → RoadKit.slotOf Z O n d ≠ RoadKit.slotOf Z ST "value" "[B" → RoadKit.slotOf Z O n d ≠ RoadKit.slotOf Z ST "coder" "B" → RoadKit.Fld Z h' x O n d w
/-- **new String(chars) AT A CALL, IN THE ROAD'S FORM**: for specialBack behind newO: x the fresh String, b the char[] with the cell A -/
theorem back {p : Program} {l : Launch} {e : Env} {R : Room} {s : State} {args : Array Value} {below : List Frame} {len W : Nat} {Z : State} {a0 : Array Value} {h : Heap} (hZ : Z.Warmed39 s.vm) (hw : ∀ d ∈ words, d.before a0 Z = true) {kI : Nat} (wi : (Jvm.Cond.instantiable ST kI).before a0 Z = true)
    {x b : Addr} {A : Cell} {z : Int32} {v0 c0 : Value} (E : RoadKit.Exa Z h x ST) (V : RoadKit.Fld Z h x ST "value" "[B" v0) (C : RoadKit.Fld Z h x ST "coder" "B" c0) (K : RoadKit.Arr Z h b A .char) (hty : Typed .char A) (S : RoadKit.Sta Z h ST "COMPACT_STRINGS" "Z" (.int z)) (hz : ¬ z = 0)
    (l0 : 0 < A.slots.size) (l2 : A.slots.size ≤ 536870912) (hp : ∀ i, i < A.slots.size → ¬ 255 < cv A i) (hfr : 4 ≤ R.frames) (hlo : W + 65 ≤ R.locals) :
    Back l R p e below s args New1.yN len W (fun P a => a = #[.ref x, .ref b] ∧ P.U.heap = h ∧ P.cells + 1 ≤ R.cells ∧ P.slots + A.slots.size ≤ R.slots)
      (fun P _ v B => ∃ L, Q Z x A h v B.U.heap L ∧ B.locs = P.locs ++ L ∧ B.cells = P.cells + 1 ∧ B.slots = P.slots + A.slots.size) := by
  intro m meth c P g ig mk a X hg hsize hdg hW hn hp'
  obtain ⟨rfl, rfl, r1, r2⟩ := hp'
  have al : Z.vm.Alike P.U.vm := hZ.alike.trans X.warmed.alike
  obtain ⟨D, cfV, kV, iV, fV, hD, gV, stV, knV, obV, asV, slV⟩ := id V
  obtain ⟨D', cfC, kC, iC, fC, hD', gC, stC, -, -, asC, slC⟩ := id C
  cases hD.symm.trans hD'
  obtain ⟨D2, kD, e1, e2, e3, e4, e5⟩ := id E
  cases hD.symm.trans e1
  obtain ⟨c2, k2, i1, i2, i3, -⟩ := Cond.instantiable_spec wi
  cases e2.symm.trans i1
  cases e3.symm.trans i2
  obtain ⟨kU, u1, u2⟩ := al.2.2 _ _ e3
  have hB : Blank ST x D P.U := ⟨hD, ⟨knV, fun q hq => by rw [hq] at obV; cases obV⟩, by rw [al.findClass]; exact e2, kU, u1, by rw [u2]; exact i3, by rw [u2]; exact e5 i3⟩
  have F1 : Found ST "value" "[B" fV P.U := ⟨SBG.found_only al ⟨cfV, kV, iV, gV⟩, stV⟩
  have F2 : Found ST "coder" "B" fC P.U := ⟨SBG.found_only al ⟨cfC, kC, iC, gC⟩, stC⟩
  have hA : Ch b A P.U := ⟨⟨K.1, State.isArrayOf_alike al K.2.1, K.2.2, by omega⟩, hty⟩
  have hS : StaticIs P.U ST "COMPACT_STRINGS" "Z" (.int z) := by
    obtain ⟨cfS, iS, kS, fS, st, cS, t1, t2, t3, t4, t5, t6, t7⟩ := S
    exact StaticIs.there (s := { Z with heap := P.U.heap }) ⟨cfS, iS, kS, fS, st, cS, t1, t2, t3, t4, t5, (fun q => by rw [q] at t6; cases t6), t7⟩ al rfl
  obtain ⟨v, B, X', ⟨⟨hv, E', V', q1, q2, q3, q4, q5, q6, q7, q8, q9, q10, q11⟩, hl, hc, hs⟩, st⟩ := New1.pays x D fV fC b A z (tab_of (moved hZ hw)) hfr hlo m meth c P g ig mk _ X hg hsize hdg hW hn ⟨r1, r2, rfl, hB, F1, F2, hA, hS, hz, l0, l2, hp⟩
  have al' : Z.vm.Alike B.U.vm := hZ.alike.trans X'.warmed.alike
  have hsz : E'.slots.size = D.slots.size := by
    obtain ⟨-, -, -, kB, w1, w2, w3⟩ := q1
    obtain ⟨kB', y1, y2⟩ := al'.2.2 _ _ e3
    rw [q2.2.1] at w1
    cases w1.symm.trans y1
    rw [w3, e5 i3, y2]
  refine ⟨v, B, X', ⟨_, ⟨hv, ?_, ⟨by omega, fun y cy hy hn' => q10 y cy (by simpa using hn') hy, fun y cy hy => ?_⟩, q11, ⟨E', _, q1.1, by rw [q2.2.1]; exact e2, by rw [q2.2.1]; exact e3, by rw [q2.1]; exact obV, fun _ => by rw [hsz]; exact e5 i3⟩,
    ⟨E', cfV, kV, iV, fV, q1.1, gV, stV, by rw [q2.1]; exact knV, by rw [q2.1]; exact obV, by rw [q2.2.1]; exact asV, q3⟩, ⟨E', cfC, kC, iC, fC, q1.1, gC, stC, by rw [q2.1]; exact knV, by rw [q2.1]; exact obV, by rw [q2.2.1]; exact asC, q4⟩,
    ⟨V', ⟨q5.1, State.isArrayOf_alike al'.symm q5.2.1, q5.2.2.1⟩, q6, by rw [← al'.findClass]; exact q7, q8, fun j hj => by have := q9 j hj; rwa [Nat.zero_add] at this⟩, fun O n d w F n1 n2 => ?_⟩, hl, hc, hs⟩, st⟩
  · intro y hy
    simp only [List.mem_cons, List.not_mem_nil, or_false] at hy
    rcases hy with rfl | rfl <;> rfl
  · by_cases q : y = x
    · subst q
      cases hD.symm.trans hy
      exact ⟨E', q1.1, q2.2.1, q2.1, hsz⟩
    · exact ⟨cy, q10 y cy q hy, rfl, rfl, rfl⟩
  · obtain ⟨D3, cf, k, i, f, g1, g2, g3, g4, g5, g6, g7⟩ := F
    cases hD.symm.trans g1
    simp only [RoadKit.slotOf, g2, gV, gC, Option.map_some, Option.getD_some] at n1 n2
    exact ⟨E', cf, k, i, f, q1.1, g2, g3, by rw [q2.1]; exact g4, by rw [q2.1]; exact g5, by rw [q2.2.1]; exact g6, by rw [q2.2.2 f.slot (by simp [n1, n2])]; exact g7⟩
end StrChars.Road
namespace StrChars.Road
open Jvm Sem ClassFile Op Lib Jvm.Stand Jvm.Free Jvm.Free.XT
/-- WHAT COMES BACK, the byte[] as a list of values -/
def QA (Z : State) (x : Addr) (zn : Int32) (cs : List Int32) (h : Heap) (v : Option Value) (h' : Heap) (L : List Loc) : Prop := v = none ∧ (∀ y ∈ L, y.base = x) ∧ RoadKit.Keep h h' [x] ∧ h'.size = h.size + 1 ∧ RoadKit.Exa Z h' x ST ∧ RoadKit.Fld Z h' x ST "value" "[B" (.ref h.size) ∧ RoadKit.Fld Z h' x ST "coder" "B" (.int 0) ∧
  (∃ kb, Z.vm.findClass "[B" = some kb ∧ RoadKit.Arv Z h' h.size kb .byte zn (cs.map fun c => .int (lo8 c)) (.int 0)) ∧
  ∀ (O n d : String) (w : Value), RoadKit.Fld Z h x O n d w → RoadKit.slotOf Z O n d ≠ RoadKit.slotOf Z ST "value" "[B" → RoadKit.slotOf Z O n d ≠ RoadKit.slotOf Z ST "coder" "B" → RoadKit.Fld Z h' x O n d w
/-- **new String(chars) AT A CALL, THE ARRAYS AS LISTS**: the char[] at b holds cs, not empty, no char above 255 -/
theorem backArv {p : Program} {l : Launch} {e : Env} {R : Room} {s : State} {args : Array Value} {below : List Frame} {len W : Nat} {Z : State} {a0 : Array Value} {h : Heap} (hZ : Z.Warmed39 s.vm) (hw : ∀ d ∈ words, d.before a0 Z = true) {kI : Nat} (wi : (Jvm.Cond.instantiable ST kI).before a0 Z = true)
    {x b : Addr} {k : ClassId} {zn z : Int32} {cs : List Int32} {dv v0 c0 : Value} (E : RoadKit.Exa Z h x ST) (V : RoadKit.Fld Z h x ST "value" "[B" v0) (C : RoadKit.Fld Z h x ST "coder" "B" c0) (K : RoadKit.Arv Z h b k .char zn (cs.map Value.int) dv) (S : RoadKit.Sta Z h ST "COMPACT_STRINGS" "Z" (.int z)) (hz : ¬ z = 0)
    (hlen : zn.toNatClampNeg = cs.length) (h0 : 0 < cs.length) (hbig : cs.length ≤ 536870912) (hall : ∀ c ∈ cs, ¬ 255 < c) (hfr : 4 ≤ R.frames) (hlo : W + 65 ≤ R.locals) :
    Back l R p e below s args New1.yN len W (fun P a => a = #[.ref x, .ref b] ∧ P.U.heap = h ∧ P.cells + 1 ≤ R.cells ∧ P.slots + cs.length ≤ R.slots)
      (fun P _ v B => ∃ L, QA Z x zn cs h v B.U.heap L ∧ B.locs = P.locs ++ L ∧ B.cells = P.cells + 1 ∧ B.slots = P.slots + cs.length) := by
  obtain ⟨A, K1, K2, K3, K4, K5, K6⟩ := K
  have e : A.slots.size = cs.length := K3.trans hlen
  have hat : ∀ (i : Nat) (hi : i < cs.length), A.slots[i]? = some (.int cs[i]) := fun i hi => by rw [K5 i (by omega)]; simp [List.getD_eq_getElem?_getD, hi]
  have hcv : ∀ (i : Nat) (hi : i < cs.length), cv A i = cs[i] := fun i hi => by unfold cv; rw [hat i hi]
  have hty : Typed .char A := fun i v hv => by
    have hi : i < A.slots.size := (Array.getElem?_eq_some_iff.mp hv).1
    have q := K5 i hi
    rw [hv] at q
    rw [Option.some.inj q]
    exact K6 i hi
  refine Back.mono (back hZ hw wi E V C K1 hty S hz (by omega) (by omega) (fun i hi => by rw [hcv i (by omega)]; exact hall _ (List.getElem_mem _)) hfr hlo) (fun P a hp => ⟨hp.1, hp.2.1, hp.2.2.1, by rw [e]; exact hp.2.2.2⟩) (fun P a v B hp hq => ?_)
  obtain ⟨L, ⟨q1, q2, q3, q4, q5, q6, q7, ⟨V', v1, v2, v3, v4, v5⟩, q9⟩, hl, hc, hs⟩ := hq
  refine ⟨L, ⟨q1, q2, q3, q4, q5, q6, q7, ⟨V'.cls, v3, V', v1, rfl, by rw [v4, e, hlen], K4, fun i hi => ?_, fun i hi => ?_⟩, q9⟩, hl, hc, by rw [hs, e]⟩
  · have hi' : i < cs.length := by omega
    rw [v5 i (by omega), hcv i hi']; simp [List.getD_eq_getElem?_getD, hi']
  · have hi' : i < cs.length := by omega
    simp only [List.getD_eq_getElem?_getD, List.getElem?_map, List.getElem?_eq_getElem hi', Option.map_some, Option.getD_some]
    exact fits_lo8 _
end StrChars.Road
namespace StrChars.Road
open Jvm Sem ClassFile Op Lib Jvm.Stand Jvm.Free Jvm.Free.XT
/-- WHAT COMES BACK, in the writer's own shape -/
def QV (Z : State) (x : Addr) (N : Int32) (bs : List Int32) (h : Heap) (n0 : Nat) (v : Option Value) (h' : Heap) (L : List Loc) : Prop := v = none ∧ RoadKit.Fr n0 L ∧ RoadKit.Keep h h' [x] ∧ RoadKit.Exa Z h' x ST ∧ RoadKit.Fld Z h' x ST "coder" "B" (.int 0) ∧
  ∃ (t : Addr) (kb : ClassId), n0 ≤ t ∧ h.size ≤ t ∧ ¬ t = x ∧ RoadKit.Fld Z h' x ST "value" "[B" (.ref t) ∧ RoadKit.Arv Z h' t kb .byte N (bs.map Value.int) (.int 0)
/-- **new String(chars) AT A CALL, FOR THE WRITER**: a char[] of n known ints, each 0 to 255 -/
theorem backV {p : Program} {l : Launch} {e : Env} {R : Room} {s : State} {args : Array Value} {below : List Frame} {len W : Nat} {Z : State} {a0 : Array Value} {h : Heap} (hZ : Z.Warmed39 s.vm) (hw : ∀ d ∈ words, d.before a0 Z = true) {kI : Nat} (wi : (Jvm.Cond.instantiable ST kI).before a0 Z = true)
    {x b : Addr} {kC : ClassId} {cs bs : List Int32} {d v0 c0 : Value} {z N : Int32} {n n0 : Nat} (hx0 : n0 ≤ x) (hh0 : n0 ≤ h.size) (E : RoadKit.Exa Z h x ST) (V : RoadKit.Fld Z h x ST "value" "[B" v0) (C : RoadKit.Fld Z h x ST "coder" "B" c0) (K : RoadKit.Arv Z h b kC .char N (cs.map Value.int) d) (S : RoadKit.Sta Z h ST "COMPACT_STRINGS" "Z" (.int z)) (hz : ¬ z = 0)
    (hn : cs.length = n) (hN : N = Int32.ofNat n) (l0 : 0 < n) (l2 : n ≤ 4000) (hp : ∀ c ∈ cs, ¬ c < 0 ∧ ¬ (255 : Int32) < c) (hb : bs = cs.map (fun c => c.toInt8.toInt32)) (hfr : 4 ≤ R.frames) (hlo : W + 65 ≤ R.locals) :
    Back l R p e below s args (⟨"java/lang/String", "<init>", "([C)V"⟩ : MethodName) len W (fun P a => a = #[.ref x, .ref b] ∧ P.U.heap = h ∧ P.cells + 1 ≤ R.cells ∧ P.slots + n ≤ R.slots)
      (fun P _ v B => ∃ L, QV Z x N bs h n0 v B.U.heap L ∧ B.locs = P.locs ++ L ∧ B.cells = P.cells + 1 ∧ B.slots = P.slots + n) := by
  subst hn hN hb
  refine Back.mono (backArv hZ hw wi E V C K S hz (n32 (by omega)) l0 (by omega) (fun c hc => (hp c hc).2) hfr hlo) (fun P a hp => hp) (fun P a v B hp hq => ?_)
  obtain ⟨L, ⟨q1, q2, q3, q4, q5, q6, q7, ⟨kb, v1, v2⟩, q9⟩, hl, hc, hs⟩ := hq
  exact ⟨L, ⟨q1, fun y hy => by rw [q2 y hy]; exact hx0, q3, q5, q7, h.size, kb, hh0, Nat.le_refl _, Nat.ne_of_gt E.lt, q6, by rw [List.map_map]; exact v2⟩, hl, hc, hs⟩
end StrChars.Road
namespace StrChars
open Jvm Sem ClassFile Op Lib Jvm.Stand Jvm.Free.XT Jvm.Free.ALB Jvm.Free.JM Jvm.Free
open Jvm.Lib.Cold (StaticIs)
def hi8 (x : Int32) : Int32 := lo8 (x >>> ((8 : Int32) &&& 31))
/-- what StringUTF16.getChar makes of two bytes -/
def pairCh (u v : Int32) : Int32 := (((u &&& 255) <<< ((0 : Int32) &&& 31)) ||| ((v &&& 255) <<< ((8 : Int32) &&& 31))).toUInt32.toUInt16.toUInt32.toInt32
theorem lo8_and (x : Int32) : (lo8 x &&& 255).toBitVec.toNat = x.toBitVec.toNat % 256 := by
  have h : (lo8 x).toBitVec = (x.toBitVec.signExtend 8).signExtend 32 := by rw [lo8, Int8.toBitVec_toInt32, Int32.toBitVec_toInt8]
  rw [Int32.toBitVec_and, BitVec.toNat_and, h]
  have e : ((x.toBitVec.signExtend 8).signExtend 32).toNat % 256 = x.toBitVec.toNat % 256 := by
    rw [BitVec.toNat_signExtend]
    have hlt := x.toBitVec.isLt
    simp only [BitVec.toNat_setWidth, BitVec.toNat_signExtend]
    split <;> split <;> omega
  rw [← e]
  exact Nat.and_two_pow_sub_one_eq_mod _ 8
theorem pair_says {c : Int32} (h0 : ¬ c < 0) (h1 : ¬ 65535 < c) : pairCh (lo8 c) (hi8 c) = c := by
  rw [Int32.lt_iff_toInt_lt] at h0 h1
  have e0 : (0 : Int32).toInt = 0 := rfl
  have e1 : (65535 : Int32).toInt = 65535 := rfl
  have hc : c.toInt = c.toBitVec.toNat := by
    have := c.toBitVec.isLt
    have e : c.toInt = c.toBitVec.toInt := rfl
    rw [e] at h0 h1
    rw [e]
    rw [BitVec.toInt_eq_toNat_cond] at h0 h1 ⊢
    split at h0 <;> split <;> omega
  have hn : c.toBitVec.toNat < 65536 := by omega
  have a1 := lo8_and c
  have a2 : (hi8 c &&& 255).toBitVec.toNat = c.toBitVec.toNat / 256 := by
    rw [hi8, lo8_and]
    have e : ((8 : Int32) &&& 31) = 8 := by decide
    rw [e, Int32.toBitVec_shiftRight]
    have e2 : ((8 : Int32).toBitVec.smod 32) = 8#32 := by decide
    rw [e2, BitVec.sshiftRight_eq', BitVec.toNat_sshiftRight_of_msb_false (by rw [BitVec.msb_eq_false_iff_two_mul_lt]; omega)]
    show c.toBitVec.toNat >>> 8 % 256 = _
    rw [Nat.shiftRight_eq_div_pow]
    omega
  unfold pairCh
  apply Int32.toBitVec_inj.mp
  apply BitVec.eq_of_toNat_eq
  have f0 : ((0 : Int32) &&& 31) = 0 := by decide
  have f8 : ((8 : Int32) &&& 31) = 8 := by decide
  rw [f0, f8]
  have g : (((lo8 c &&& 255) <<< (0 : Int32)) ||| ((hi8 c &&& 255) <<< (8 : Int32))).toBitVec.toNat = c.toBitVec.toNat := by
    rw [Int32.toBitVec_or, Int32.toBitVec_shiftLeft, Int32.toBitVec_shiftLeft]
    have s0 : ((0 : Int32).toBitVec.smod 32) = 0#32 := by decide
    have s8 : ((8 : Int32).toBitVec.smod 32) = 8#32 := by decide
    rw [s0, s8, BitVec.toNat_or]
    simp only [BitVec.shiftLeft_eq', BitVec.toNat_shiftLeft, a1, a2]
    show (c.toBitVec.toNat % 256) <<< 0 % 2 ^ 32 ||| (c.toBitVec.toNat / 256) <<< 8 % 2 ^ 32 = _
    rw [Nat.shiftLeft_zero, Nat.mod_eq_of_lt (show c.toBitVec.toNat % 256 < 2 ^ 32 by omega), Nat.mod_eq_of_lt (show (c.toBitVec.toNat / 256) <<< 8 < 2 ^ 32 by rw [Nat.shiftLeft_eq]; omega), Nat.or_comm, ← Nat.shiftLeft_add_eq_or_of_lt (by omega), Nat.shiftLeft_eq]
    omega
  show BitVec.toNat (((((lo8 c &&& 255) <<< (0 : Int32)) ||| ((hi8 c &&& 255) <<< (8 : Int32))).toBitVec.setWidth 16).setWidth 32) = _
  rw [BitVec.toNat_setWidth, BitVec.toNat_setWidth, g]
  omega
end StrChars
namespace StrChars
open Jvm Sem ClassFile Op Lib Jvm.Stand Jvm.Free.XT Jvm.Free.ALB Jvm.Free.JM Jvm.Free
open Jvm.Lib.Cold (StaticIs)
/-- charAt's cast of a byte read back -/
def chr8 (u : Int32) : Int32 := (u &&& 255).toUInt32.toUInt16.toUInt32.toInt32
theorem chr8_lo8 {c : Int32} (h0 : ¬ c < 0) (h1 : ¬ 255 < c) : chr8 (lo8 c) = c := by
  have t : ∀ k : Fin 256, (Int32.ofNat k.val).toUInt32.toUInt16.toUInt32.toInt32 = Int32.ofNat k.val := by decide +kernel
  unfold chr8
  rw [lo8_mask h0 h1]
  rw [Int32.lt_iff_toInt_lt] at h0 h1
  have e0 : (0 : Int32).toInt = 0 := rfl
  have e1 : (255 : Int32).toInt = 255 := rfl
  obtain ⟨k, hk⟩ : ∃ k : Nat, c.toInt = k := ⟨c.toInt.toNat, by omega⟩
  have hx : c = Int32.ofNat k := Int32.toInt_inj.mp (by rw [hk, Int32.toInt_ofNat_small (by omega)])
  rw [hx]
  exact t ⟨k, by omega⟩
theorem narrow_ch {c : Int32} (h0 : ¬ c < 0) (h1 : ¬ 65535 < c) : narrow .char (.int c) = .int c := by
  have q : narrow .char (.int (pairCh (lo8 c) (hi8 c))) = .int (pairCh (lo8 c) (hi8 c)) := narrow_c _
  rwa [pair_says h0 h1] at q
/-- the array's cell V codes the n chars f 0 .. f (n - 1) by the coder cd, as the JDK does: coder 1 just where some char is above 255 -/
def Cod (cd : Int32) (n : Nat) (f : Nat → Int32) (V : Cell) : Prop := (cd = 0 ∧ V.slots.size = n ∧ ∀ j, j < n → V.slots[j]? = some (.int (lo8 (f j))) ∧ ¬ 255 < f j) ∨ (cd = 1 ∧ V.slots.size = 2 * n ∧ (∀ j, j < n → V.slots[2 * j]? = some (.int (lo8 (f j))) ∧ V.slots[2 * j + 1]? = some (.int (hi8 (f j)))) ∧ ∃ j, j < n ∧ 255 < f j)
theorem Cod.cd {cd : Int32} {n : Nat} {f : Nat → Int32} {V : Cell} (h : Cod cd n f V) : cd = 0 ∨ cd = 1 := h.imp (fun q => q.1) fun q => q.1
/-- **x is a String of the n chars f 0 .. f (n - 1)**, Latin-1 or UTF-16; its array at t has the cell V -/
def Txt (x t : Addr) (V : Cell) (cd : Int32) (n : Nat) (f : Nat → Int32) (U : State) : Prop := Exact "java/lang/String" x U ∧ Has x "java/lang/String" "value" "[B" (.ref t) U ∧ Has x "java/lang/String" "coder" "B" (.int cd) U ∧ XT.Arr .byte t V U ∧ Cod cd n f V ∧ ∀ j, j < n → ¬ f j < 0 ∧ ¬ 65535 < f j
theorem Txt.mv {x t : Addr} {V : Cell} {cd : Int32} {n : Nat} {f : Nat → Int32} {U U' : State} (h : Txt x t V cd n f U) (hal : U.vm.Alike U'.vm) (hh : U'.heap = U.heap) : Txt x t V cd n f U' := ⟨h.1.mv hal hh, h.2.1.mv hal hh, h.2.2.1.mv hal hh, h.2.2.2.1.mv hal hh, h.2.2.2.2⟩
namespace IsL
def yN : MethodName := ⟨"java/lang/String", "isLatin1", "()Z"⟩
abbrev yB : ByteArray := jdk_42_method_154_code
theorem d0 : decode yB 0 = .ok (.getstatic 38, 3) := by decide +kernel
theorem d3 : decode yB 3 = .ok (.ifCond (.eq) 14, 3) := by decide +kernel
theorem d6 : decode yB 6 = .ok (.aload_n 0, 1) := by decide +kernel
theorem d7 : decode yB 7 = .ok (.getfield 15, 3) := by decide +kernel
theorem d10 : decode yB 10 = .ok (.ifCond (.ne) 7, 3) := by decide +kernel
theorem d13 : decode yB 13 = .ok (.iconst 1, 1) := by decide +kernel
theorem d14 : decode yB 14 = .ok (.goto 4, 3) := by decide +kernel
theorem d17 : decode yB 17 = .ok (.iconst 0, 1) := by decide +kernel
theorem d18 : decode yB 18 = .ok (.ireturn, 1) := by decide +kernel
def site : List Cond := [.fieldLink "java/lang/String" 38 "java/lang/String" "COMPACT_STRINGS" "Z", .fieldLink "java/lang/String" 15 "java/lang/String" "coder" "B"]
def tab : Cond := tabOf yN yB 1 (some .boolean) site
def P (x : Addr) (cd z : Int32) (args : Array Value) (s : State) : Prop := args = #[.ref x] ∧ Has x "java/lang/String" "coder" "B" (.int cd) s ∧ (cd = 0 ∨ cd = 1) ∧ StaticIs s "java/lang/String" "COMPACT_STRINGS" "Z" (.int z) ∧ ¬ z = 0
def E (cd : Int32) (r : Option Value) (s u : State) : Prop := XT.PureE (some (.int (1 - cd))) r s u
theorem law (l : Launch) (x : Addr) (cd z : Int32) : Law l yN 1 0 0 0 yB 1 (some .boolean) site (P x cd z) (E cd) [] 0 0 := by
  refine Law.of_walk (plainFor_of_name (by decide +kernel)) (by decide +kernel) (by decide +kernel) (by decide) (fun _ _ h => by rw [h.1]; rfl) (fun _ U U' hal hh h => ⟨h.1, h.2.1.mv hal hh, h.2.2.1, h.2.2.2.1.there hal hh, h.2.2.2.2⟩) (fun r U U' V V' h1 hal h2 h => XT.PureE.mv r U U' V V' h1 hal h2 h) ?_
  intro p e s m args below meth c s₁ X0 hexec hbytes hml hret hlk hnm hown hh0 W hP
  obtain ⟨rfl, hx, hc, s1, hz⟩ := hP
  have c1 : Steps p.tables e below (s₁.setTop (entryFrame m #[.ref x] 1)) (s₁.setTop (mkF m 0 #[.val (.ref x)] [])) := entry rfl
  obtain ⟨T2, X2, q2, st2⟩ := X0.sget hexec hown (wk W (.fieldLink "java/lang/String" 38 "java/lang/String" "COMPACT_STRINGS" "Z")) s1 (fun _ _ h => by rw [hh0]; exact h) (g := (mkF m 0 #[.val (.ref x)] [])) rfl (hb hbytes d0)
  have hh2 := q2.trans hh0
  have c3 : Steps p.tables e below (s₁.setTop (entryFrame m #[.ref x] 1)) (T2.setTop (mkF m 7 #[.val (.ref x)] [.ref x])) := (c1.trans (st2 _ (Steps.refl _))).trans (by
    refine XS.ifNo X2.here hexec rfl (hb hbytes d3) rfl (i0_eq_f hz) ?_
    refine XS.aloadN X2.here hexec rfl (hb hbytes d6) rfl rfl ?_
    exact Steps.refl _)
  obtain ⟨T4, X4, q4, st4⟩ := X2.hget hexec hown (wk W (.fieldLink "java/lang/String" 15 "java/lang/String" "coder" "B")) (hx.mv X2.warmed.alike hh2) (g := (mkF m 7 #[.val (.ref x)] [.ref x])) rfl (rest := []) rfl (hb hbytes d7)
  have c5 : Steps p.tables e below (s₁.setTop (entryFrame m #[.ref x] 1)) (T4.setTop (mkF m 10 #[.val (.ref x)] [.int cd])) := c3.trans (st4 _ (Steps.refl _))
  have c6 : Steps p.tables e below (s₁.setTop (entryFrame m #[.ref x] 1)) (T4.setTop (mkF m 18 #[.val (.ref x)] [.int (1 - cd)])) := by
    rcases hc with rfl | rfl
    · exact c5.trans (by
        refine XS.ifNo X4.here hexec rfl (hb hbytes d10) rfl (i0_ne_f rfl) ?_
        refine iconstV X4.here hexec rfl 1 (hb hbytes d13) (by decide) ?_
        refine XS.goto X4.here hexec rfl (pc0 := 14) rfl (hb hbytes d14) (by decide) rfl ?_
        exact Steps.refl _)
    · exact c5.trans (by
        refine XS.ifYes X4.here hexec rfl (pc0 := 10) rfl (hb hbytes d10) rfl (i0_ne_t (by decide)) (by decide) rfl ?_
        refine iconstV X4.here hexec rfl 0 (hb hbytes d17) (by decide) ?_
        exact Steps.refl _)
  exact ⟨T4, some (.int (1 - cd)), _, _, _, X4, rfl, rfl, rfl, (fun h => by cases h), ⟨rfl, q4.trans hh2⟩, fun fs hl => c6.trans (X4.ireturnOut hexec hret (by rcases hc with rfl | rfl <;> rfl) (Or.inr (Or.inl rfl)) (hb hbytes d18) hl)⟩
end IsL
namespace LChA
def yN : MethodName := ⟨"java/lang/StringLatin1", "charAt", "([BI)C"⟩
abbrev yB : ByteArray := jdk_43_method_2_code
theorem d0 : decode yB 0 = .ok (.iload_n 1, 1) := by decide +kernel
theorem d1 : decode yB 1 = .ok (.aload_n 0, 1) := by decide +kernel
theorem d2 : decode yB 2 = .ok (.arraylength, 1) := by decide +kernel
theorem d3 : decode yB 3 = .ok (.invokestatic 9, 3) := by decide +kernel
theorem d6 : decode yB 6 = .ok (.aload_n 0, 1) := by decide +kernel
theorem d7 : decode yB 7 = .ok (.iload_n 1, 1) := by decide +kernel
theorem d8 : decode yB 8 = .ok (.baload, 1) := by decide +kernel
theorem d9 : decode yB 9 = .ok (.sipush 255, 3) := by decide +kernel
theorem d12 : decode yB 12 = .ok (.iand, 1) := by decide +kernel
theorem d13 : decode yB 13 = .ok (.i2c, 1) := by decide +kernel
theorem d14 : decode yB 14 = .ok (.ireturn, 1) := by decide +kernel
def site : List Cond := [JO.Str_checkIndex.tab] ++ staticW "java/lang/StringLatin1" 9 JO.Str_checkIndex.yN
def tab : Cond := tabOf yN yB 2 (some .char) site
def P (t : Addr) (V : Cell) (i : Nat) (u : Int32) (fm : Value) (args : Array Value) (s : State) : Prop := args = #[.ref t, .int (Int32.ofNat i)] ∧ XT.Arr .byte t V s ∧ V.slots[i]? = some (.int u) ∧ (StaticIs s "jdk/internal/util/Preconditions" "SIOOBE_FORMATTER" "Ljava/util/function/BiFunction;" fm ∧ fm.isRef = true)
def E (u : Int32) (r : Option Value) (s w : State) : Prop := XT.PureE (some (.int (chr8 u))) r s w
theorem law (l : Launch) (t : Addr) (V : Cell) (i : Nat) (u : Int32) (fm : Value) : Law l yN 2 2 2 27 yB 2 (some .char) site (P t V i u fm) (E u) [] 0 0 := by
  refine Law.of_walk (plainFor_of_name (by decide +kernel)) (by decide +kernel) (by decide +kernel) (by decide) (fun _ _ h => by rw [h.1]; rfl) (fun _ U U' hal hh h => ⟨h.1, h.2.1.mv hal hh, h.2.2.1, h.2.2.2.1.there hal hh, h.2.2.2.2⟩) (fun r U U' V V' h1 hal h2 h => XT.PureE.mv r U U' V V' h1 hal h2 h) ?_
  intro p e s m args below meth c s₁ X0 hexec hbytes hml hret hlk hnm hown hh0 W hP
  obtain ⟨rfl, hV, hu, s1, rf⟩ := hP
  have v31 := hV.2.2.2
  have hi : i < V.slots.size := (Array.getElem?_eq_some_iff.mp hu).1
  have c1 : Steps p.tables e below (s₁.setTop (entryFrame m #[.ref t, .int (Int32.ofNat i)] 2)) (s₁.setTop (mkF m 0 #[.val (.ref t), .val (.int (Int32.ofNat i))] [])) := entry rfl
  have c2 : Steps p.tables e below (s₁.setTop (entryFrame m #[.ref t, .int (Int32.ofNat i)] 2)) (s₁.setTop (mkF m 3 #[.val (.ref t), .val (.int (Int32.ofNat i))] [.int (Int32.ofNat V.slots.size), .int (Int32.ofNat i)])) := c1.trans (by
    refine XS.iloadN X0.here hexec rfl (hb hbytes d0) rfl ?_
    refine XS.aloadN X0.here hexec rfl (hb hbytes d1) rfl rfl ?_
    refine X0.alen hexec (hV.mv X0.warmed.alike hh0) rfl rfl (hb hbytes d2) ?_
    exact Steps.refl _)
  obtain ⟨v3, T3, X3, E3, g3⟩ := X0.callS hexec (JO.Str_checkIndex.law l (Int32.ofNat i) (Int32.ofNat V.slots.size) fm) hown (wks W (staticW "java/lang/StringLatin1" 9 JO.Str_checkIndex.yN)) (wk W JO.Str_checkIndex.tab) (W := 0) (Nat.le_of_ble_eq_true rfl) (Nat.le_of_ble_eq_true rfl) (Nat.le_refl _) (Nat.le_refl _) (g := (mkF m 3 #[.val (.ref t), .val (.int (Int32.ofNat i))] [.int (Int32.ofNat V.slots.size), .int (Int32.ofNat i)])) rfl (by rw [hml]; rfl) c2 (argsL := [.int (Int32.ofNat i), .int (Int32.ofNat V.slots.size)]) (rest := []) rfl rfl (by show 2 * 0 + 0 ≤ _; decide) (hb hbytes d3) (⟨rfl, rf, s1.there X0.warmed.alike hh0, Int32.ofNat_not_neg (by omega), lt32 v31 hi⟩)
  obtain ⟨rfl, q3⟩ := E3
  have hh3 := q3.trans hh0
  have c4 : Steps p.tables e below (s₁.setTop (entryFrame m #[.ref t, .int (Int32.ofNat i)] 2)) (T3.setTop (mkF m 14 #[.val (.ref t), .val (.int (Int32.ofNat i))] [.int (chr8 u)])) := Steps.trans g3 (by
    refine XS.aloadN X3.here hexec rfl (hb hbytes d6) rfl rfl ?_
    refine XS.iloadN X3.here hexec rfl (hb hbytes d7) rfl ?_
    refine X3.aget hexec (hV.mv X3.warmed.alike hh3) rfl hu rfl rfl (hb hbytes d8) ?_
    refine sipushV X3.here hexec rfl 255 (hb hbytes d9) (by decide) ?_
    refine XS.iand X3.here hexec rfl (hb hbytes d12) rfl ?_
    refine i2c X3.here hexec rfl (hb hbytes d13) rfl ?_
    exact Steps.refl _)
  exact ⟨T3, some (.int (chr8 u)), _, _, _, X3, rfl, rfl, rfl, (fun h => by cases h), ⟨rfl, hh3⟩, fun fs hl => c4.trans (X3.ireturnOut hexec hret (narrow_c _) (Or.inr (Or.inr (Or.inr (Or.inl rfl)))) (hb hbytes d14) hl)⟩
end LChA
end StrChars
namespace StrChars.Road
open Jvm Sem ClassFile Op Lib Jvm.Stand Jvm.Free Jvm.Free.XT
open Jvm.Lib.Cold (StaticIs)
theorem consq {a : Array Value} {s : State} {c : Jvm.Cond} {L : List Jvm.Cond} (h0 : c.before a s = true) (h : ∀ w ∈ L, w.before a s = true) : ∀ w ∈ c :: L, w.before a s = true := fun w hw => (List.mem_cons.mp hw).elim (fun e => e ▸ h0) (h w)
/-- the bytes of the chars cs, low before high -/
def wideBytes : List Int32 → List Value
  | [] => []
  | c :: cs => .int (lo8 c) :: .int (hi8 c) :: wideBytes cs
theorem wide_lo (d : Value) : ∀ (cs : List Int32) (j : Nat), j < cs.length → (wideBytes cs).getD (2 * j) d = .int (lo8 (cs.getD j 0))
  | [], j, h => absurd h (Nat.not_lt_zero j)
  | c :: cs, 0, _ => rfl
  | c :: cs, j + 1, h => by
    have q := wide_lo d cs j (by simpa using h)
    rw [show 2 * (j + 1) = 2 * j + 1 + 1 from by omega]
    simpa [wideBytes] using q
theorem wide_hi (d : Value) : ∀ (cs : List Int32) (j : Nat), j < cs.length → (wideBytes cs).getD (2 * j + 1) d = .int (hi8 (cs.getD j 0))
  | [], j, h => absurd h (Nat.not_lt_zero j)
  | c :: cs, 0, _ => rfl
  | c :: cs, j + 1, h => by
    have q := wide_hi d cs j (by simpa using h)
    rw [show 2 * (j + 1) + 1 = 2 * j + 1 + 1 + 1 from by omega]
    simpa [wideBytes] using q
theorem low_at (d : Value) (cs : List Int32) (j : Nat) (h : j < cs.length) : (cs.map fun c => Value.int (lo8 c)).getD j d = .int (lo8 (cs.getD j 0)) := by
  simp [List.getD_eq_getElem?_getD, h]
/-- an array of N2 bytes vs codes the chars cs by the coder cd -/
def CodA (cs : List Int32) (cd N2 : Int32) (vs : List Value) : Prop := (cd = 0 ∧ N2 = Int32.ofNat cs.length ∧ vs = (cs.map fun c => Value.int (lo8 c)) ∧ ∀ c ∈ cs, ¬ 255 < c) ∨ (cd = 1 ∧ N2 = Int32.ofNat (2 * cs.length) ∧ vs = wideBytes cs ∧ ∃ c ∈ cs, 255 < c)
theorem CodA.cod {cs : List Int32} {cd N2 : Int32} {vs : List Value} {V : Cell} (h : CodA cs cd N2 vs) (hn : 2 * cs.length < 2 ^ 31) (hs : V.slots.size = N2.toNatClampNeg) (hv : RoadKit.Has V vs (.int 0)) : Cod cd cs.length (fun j => cs.getD j 0) V := by
  rcases h with ⟨rfl, rfl, rfl, h⟩ | ⟨rfl, rfl, rfl, c, hc, hw⟩
  · rw [n32 (by omega)] at hs
    exact Or.inl ⟨rfl, hs, fun j hj => ⟨by rw [hv j (by omega), low_at _ _ _ hj], by
      have e : cs.getD j 0 = cs[j] := by simp [List.getD_eq_getElem?_getD, hj]
      show ¬ 255 < cs.getD j 0
      rw [e]; exact h _ (List.getElem_mem _)⟩⟩
  · rw [n32 (by omega)] at hs
    obtain ⟨j, hj, rfl⟩ := List.getElem_of_mem hc
    exact Or.inr ⟨rfl, hs, fun j hj => ⟨by rw [hv _ (by omega), wide_lo _ _ _ hj], by rw [hv _ (by omega), wide_hi _ _ _ hj]⟩, j, hj, by
      have e : cs.getD j 0 = cs[j] := by simp [List.getD_eq_getElem?_getD, hj]
      show 255 < cs.getD j 0
      rw [e]; exact hw⟩
/-- an object of exactly java/lang/String, its two fields found: as the laws ask it -/
theorem strObj {Z U : State} {a0 : Array Value} {kI : Nat} (wi : (Jvm.Cond.instantiable ST kI).before a0 Z = true) (al : Z.vm.Alike U.vm) {x : Addr} {v0 c0 : Value} (E : RoadKit.Exa Z U.heap x ST) (V : RoadKit.Fld Z U.heap x ST "value" "[B" v0) (C : RoadKit.Fld Z U.heap x ST "coder" "B" c0) :
    ∃ (D : Cell) (fV fC : Field), Blank ST x D U ∧ Found ST "value" "[B" fV U ∧ Found ST "coder" "B" fC U ∧ D.slots[fV.slot]? = some v0 ∧ D.slots[fC.slot]? = some c0 ∧ RoadKit.slotOf Z ST "value" "[B" = fV.slot ∧ RoadKit.slotOf Z ST "coder" "B" = fC.slot := by
  obtain ⟨D, cfV, kV, iV, fV, hD, gV, stV, knV, obV, asV, slV⟩ := V
  obtain ⟨D', cfC, kC, iC, fC, hD', gC, stC, -, -, asC, slC⟩ := C
  cases hD.symm.trans hD'
  obtain ⟨D2, kD, e1, e2, e3, e4, e5⟩ := E
  cases hD.symm.trans e1
  obtain ⟨c2, k2, i1, i2, i3, -⟩ := Cond.instantiable_spec wi
  cases e2.symm.trans i1
  cases e3.symm.trans i2
  obtain ⟨kU, u1, u2⟩ := al.2.2 _ _ e3
  exact ⟨D, fV, fC, ⟨hD, ⟨knV, fun q hq => by rw [hq] at obV; cases obV⟩, by rw [al.findClass]; exact e2, kU, u1, by rw [u2]; exact i3, by rw [u2]; exact e5 i3⟩, ⟨SBG.found_only al ⟨cfV, kV, iV, gV⟩, stV⟩, ⟨SBG.found_only al ⟨cfC, kC, iC, gC⟩, stC⟩, slV, slC, by simp [RoadKit.slotOf, gV], by simp [RoadKit.slotOf, gC]⟩
theorem sta_is {Z U : State} (al : Z.vm.Alike U.vm) {C n d : String} {v : Value} (S : RoadKit.Sta Z U.heap C n d v) : StaticIs U C n d v := by
  obtain ⟨cfS, iS, kS, fS, st, cS, t1, t2, t3, t4, t5, t6, t7⟩ := S
  exact StaticIs.there (s := { Z with heap := U.heap }) ⟨cfS, iS, kS, fS, st, cS, t1, t2, t3, t4, t5, (fun q => by rw [q] at t6; cases t6), t7⟩ al rfl
end StrChars.Road
namespace StrChars.Road
open Jvm Sem ClassFile Op Lib Jvm.Stand Jvm.Free Jvm.Free.XT
open Jvm.Lib.Cold (StaticIs)
/-- the road's facts of a String, as the laws ask it -/
theorem txt_of {Z U : State} {a0 : Array Value} {kI : Nat} (wi : (Jvm.Cond.instantiable ST kI).before a0 Z = true) (al : Z.vm.Alike U.vm) {x t : Addr} {kb : ClassId} {cs : List Int32} {cd N2 : Int32} {vs : List Value} (E : RoadKit.Exa Z U.heap x ST) (V : RoadKit.Fld Z U.heap x ST "value" "[B" (.ref t)) (C : RoadKit.Fld Z U.heap x ST "coder" "B" (.int cd)) (K : RoadKit.Arv Z U.heap t kb .byte N2 vs (.int 0)) (hc : CodA cs cd N2 vs) (hb : ∀ c ∈ cs, ¬ c < 0 ∧ ¬ (65535 : Int32) < c) (l2 : cs.length ≤ 4000) :
    ∃ A, Txt x t A cd cs.length (fun j => cs.getD j 0) U := by
  obtain ⟨A, K1, K2, K3, K4, K5, K6⟩ := K
  have hcod := hc.cod (by omega) K3 K5
  obtain ⟨D, fV, fC, hB, F1, F2, g1, g2, -, -⟩ := strObj wi al E V C
  exact ⟨A, ⟨_, hB.2.2.1, D, hB.1, rfl, by cases q : D.vm <;> first | rfl | exact absurd q (hB.2.1.2 _)⟩, Has.of hB F1 g1, Has.of hB F2 g2, ⟨K1.1, State.isArrayOf_alike al K1.2.1, K1.2.2, by rcases hcod with ⟨-, q, -⟩ | ⟨-, q, -⟩ <;> omega⟩, hcod, fun j hj => by
    have e : cs.getD j 0 = cs[j] := by simp [List.getD_eq_getElem?_getD, hj]
    show ¬ cs.getD j 0 < 0 ∧ ¬ 65535 < cs.getD j 0
    rw [e]; exact hb _ (List.getElem_mem _)⟩
end StrChars.Road
namespace StrChars
open Jvm Sem ClassFile Op Lib Jvm.Stand Jvm.Free.XT Jvm.Free.ALB Jvm.Free.JM Jvm.Free
open Jvm.Lib.Cold (StaticIs)
namespace ChN
def yN : MethodName := ⟨"java/lang/String", "charAt", "(I)C"⟩
abbrev yB : ByteArray := jdk_42_method_56_code
theorem d0 : decode yB 0 = .ok (.aload_n 0, 1) := by decide +kernel
theorem d1 : decode yB 1 = .ok (.invokevirtual 492, 3) := by decide +kernel
theorem d4 : decode yB 4 = .ok (.ifCond (.eq) 12, 3) := by decide +kernel
theorem d7 : decode yB 7 = .ok (.aload_n 0, 1) := by decide +kernel
theorem d8 : decode yB 8 = .ok (.getfield 9, 3) := by decide +kernel
theorem d11 : decode yB 11 = .ok (.iload_n 1, 1) := by decide +kernel
theorem d12 : decode yB 12 = .ok (.invokestatic 495, 3) := by decide +kernel
theorem d15 : decode yB 15 = .ok (.ireturn, 1) := by decide +kernel
def site : List Cond := [.fieldLink "java/lang/String" 9 "java/lang/String" "value" "[B", IsL.tab, LChA.tab] ++ virtW "java/lang/String" 492 "java/lang/String" IsL.yN IsL.yN ++ staticW "java/lang/String" 495 LChA.yN
def tab : Cond := tabOf yN yB 2 (some .char) site
def P (x t : Addr) (V : Cell) (n : Nat) (f : Nat → Int32) (z : Int32) (fm : Value) (i : Nat) (args : Array Value) (s : State) : Prop := args = #[.ref x, .int (Int32.ofNat i)] ∧ Txt x t V 0 n f s ∧ i < n ∧ StaticIs s "java/lang/String" "COMPACT_STRINGS" "Z" (.int z) ∧ ¬ z = 0 ∧ StaticIs s "jdk/internal/util/Preconditions" "SIOOBE_FORMATTER" "Ljava/util/function/BiFunction;" fm ∧ fm.isRef = true
def E (f : Nat → Int32) (i : Nat) (r : Option Value) (s u : State) : Prop := XT.PureE (some (.int (f i))) r s u
/-- charAt(i) of a Latin-1 String of n chars, i < n: f i -/
theorem law (l : Launch) (x t : Addr) (V : Cell) (n : Nat) (f : Nat → Int32) (z : Int32) (fm : Value) (i : Nat) : Law l yN 2 1 3 40 yB 2 (some .char) site (P x t V n f z fm i) (E f i) [] 0 0 := by
  refine Law.of_walk (plainFor_of_name (by decide +kernel)) (by decide +kernel) (by decide +kernel) (by decide) (fun _ _ h => by rw [h.1]; rfl) (fun _ U U' hal hh h => ⟨h.1, h.2.1.mv hal hh, h.2.2.1, h.2.2.2.1.there hal hh, h.2.2.2.2.1, h.2.2.2.2.2.1.there hal hh, h.2.2.2.2.2.2⟩) (fun r U U' V V' h1 hal h2 h => XT.PureE.mv r U U' V V' h1 hal h2 h) ?_
  intro p e s m args below meth c s₁ X0 hexec hbytes hml hret hlk hnm hown hh0 W hP
  obtain ⟨rfl, hx, hi, s1, hz, s3, rf⟩ := hP
  have v31 := hx.2.2.2.1.2.2.2
  have hr := hx.2.2.2.2.2 i hi
  have hx0 := hx.mv X0.warmed.alike hh0
  have c1 : Steps p.tables e below (s₁.setTop (entryFrame m #[.ref x, .int (Int32.ofNat i)] 2)) (s₁.setTop (mkF m 1 #[.val (.ref x), .val (.int (Int32.ofNat i))] [.ref x])) := Steps.trans (entry rfl) (by
    show Steps p.tables e below (s₁.setTop (mkF m 0 #[.val (.ref x), .val (.int (Int32.ofNat i))] [])) _
    refine XS.aloadN X0.here hexec rfl (hb hbytes d0) rfl rfl ?_
    exact Steps.refl _)
  obtain ⟨v2, T2, X2, E2, g2⟩ := X0.callV hexec (IsL.law l x 0 z) hown (wks W (virtW "java/lang/String" 492 "java/lang/String" IsL.yN IsL.yN)) rfl (by decide) (wk W IsL.tab) (W := 0) (Nat.le_of_ble_eq_true rfl) (Nat.le_of_ble_eq_true rfl) (Nat.le_refl _) (Nat.le_refl _) (hx0.1.fc X0.warmed.alike) hx0.1.is (g := (mkF m 1 #[.val (.ref x), .val (.int (Int32.ofNat i))] [.ref x])) rfl (by rw [hml]; rfl) c1 (argsL := []) (rest := []) rfl rfl (by show 2 * 0 + 0 ≤ _; decide) (hb hbytes d1) (⟨rfl, hx0.2.2.1, hx.2.2.2.2.1.cd, s1.there X0.warmed.alike hh0, hz⟩)
  obtain ⟨rfl, q2⟩ := E2
  have hh2 := q2.trans hh0
  have hx2 := hx.mv X2.warmed.alike hh2
  obtain ⟨-, k1, k2⟩ | ⟨k0, -⟩ := hx.2.2.2.2.1
  · have c3 : Steps p.tables e below (s₁.setTop (entryFrame m #[.ref x, .int (Int32.ofNat i)] 2)) (T2.setTop (mkF m 8 #[.val (.ref x), .val (.int (Int32.ofNat i))] [.ref x])) := Steps.trans g2 (by
      refine XS.ifNo X2.here hexec rfl (hb hbytes d4) rfl (i0_eq_f (by decide)) ?_
      refine XS.aloadN X2.here hexec rfl (hb hbytes d7) rfl rfl ?_
      exact Steps.refl _)
    obtain ⟨T4, X4, q4, st4⟩ := X2.hget hexec hown (wk W (.fieldLink "java/lang/String" 9 "java/lang/String" "value" "[B")) hx2.2.1 (g := (mkF m 8 #[.val (.ref x), .val (.int (Int32.ofNat i))] [.ref x])) rfl (rest := []) rfl (hb hbytes d8)
    have hh4 := q4.trans hh2
    have c5 : Steps p.tables e below (s₁.setTop (entryFrame m #[.ref x, .int (Int32.ofNat i)] 2)) (T4.setTop (mkF m 12 #[.val (.ref x), .val (.int (Int32.ofNat i))] [.int (Int32.ofNat i), .ref t])) := (c3.trans (st4 _ (Steps.refl _))).trans (by
      refine XS.iloadN X4.here hexec rfl (hb hbytes d11) rfl ?_
      exact Steps.refl _)
    obtain ⟨v6, T6, X6, E6, g6⟩ := X4.callS hexec (LChA.law l t V i (lo8 (f i)) fm) hown (wks W (staticW "java/lang/String" 495 LChA.yN)) (wk W LChA.tab) (W := 0) (Nat.le_of_ble_eq_true rfl) (Nat.le_of_ble_eq_true rfl) (Nat.le_refl _) (Nat.le_refl _) (g := (mkF m 12 #[.val (.ref x), .val (.int (Int32.ofNat i))] [.int (Int32.ofNat i), .ref t])) rfl (by rw [hml]; rfl) c5 (argsL := [.ref t, .int (Int32.ofNat i)]) (rest := []) rfl rfl (by show 2 * 0 + 0 ≤ _; decide) (hb hbytes d12) (⟨rfl, hx.2.2.2.1.mv X4.warmed.alike hh4, (k2 i hi).1, s3.there X4.warmed.alike hh4, rf⟩)
    obtain ⟨rfl, q6⟩ := E6
    rw [chr8_lo8 hr.1 (k2 i hi).2] at g6
    exact ⟨T6, some (.int (f i)), _, _, _, X6, rfl, rfl, rfl, (fun h => by cases h), ⟨rfl, q6.trans hh4⟩, fun fs hl => Steps.trans g6 (X6.ireturnOut hexec hret (narrow_ch hr.1 hr.2) (Or.inr (Or.inr (Or.inr (Or.inl rfl)))) (hb hbytes d15) hl)⟩
  · exact absurd k0 (by decide)
theorem pays {l : Launch} {R : Room} {p : Program} {e : Env} {below : List Frame} {s : State} {sargs : Array Value} {len W : Nat} (x t : Addr) (V : Cell) (n : Nat) (f : Nat → Int32) (z : Int32) (fm : Value) (i : Nat) (htab : tab.before sargs s = true) (hfr : 4 ≤ R.frames) (hlo : W + 53 ≤ R.locals) :
    Back l R p e below s sargs yN len W (fun A₁ a₁ => A₁.cells + 0 ≤ R.cells ∧ A₁.slots + 0 ≤ R.slots ∧ P x t V n f z fm i a₁ A₁.U) (fun A₁ _ v₁ B₁ => E f i v₁ A₁.U B₁.U ∧ B₁.locs = A₁.locs ++ [] ∧ B₁.cells = A₁.cells + 0 ∧ B₁.slots = A₁.slots + 0) :=
  (law l x t V n f z fm i).pays htab hfr (by omega)
end ChN
end StrChars
namespace StrChars.Road
open Jvm Sem ClassFile Op Lib Jvm.Stand Jvm.Free Jvm.Free.XT
open Jvm.Lib.Cold (StaticIs)
/-- the words of String.charAt(int), the Latin-1 road alone -/
abbrev wordsChN : List Jvm.Cond := [.code ChN.yN ChN.yB 2 (some .char), .initialized ST, .fieldLink ST 9 ST "value" "[B", .fieldLink ST 38 ST "COMPACT_STRINGS" "Z", .fieldLink ST 15 ST "coder" "B", .code IsL.yN IsL.yB 1 (some .boolean), .methodLink ST 492 IsL.yN, .declares IsL.yN, .selects ST IsL.yN IsL.yN, .instanceMethod IsL.yN,
  .methodLink ST 495 LChA.yN, .static LChA.yN, .code LChA.yN LChA.yB 2 (some .char), .initialized "java/lang/StringLatin1", .methodLink "java/lang/StringLatin1" 9 JO.Str_checkIndex.yN, .static JO.Str_checkIndex.yN, .code JO.Str_checkIndex.yN JO.Str_checkIndex.yB 2 none,
  .fieldLink ST 1053 "jdk/internal/util/Preconditions" "SIOOBE_FORMATTER" "Ljava/util/function/BiFunction;", .methodLink ST 1059 JC.PreCheck.yN, .static JC.PreCheck.yN, .code JC.PreCheck.yN JC.PreCheck.yB 3 (some .int), .initialized "jdk/internal/util/Preconditions"]
theorem tabChN_of {a : Array Value} {s : State} (h : ∀ w ∈ wordsChN, w.before a s = true) : ChN.tab.before a s = true := by
  have hp : JC.PreCheck.tab.before a s = true := unparts (wk h (.code JC.PreCheck.yN JC.PreCheck.yB 3 (some .int))) (wks h (.initialized JC.PreCheck.yN.cls :: JC.PreCheck.site))
  have qk := consq hp h
  have hk : JO.Str_checkIndex.tab.before a s = true := unparts (wk qk (.code JO.Str_checkIndex.yN JO.Str_checkIndex.yB 2 none)) (wks qk (.initialized JO.Str_checkIndex.yN.cls :: JO.Str_checkIndex.site))
  have ql := consq hk h
  have hl : LChA.tab.before a s = true := unparts (wk ql (.code LChA.yN LChA.yB 2 (some .char))) (wks ql (.initialized LChA.yN.cls :: LChA.site))
  have hi : IsL.tab.before a s = true := unparts (wk h (.code IsL.yN IsL.yB 1 (some .boolean))) (wks h (.initialized IsL.yN.cls :: IsL.site))
  have q := consq hi (consq hl h)
  exact unparts (wk q (.code ChN.yN ChN.yB 2 (some .char))) (wks q (.initialized ChN.yN.cls :: ChN.site))
theorem movedChN {Z s : State} {a0 args : Array Value} (hZ : Z.Warmed39 s.vm) (hw : ∀ d ∈ wordsChN, d.before a0 Z = true) : ∀ d ∈ wordsChN, d.before args s = true := fun d hd => by
  have t : ∀ d ∈ wordsChN, (d.onTables && d.keepsFace) = true := by decide +kernel
  exact RoadKit.mv hZ (hw d hd) (t d hd)
/-- **charAt(i) OF A LATIN-1 STRING**, i < n: the char -/
theorem chN {p : Program} {l : Launch} {e : Env} {R : Room} {s : State} {args : Array Value} {below : List Frame} {len W : Nat} {Z : State} {a0 : Array Value} {h : Heap} (hZ : Z.Warmed39 s.vm) (hw : ∀ d ∈ wordsChN, d.before a0 Z = true) {kI : Nat} (wi : (Jvm.Cond.instantiable ST kI).before a0 Z = true)
    {x t : Addr} {kb : ClassId} {cs : List Int32} {N2 z : Int32} {vs : List Value} {fm : Value} {i : Nat} {j : Int32} (E : RoadKit.Exa Z h x ST) (V : RoadKit.Fld Z h x ST "value" "[B" (.ref t)) (C : RoadKit.Fld Z h x ST "coder" "B" (.int 0)) (K : RoadKit.Arv Z h t kb .byte N2 vs (.int 0)) (hc : CodA cs 0 N2 vs) (hb : ∀ c ∈ cs, ¬ c < 0 ∧ ¬ (65535 : Int32) < c)
    (S : RoadKit.Sta Z h ST "COMPACT_STRINGS" "Z" (.int z)) (hz : ¬ z = 0) (F : RoadKit.Sta Z h "jdk/internal/util/Preconditions" "SIOOBE_FORMATTER" "Ljava/util/function/BiFunction;" fm) (rf : fm.isRef = true) (l2 : cs.length ≤ 4000) (hi : i < cs.length) (hj : j = Int32.ofNat i) (hfr : 4 ≤ R.frames) (hlo : W + 53 ≤ R.locals) :
    Back l R p e below s args (⟨"java/lang/String", "charAt", "(I)C"⟩ : MethodName) len W (fun P a => a = #[.ref x, .int j] ∧ P.U.heap = h ∧ P.cells + 0 ≤ R.cells ∧ P.slots + 0 ≤ R.slots)
      (fun P _ v B => ∃ L, (v = some (.int (cs.getD i 0)) ∧ L = [] ∧ B.U.heap = h) ∧ B.locs = P.locs ++ L ∧ B.cells = P.cells + 0 ∧ B.slots = P.slots + 0) := by
  subst hj
  intro m meth c P g ig mk a X hg hsize hdg hW hn hp'
  obtain ⟨rfl, rfl, r1, r2⟩ := hp'
  have al : Z.vm.Alike P.U.vm := hZ.alike.trans X.warmed.alike
  obtain ⟨A, hx⟩ := txt_of wi al E V C K hc hb l2
  obtain ⟨v, B, X', ⟨⟨hv, hh⟩, hl, hk, hs⟩, st⟩ := ChN.pays x t A cs.length (fun j => cs.getD j 0) z fm i (tabChN_of (movedChN hZ hw)) hfr hlo m meth c P g ig mk _ X hg hsize hdg hW hn ⟨r1, r2, rfl, hx, hi, sta_is al S, hz, sta_is al F, rf⟩
  exact ⟨v, B, X', ⟨[], ⟨hv, rfl, hh⟩, hl, hk, hs⟩, st⟩
/-- what backV says of its String, as the contracts of this text ask it: cs's low bytes, coder 0 -/
theorem codOf {cs : List Int32} {n : Nat} (hn : cs.length = n) (hb : ∀ c ∈ cs, ¬ 255 < c) : CodA cs 0 (Int32.ofNat n) ((cs.map lo8).map Value.int) := Or.inl ⟨rfl, by rw [hn], by simp [List.map_map, Function.comp_def], hb⟩
end StrChars.Road
end Jvm.Pilot.@@N@@
namespace Jvm.Pilot.@@N@@
open Jvm Jvm.ClassFile Sem Op Lib Jvm.Free Jvm.Stand Jvm.LawKit Jvm.RoadKit Bundle Jvm.Pilot.@@N@@.Jvm.D
section Own
variable {p : Program} {l : Launch} {e : Env} {R : Room} {s : State} {m : MethodId} {args : Array Value} {below : List Frame} {meth : Method} {c : Code} {T : State} {locs : List Loc} {cells slots : Nat} {Z : State} {a0 : Array Value} {h : Heap}
theorem wd (hw : ∀ d ∈ tables_1, d.before a0 Z = true) (k : Nat) {d : Jvm.Cond} (q : tables_1[k]? = some d) : d.before a0 Z = true := hw d (List.mem_of_getElem? q)
theorem old_sz {n0 : Nat} (O : Old Z n0 h) : n0 ≤ h.size := O.1 ▸ O.2.1
/-- what is left to show from the state t on -/
def Run (p : Program) (e : Env) (below : List Frame) (A : Outcome → State → Prop) (t : State) : Prop := ∃ u o, Steps p.tables e below t u ∧ u.status = .running ∧ Ended u below o ∧ A o u
theorem go {A : Outcome → State → Prop} {t t' : State} (st : ∀ u, Steps p.tables e below t' u → Steps p.tables e below t u) (k : Run p e below A t') : Run p e below A t := by
  obtain ⟨u, o, k1, k2⟩ := k
  exact ⟨u, o, st u k1, k2⟩
theorem goT {A : Outcome → State → Prop} {t t' : State} (st : Steps p.tables e below t t') (k : Run p e below A t') : Run p e below A t := by
  obtain ⟨u, o, k1, k2⟩ := k
  exact ⟨u, o, st.trans k1, k2⟩
def Ends (s : State) (Q : Option Value → Heap → List Loc → Prop) (k n : Nat) (o : Outcome) (U : State) : Prop := ∃ v L, o = .returned v ∧ Q v U.heap L ∧ FrameEnd s o U L k n
def Meets (l : Launch) (y : MethodName) (bytes : ByteArray) (maxL : Nat) (ret : Option FieldType) (ws : List Jvm.Cond) (rm : Room) (Z : State) (as' : Array Value) (h0 : Heap) (Q : Option Value → Heap → List Loc → Prop) (k n : Nat) : Prop :=
  MetFree l y (head1 (Jvm.Cond.code y bytes maxL ret :: ws) rm) (fun a U => a = as' ∧ Z.Warmed39 U.vm ∧ U.heap = h0) (fun _ _ _ _ _ => True) (fun _ U o U' => ∃ v L, o = .returned v ∧ Q v U'.heap L ∧ FrameEnd U o U' L k n)
theorem enter {y : MethodName} {bytes : ByteArray} {maxL : Nat} {ret : Option FieldType} {ws : List Jvm.Cond} {rm : Room} {as' : Array Value} {h0 : Heap} {Q : Option Value → Heap → List Loc → Prop} {k n : Nat} {Ls : Array Slot} (pf : plainFor y = true) (ef : ∀ m, entryFrame m as' maxL = mkF m 0 Ls [])
    (body : ∀ (p : Program) (e : Env) (s : State) (m : MethodId) (below : List Frame) (meth : Method) (c : Code) (T : State), p.tables.exec = Jvm.exec → c.code = bytes → c.maxLocals = maxL → s.vm.findClass y.cls = some m.cls → meth.name = y.name → meth.sig.returnType = ret → meth.locks = false → Z.Warmed39 s.vm → Stand p l e rm s m as' below meth c T [] 0 0 → T.heap = h0 → Run p e below (Ends s Q k n) (T.setTop (mkF m 0 Ls []))) :
    Meets l y bytes maxL ret ws rm Z as' h0 Q k n := by
  refine MetFree.of_bodySF pf hisR ?_
  intro p e s m args below meth c s₁ Bd hml0 hP hK
  obtain ⟨rfl, hZ, hh⟩ := hP
  obtain ⟨u, o, k1, k2, k3, k4⟩ := body p e s m below meth c s₁ Bd.exec Bd.bytes hml0 (findClass_of_methodNamed Bd.named) (name_of_methodNamed Bd.named Bd.method).1 Bd.returns (BodyLoose.notSynchronized Bd) hZ (Stand.of_body Bd) (by rw [← hh, Bd.state]; rfl)
  exact ⟨u, o, castTop (ef m) k1, k2, k3, k4⟩
theorem smono (X : Stand p l e R s m args below meth c T locs cells slots) {k n : Nat} (hk : cells ≤ k) (hn : slots ≤ n) : Stand p l e R s m args below meth c T locs k n :=
  ⟨X.admits, X.cas, X.clock, X.frames, X.room, X.hears, X.method, X.code, X.here, X.tail, X.warmed, X.limits, X.bytes, X.same.mono hk hn⟩
theorem retI (X : Stand p l e R s m args below meth c T locs cells slots) (hx : p.tables.exec = Jvm.exec) {pc : Nat} {Ls : Array Slot} {z : Int32} {rest : List Value} (hret : meth.sig.returnType = some .int) (hd : decode c.code pc = .ok (.ireturn, 1)) {fs : List Frame}
    (hl : ∀ (f : JFrame) (acts : List Action), f.method = m → f.locked = none → f.entered = [] → (doReturn e (T.setTop f) acts (some (.int z))).1 = T.setFrames fs) : Steps p.tables e below (T.setTop (mkF m pc Ls (.int z :: rest))) (T.setFrames fs) :=
  retOut X hx hret rfl (Or.inl ⟨rfl, Or.inl rfl, _, rfl⟩) hd hl
theorem endI (X : Stand p l e R s m args below meth c T locs cells slots) (hx : p.tables.exec = Jvm.exec) (hlk : meth.locks = false) {Q : Option Value → Heap → List Loc → Prop} {k n pc : Nat} {Ls : Array Slot} {z : Int32} {rest : List Value} (hret : meth.sig.returnType = some .int) (hd : decode c.code pc = .ok (.ireturn, 1)) (hq : Q (some (.int z)) T.heap locs) (hk : cells ≤ k) (hn : slots ≤ n) :
    Run p e below (Ends s Q k n) (T.setTop (mkF m pc Ls (.int z :: rest))) := by
  obtain ⟨fs, hr, hrun, hended, hW, hsame⟩ := X.leave (v := some (.int z)) (fun h => by rw [hret] at h; cases h) hlk
  exact ⟨_, _, retI X hx hret hd hr, hrun, hended, _, _, rfl, hq, ⟨_, rfl⟩, hW, hsame.mono hk hn⟩
theorem endN (X : Stand p l e R s m args below meth c T locs cells slots) (hx : p.tables.exec = Jvm.exec) (hlk : meth.locks = false) {Q : Option Value → Heap → List Loc → Prop} {k n pc : Nat} {Ls : Array Slot} {z : Int32} {rest : List Value} {t : FieldType} (hret : meth.sig.returnType = some t) (ht : t = .boolean ∨ t = .byte ∨ t = .char ∨ t = .short) (hd : decode c.code pc = .ok (.ireturn, 1)) (hq : Q (some (.int (nar t z))) T.heap locs) (hk : cells ≤ k) (hn : slots ≤ n) :
    Run p e below (Ends s Q k n) (T.setTop (mkF m pc Ls (.int z :: rest))) := by
  obtain ⟨fs, hr, hrun, hended, hW, hsame⟩ := X.leave (v := some (.int (nar t z))) (fun h => by rw [hret] at h; cases h) hlk
  exact ⟨_, _, retN X hx hret ht hd hr, hrun, hended, _, _, rfl, hq, ⟨_, rfl⟩, hW, hsame.mono hk hn⟩
theorem endA (X : Stand p l e R s m args below meth c T locs cells slots) (hx : p.tables.exec = Jvm.exec) (hlk : meth.locks = false) {Q : Option Value → Heap → List Loc → Prop} {k n pc : Nat} {Ls : Array Slot} {w : Value} {rest : List Value} {t : FieldType} (hret : meth.sig.returnType = some t) (ht : t.isReference = true) (hv : w.isRef = true) (hd : decode c.code pc = .ok (.areturn, 1)) (hq : Q (some w) T.heap locs) (hk : cells ≤ k) (hn : slots ≤ n) :
    Run p e below (Ends s Q k n) (T.setTop (mkF m pc Ls (w :: rest))) := by
  obtain ⟨fs, hr, hrun, hended, hW, hsame⟩ := X.leave (v := some w) (fun h => by rw [hret] at h; cases h) hlk
  have hn' : narrow t w = w := by cases w <;> first | (cases hv; done) | (cases t <;> first | rfl | (cases ht; done))
  exact ⟨_, _, retOut X hx hret hn' (Or.inr (Or.inr (Or.inr (Or.inr ⟨rfl, ht, hv⟩)))) hd hr, hrun, hended, _, _, rfl, hq, ⟨_, rfl⟩, hW, hsame.mono hk hn⟩
theorem endJ (X : Stand p l e R s m args below meth c T locs cells slots) (hx : p.tables.exec = Jvm.exec) (hlk : meth.locks = false) {Q : Option Value → Heap → List Loc → Prop} {k n pc : Nat} {Ls : Array Slot} {z : Int64} {rest : List Value} (hret : meth.sig.returnType = some .long) (hd : decode c.code pc = .ok (.lreturn, 1)) (hq : Q (some (.long z)) T.heap locs) (hk : cells ≤ k) (hn : slots ≤ n) :
    Run p e below (Ends s Q k n) (T.setTop (mkF m pc Ls (.long z :: rest))) := by
  obtain ⟨fs, hr, hrun, hended, hW, hsame⟩ := X.leave (v := some (.long z)) (fun h => by rw [hret] at h; cases h) hlk
  exact ⟨_, _, retOut X hx hret rfl (Or.inr (Or.inl ⟨rfl, rfl, _, rfl⟩)) hd hr, hrun, hended, _, _, rfl, hq, ⟨_, rfl⟩, hW, hsame.mono hk hn⟩
theorem endD (X : Stand p l e R s m args below meth c T locs cells slots) (hx : p.tables.exec = Jvm.exec) (hlk : meth.locks = false) {Q : Option Value → Heap → List Loc → Prop} {k n pc : Nat} {Ls : Array Slot} {z : UInt64} {rest : List Value} (hret : meth.sig.returnType = some .double) (hd : decode c.code pc = .ok (.dreturn, 1)) (hq : Q (some (.double z)) T.heap locs) (hk : cells ≤ k) (hn : slots ≤ n) :
    Run p e below (Ends s Q k n) (T.setTop (mkF m pc Ls (.double z :: rest))) := by
  obtain ⟨fs, hr, hrun, hended, hW, hsame⟩ := X.leave (v := some (.double z)) (fun h => by rw [hret] at h; cases h) hlk
  exact ⟨_, _, retOut X hx hret rfl (Or.inr (Or.inr (Or.inl ⟨rfl, rfl, _, rfl⟩))) hd hr, hrun, hended, _, _, rfl, hq, ⟨_, rfl⟩, hW, hsame.mono hk hn⟩
theorem endV (X : Stand p l e R s m args below meth c T locs cells slots) (hx : p.tables.exec = Jvm.exec) (hlk : meth.locks = false) {Q : Option Value → Heap → List Loc → Prop} {k n pc : Nat} {Ls : Array Slot} (hret : meth.sig.returnType = none) (hd : decode c.code pc = .ok (.return_, 1)) (hq : Q none T.heap locs) (hk : cells ≤ k) (hn : slots ≤ n) :
    Run p e below (Ends s Q k n) (T.setTop (mkF m pc Ls [])) := by
  obtain ⟨fs, hr, hrun, hended, hW, hsame⟩ := X.leave (v := none) (fun _ => rfl) hlk
  exact ⟨_, _, X.returnOut hx hret hd hr, hrun, hended, _, _, rfl, hq, ⟨_, rfl⟩, hW, hsame.mono hk hn⟩
abbrev Pay (l : Launch) (R : Room) (p : Program) (e : Env) (below : List Frame) (s : State) (args : Array Value) (y : MethodName) (len W : Nat) (as' : Array Value) (h : Heap) (Q : Option Value → Heap → List Loc → Prop) (rc rs : Nat) : Prop :=
  Back l R p e below s args y len W (fun A a => a = as' ∧ A.U.heap = h ∧ A.cells + rc ≤ R.cells ∧ A.slots + rs ≤ R.slots) (fun A _ v B => ∃ L, Q v B.U.heap L ∧ B.locs = A.locs ++ L ∧ B.cells = A.cells + rc ∧ B.slots = A.slots + rs)
theorem Pay.more {y : MethodName} {len W rc rs rs' : Nat} {as' : Array Value} {Q : Option Value → Heap → List Loc → Prop} (hK : Pay l R p e below s args y len W as' h Q rc rs) (q : rs ≤ rs') : Pay l R p e below s args y len W as' h Q rc rs' := fun m meth c A g ig mk a X hg hsz hd hW hn hp => by
  obtain ⟨v, B, X', ⟨L, q1, q2, q3, q4⟩, st⟩ := hK m meth c A g ig mk a X hg hsz hd hW hn ⟨hp.1, hp.2.1, hp.2.2.1, Nat.le_trans (Nat.add_le_add_left q _) hp.2.2.2⟩
  exact ⟨v, (B.U, B.locs, B.cells, A.slots + rs'), smono X' (Nat.le_refl _) (by rw [q4]; exact Nat.add_le_add_left q _), ⟨L, q1, q2, q3, rfl⟩, st⟩
theorem narR {v : Value} {C : String} (h : v.isRef = true) : narrow (.object C) v = v := by cases v <;> first | rfl | (cases h; done)
theorem catR {v : Value} (h : v.isRef = true) : v.category = 1 := by cases v <;> first | rfl | (cases h; done)
theorem fitR {v : Value} {C : String} (h : v.isRef = true) : fits (.object C) v = true := by cases v <;> first | rfl | (cases h; done)
theorem callSt (X : Stand p l e R s m args below meth c T locs cells slots) (hx : p.tables.exec = Jvm.exec) (hZ : Z.Warmed39 s.vm) {own : String} {index : Nat} {y : MethodName} {bytes : ByteArray} {maxL : Nat} {ret : Option FieldType} {rm : Room} {Q : Option Value → Heap → List Loc → Prop} (hown : s.vm.findClass own = some m.cls)
    (w1 : (Jvm.Cond.methodLink own index y).before a0 Z = true) (w2 : (Jvm.Cond.static y).before a0 Z = true) (w3 : (Jvm.Cond.initialized y.cls).before a0 Z = true) (w4 : (Jvm.Cond.code y bytes maxL ret).before a0 Z = true) (hy : y.cls ≠ "java/lang/invoke/MethodHandle" ∧ y.cls ≠ "java/lang/invoke/VarHandle") (eT : T.heap = h) {argsL rest : List Value}
    (hM : Meets l y bytes maxL ret [] rm Z argsL.toArray h Q rm.cells rm.slots) {W : Nat} (hf : rm.frames + 1 ≤ R.frames) (hl : W + (maxL + 11) + rm.locals ≤ R.locals) (hc : cells + rm.cells ≤ R.cells) (hn : slots + rm.slots ≤ R.slots)
    {pc : Nat} {Ls : Array Slot} {st : List Value} (hsize : Ls.size = c.maxLocals) (hlen : ∀ sig, parseMethodDescriptor y.desc = some sig → argsL.length = sig.parameters.length) (hst : st = argsL.reverse ++ rest) (hW : (rest.map fun v => v.category).sum ≤ W) (hd : decode c.code pc = .ok (.invokestatic index, 3)) {A : Outcome → State → Prop}
    (kk : ∀ (v : Option Value) (T' : State) (L : List Loc) (h' : Heap), Stand p l e R s m args below meth c T' (locs ++ L) (cells + rm.cells) (slots + rm.slots) → T'.heap = h' → Q v h' L → Run p e below A (T'.setTop (mkF m (pc + 3) Ls (v.toList ++ rest)))) : Run p e below A (T.setTop (mkF m pc Ls st)) := by
  obtain ⟨v, _, ⟨T18, L18, k18, n18⟩, -, X18, ⟨Lc18, hQ18, l18, y18, z18⟩, st18⟩ := Jvm.LawKit.callS X hx hown (mvT hZ w1) (mvT hZ w2) (mvT hZ w3) (mvT hZ w4) hy (backOf (W := W) hM hZ w4 w3 hf hl) (g := mkF m pc Ls st) rfl hsize (argsL := argsL) (rest := rest) hlen hst (by show 2 * 0 + _ ≤ _; omega) hd (fun _ _ => ⟨rfl, eT, hc, hn⟩)
  dsimp only [Pt.U, Pt.locs, Pt.cells, Pt.slots] at X18 l18 y18 z18 st18 hQ18
  subst l18 y18 z18
  exact go st18 (kk v _ _ _ X18 rfl hQ18)
theorem callVi (X : Stand p l e R s m args below meth c T locs cells slots) (hx : p.tables.exec = Jvm.exec) (hZ : Z.Warmed39 s.vm) {own C : String} {index : Nat} {y z : MethodName} {bytes : ByteArray} {maxL : Nat} {ret : Option FieldType} {rm : Room} {Q : Option Value → Heap → List Loc → Prop} (hown : s.vm.findClass own = some m.cls)
    (w1 : (Jvm.Cond.methodLink own index y).before a0 Z = true) (w2 : (Jvm.Cond.declares y).before a0 Z = true) (nf : NotFace s y) (w5 : (Jvm.Cond.selects C y z).before a0 Z = true) (w6 : (Jvm.Cond.instanceMethod z).before a0 Z = true) (w4 : (Jvm.Cond.code z bytes maxL ret).before a0 Z = true) (w3 : (Jvm.Cond.initialized z.cls).before a0 Z = true) (hy : y.cls ≠ "java/lang/invoke/MethodHandle" ∧ y.cls ≠ "java/lang/invoke/VarHandle") (eT : T.heap = h) {a : Addr} (E : Exa Z h a C) {argsL rest : List Value}
    (hM : Meets l z bytes maxL ret [] rm Z (.ref a :: argsL).toArray h Q rm.cells rm.slots) {W : Nat} (hf : rm.frames + 1 ≤ R.frames) (hl : W + (maxL + 11) + rm.locals ≤ R.locals) (hc : cells + rm.cells ≤ R.cells) (hn : slots + rm.slots ≤ R.slots)
    {pc : Nat} {Ls : Array Slot} {st : List Value} (hsize : Ls.size = c.maxLocals) (hlen : ∀ sig, parseMethodDescriptor y.desc = some sig → argsL.length = sig.parameters.length) (hst : st = argsL.reverse ++ .ref a :: rest) (hW : (rest.map fun v => v.category).sum ≤ W) (hd : decode c.code pc = .ok (.invokevirtual index, 3)) {A : Outcome → State → Prop}
    (kk : ∀ (v : Option Value) (T' : State) (L : List Loc) (h' : Heap), Stand p l e R s m args below meth c T' (locs ++ L) (cells + rm.cells) (slots + rm.slots) → T'.heap = h' → Q v h' L → Run p e below A (T'.setTop (mkF m (pc + 3) Ls (v.toList ++ rest)))) : Run p e below A (T.setTop (mkF m pc Ls st)) := by
  obtain ⟨cq, kq, qa, qb, qc⟩ := isOf hZ eT E
  obtain ⟨v, _, ⟨T18, L18, k18, n18⟩, -, X18, ⟨Lc18, hQ18, l18, y18, z18⟩, st18⟩ := X.virtualBack hx (y := y) (z := z) hown (mvT hZ w1) (mvT hZ w2) nf (mvT hZ w5) (mvT hZ w6) hy (backOf (W := W) hM hZ w4 w3 hf hl) qa qc (g := mkF m pc Ls st) rfl hsize (Steps.refl _) (argsL := argsL) (rest := rest) hlen hst (by show 2 * 0 + _ ≤ _; omega) hd (fun _ _ => ⟨rfl, eT, hc, hn⟩)
  dsimp only [Pt.U, Pt.locs, Pt.cells, Pt.slots] at X18 l18 y18 z18 st18 hQ18
  subst l18 y18 z18
  exact goT st18 (kk v _ _ _ X18 rfl hQ18)
theorem callSp (X : Stand p l e R s m args below meth c T locs cells slots) (hx : p.tables.exec = Jvm.exec) (hZ : Z.Warmed39 s.vm) {own : String} {index : Nat} {y : MethodName} (hy1 : y.name = "<init>") {bytes : ByteArray} {maxL : Nat} {rm : Room} {Q : Option Value → Heap → List Loc → Prop} (hown : s.vm.findClass own = some m.cls)
    (w1 : (Jvm.Cond.methodLink own index y).before a0 Z = true) (w6 : (Jvm.Cond.instanceMethod y).before a0 Z = true) (w4 : (Jvm.Cond.code y bytes maxL none).before a0 Z = true) (w3 : (Jvm.Cond.initialized y.cls).before a0 Z = true) (hy : y.cls ≠ "java/lang/invoke/MethodHandle" ∧ y.cls ≠ "java/lang/invoke/VarHandle") (eT : T.heap = h) {a : Addr} {argsL rest : List Value}
    (hM : Meets l y bytes maxL none [] rm Z (.ref a :: argsL).toArray h Q rm.cells rm.slots) {W : Nat} (hf : rm.frames + 1 ≤ R.frames) (hl : W + (maxL + 11) + rm.locals ≤ R.locals) (hc : cells + rm.cells ≤ R.cells) (hn : slots + rm.slots ≤ R.slots)
    {pc : Nat} {Ls : Array Slot} {st : List Value} (hsize : Ls.size = c.maxLocals) (hlen : ∀ sig, parseMethodDescriptor y.desc = some sig → argsL.length = sig.parameters.length) (hst : st = argsL.reverse ++ .ref a :: rest) (hW : (rest.map fun v => v.category).sum ≤ W) (hd : decode c.code pc = .ok (.invokespecial index, 3)) {A : Outcome → State → Prop}
    (kk : ∀ (v : Option Value) (T' : State) (L : List Loc) (h' : Heap), Stand p l e R s m args below meth c T' (locs ++ L) (cells + rm.cells) (slots + rm.slots) → T'.heap = h' → Q v h' L → Run p e below A (T'.setTop (mkF m (pc + 3) Ls (v.toList ++ rest)))) : Run p e below A (T.setTop (mkF m pc Ls st)) := by
  obtain ⟨v, _, ⟨T18, L18, k18, n18⟩, -, X18, ⟨Lc18, hQ18, l18, y18, z18⟩, st18⟩ := X.specialBack hx (y := y) hy1 hown (mvT hZ w1) (mvT hZ w6) (mvT hZ w4) hy (backOf (W := W) hM hZ w4 w3 hf hl) (g := mkF m pc Ls st) rfl hsize (Steps.refl _) (a := a) (argsL := argsL) (rest := rest) hlen hst (by show 2 * 0 + _ ≤ _; omega) hd (fun _ _ => ⟨rfl, eT, hc, hn⟩)
  dsimp only [Pt.U, Pt.locs, Pt.cells, Pt.slots] at X18 l18 y18 z18 st18 hQ18
  subst l18 y18 z18
  exact goT st18 (kk v _ _ _ X18 rfl hQ18)
theorem callSpN (X : Stand p l e R s m args below meth c T locs cells slots) (hx : p.tables.exec = Jvm.exec) (hZ : Z.Warmed39 s.vm) {own host : String} {index : Nat} {y : MethodName} (hy1 : y.name = "<init>") {bytes : ByteArray} {maxL : Nat} {rm : Room} {Q : Option Value → Heap → List Loc → Prop} (hown : s.vm.findClass own = some m.cls)
    (w1 : (Jvm.Cond.methodLinkNest own index y host).before a0 Z = true) (w6 : (Jvm.Cond.instanceMethod y).before a0 Z = true) (w4 : (Jvm.Cond.code y bytes maxL none).before a0 Z = true) (w3 : (Jvm.Cond.initialized y.cls).before a0 Z = true) (hy : y.cls ≠ "java/lang/invoke/MethodHandle" ∧ y.cls ≠ "java/lang/invoke/VarHandle") (eT : T.heap = h) {a : Addr} {argsL rest : List Value}
    (hM : Meets l y bytes maxL none [] rm Z (.ref a :: argsL).toArray h Q rm.cells rm.slots) {W : Nat} (hf : rm.frames + 1 ≤ R.frames) (hl : W + (maxL + 11) + rm.locals ≤ R.locals) (hc : cells + rm.cells ≤ R.cells) (hn : slots + rm.slots ≤ R.slots)
    {pc : Nat} {Ls : Array Slot} {st : List Value} (hsize : Ls.size = c.maxLocals) (hlen : ∀ sig, parseMethodDescriptor y.desc = some sig → argsL.length = sig.parameters.length) (hst : st = argsL.reverse ++ .ref a :: rest) (hW : (rest.map fun v => v.category).sum ≤ W) (hd : decode c.code pc = .ok (.invokespecial index, 3)) {A : Outcome → State → Prop}
    (kk : ∀ (v : Option Value) (T' : State) (L : List Loc) (h' : Heap), Stand p l e R s m args below meth c T' (locs ++ L) (cells + rm.cells) (slots + rm.slots) → T'.heap = h' → Q v h' L → Run p e below A (T'.setTop (mkF m (pc + 3) Ls (v.toList ++ rest)))) : Run p e below A (T.setTop (mkF m pc Ls st)) := by
  obtain ⟨v, _, ⟨T18, L18, k18, n18⟩, -, X18, ⟨Lc18, hQ18, l18, y18, z18⟩, st18⟩ := X.specialBackNest hx (y := y) hy1 hown (Cond.methodLinkNest_wide hZ w1 :) (mvT hZ w6) (mvT hZ w4) hy (backOf (W := W) hM hZ w4 w3 hf hl) (g := mkF m pc Ls st) rfl hsize (Steps.refl _) (a := a) (argsL := argsL) (rest := rest) hlen hst (by show 2 * 0 + _ ≤ _; omega) hd (fun _ _ => ⟨rfl, eT, hc, hn⟩)
  dsimp only [Pt.U, Pt.locs, Pt.cells, Pt.slots] at X18 l18 y18 z18 st18 hQ18
  subst l18 y18 z18
  exact goT st18 (kk v _ _ _ X18 rfl hQ18)
theorem callPr (X : Stand p l e R s m args below meth c T locs cells slots) (hx : p.tables.exec = Jvm.exec) (hZ : Z.Warmed39 s.vm) {own C : String} {index : Nat} {y : MethodName} {bytes : ByteArray} {maxL : Nat} {ret : Option FieldType} {rm : Room} {Q : Option Value → Heap → List Loc → Prop} (hown : s.vm.findClass own = some m.cls)
    (w1 : (Jvm.Cond.methodLink own index y).before a0 Z = true) (w2 : (Jvm.Cond.privateMethod y).before a0 Z = true) (w5 : (Jvm.Cond.selects y.cls y y).before a0 Z = true) (w6 : (Jvm.Cond.instanceMethod y).before a0 Z = true) (w4 : (Jvm.Cond.code y bytes maxL ret).before a0 Z = true) (w3 : (Jvm.Cond.initialized y.cls).before a0 Z = true) (hy : y.cls ≠ "java/lang/invoke/MethodHandle" ∧ y.cls ≠ "java/lang/invoke/VarHandle") (eT : T.heap = h) {a : Addr} (E : Exa Z h a C) {argsL rest : List Value}
    (hM : Meets l y bytes maxL ret [] rm Z (.ref a :: argsL).toArray h Q rm.cells rm.slots) {W : Nat} (hf : rm.frames + 1 ≤ R.frames) (hl : W + (maxL + 11) + rm.locals ≤ R.locals) (hc : cells + rm.cells ≤ R.cells) (hn : slots + rm.slots ≤ R.slots)
    {pc : Nat} {Ls : Array Slot} {st : List Value} (hsize : Ls.size = c.maxLocals) (hlen : ∀ sig, parseMethodDescriptor y.desc = some sig → argsL.length = sig.parameters.length) (hst : st = argsL.reverse ++ .ref a :: rest) (hW : (rest.map fun v => v.category).sum ≤ W) (hd : decode c.code pc = .ok (.invokevirtual index, 3)) {A : Outcome → State → Prop}
    (kk : ∀ (v : Option Value) (T' : State) (L : List Loc) (h' : Heap), Stand p l e R s m args below meth c T' (locs ++ L) (cells + rm.cells) (slots + rm.slots) → T'.heap = h' → Q v h' L → Run p e below A (T'.setTop (mkF m (pc + 3) Ls (v.toList ++ rest)))) : Run p e below A (T.setTop (mkF m pc Ls st)) := by
  obtain ⟨cl, hcl, hob⟩ := Exa.cell E
  obtain ⟨v, _, ⟨T18, L18, k18, n18⟩, -, X18, ⟨Lc18, hQ18, l18, y18, z18⟩, st18⟩ := X.privateBack hx (y := y) hown (mvT hZ w1) (mvT hZ w6) (mvT hZ w5) (Cond.privateMethod_at (mvP hZ w2 (args := #[]))) (mvT hZ w4) hy (backOf (W := W) hM hZ w4 w3 hf hl) (g := mkF m pc Ls st) rfl hsize (Steps.refl _) (a := a) (by rw [eT]; exact hcl) hob (argsL := argsL) (rest := rest) hlen hst (by show 2 * 0 + _ ≤ _; omega) hd (fun _ _ => ⟨rfl, eT, hc, hn⟩)
  dsimp only [Pt.U, Pt.locs, Pt.cells, Pt.slots] at X18 l18 y18 z18 st18 hQ18
  subst l18 y18 z18
  exact goT st18 (kk v _ _ _ X18 rfl hQ18)
theorem callIf (X : Stand p l e R s m args below meth c T locs cells slots) (hx : p.tables.exec = Jvm.exec) (hZ : Z.Warmed39 s.vm) {own C : String} {index count : Nat} {y z : MethodName} {bytes : ByteArray} {maxL : Nat} {ret : Option FieldType} {rm : Room} {Q : Option Value → Heap → List Loc → Prop} (hown : s.vm.findClass own = some m.cls)
    (w1 : (Jvm.Cond.methodLink own index y).before a0 Z = true) (w2 : (Jvm.Cond.declares y).before a0 Z = true) (w7 : (Jvm.Cond.interfaceMethod y.cls y.cls y.name y.desc).before a0 Z = true) (k7 : ((Jvm.Cond.interfaceMethod y.cls y.cls y.name y.desc).onTables && (Jvm.Cond.interfaceMethod y.cls y.cls y.name y.desc).keepsFace) = true) (w5 : (Jvm.Cond.selects C y z).before a0 Z = true) (w6 : (Jvm.Cond.instanceMethod z).before a0 Z = true) (w8 : (Jvm.Cond.publicMethod z).before a0 Z = true) (w9 : (Jvm.Cond.unhidden C y.name y.desc).before a0 Z = true) (w10 : (Jvm.Cond.castable C y.cls).before a0 Z = true)
    (w4 : (Jvm.Cond.code z bytes maxL ret).before a0 Z = true) (w3 : (Jvm.Cond.initialized z.cls).before a0 Z = true) (hy : y.cls ≠ "java/lang/invoke/MethodHandle" ∧ y.cls ≠ "java/lang/invoke/VarHandle") (eT : T.heap = h) {a : Addr} (E : Exa Z h a C) {argsL rest : List Value}
    (hM : Meets l z bytes maxL ret [] rm Z (.ref a :: argsL).toArray h Q rm.cells rm.slots) {W : Nat} (hf : rm.frames + 1 ≤ R.frames) (hl : W + (maxL + 11) + rm.locals ≤ R.locals) (hc : cells + rm.cells ≤ R.cells) (hn : slots + rm.slots ≤ R.slots)
    {pc : Nat} {Ls : Array Slot} {st : List Value} (hsize : Ls.size = c.maxLocals) (hlen : ∀ sig, parseMethodDescriptor y.desc = some sig → argsL.length = sig.parameters.length) (hst : st = argsL.reverse ++ .ref a :: rest) (hW : (rest.map fun v => v.category).sum ≤ W) (hd : decode c.code pc = .ok (.invokeinterface index count, 5)) {A : Outcome → State → Prop}
    (kk : ∀ (v : Option Value) (T' : State) (L : List Loc) (h' : Heap), Stand p l e R s m args below meth c T' (locs ++ L) (cells + rm.cells) (slots + rm.slots) → T'.heap = h' → Q v h' L → Run p e below A (T'.setTop (mkF m (pc + 5) Ls (v.toList ++ rest)))) : Run p e below A (T.setTop (mkF m pc Ls st)) := by
  obtain ⟨cq, kq, qa, qb, qc⟩ := isOf hZ eT E
  obtain ⟨v, _, ⟨T18, L18, k18, n18⟩, -, X18, ⟨Lc18, hQ18, l18, y18, z18⟩, st18⟩ := X.interfaceBack hx (xi := y) (y := z) hown (mvT hZ w1) (mvT hZ w2) (mvT hZ w7 k7) (mvT hZ w5) (mvT hZ w6) (mvT hZ w8) (mvT hZ w9) (mvT hZ w10) hy (backOf (W := W) hM hZ w4 w3 hf hl) qa qb qc (g := mkF m pc Ls st) rfl hsize (Steps.refl _) (argsL := argsL) (rest := rest) hlen hst (by show 2 * 0 + _ ≤ _; omega) hd (fun _ _ => ⟨rfl, eT, hc, hn⟩)
  dsimp only [Pt.U, Pt.locs, Pt.cells, Pt.slots] at X18 l18 y18 z18 st18 hQ18
  subst l18 y18 z18
  exact goT st18 (kk v _ _ _ X18 rfl hQ18)
theorem callViK (X : Stand p l e R s m args below meth c T locs cells slots) (hx : p.tables.exec = Jvm.exec) (hZ : Z.Warmed39 s.vm) {own C : String} {index : Nat} {y z : MethodName} {Q : Option Value → Heap → List Loc → Prop} (hown : s.vm.findClass own = some m.cls)
    (w1 : (Jvm.Cond.methodLink own index y).before a0 Z = true) (w2 : (Jvm.Cond.declares y).before a0 Z = true) (nf : NotFace s y) (w5 : (Jvm.Cond.selects C y z).before a0 Z = true) (w6 : (Jvm.Cond.instanceMethod z).before a0 Z = true) (hy : y.cls ≠ "java/lang/invoke/MethodHandle" ∧ y.cls ≠ "java/lang/invoke/VarHandle") (eT : T.heap = h) {a : Addr} (E : Exa Z h a C) {argsL rest : List Value}
    {rc rs W : Nat} (hK : Pay l R p e below s args z 3 W (.ref a :: argsL).toArray h Q rc rs) (hc : cells + rc ≤ R.cells) (hn : slots + rs ≤ R.slots)
    {pc : Nat} {Ls : Array Slot} {st : List Value} (hsize : Ls.size = c.maxLocals) (hlen : ∀ sig, parseMethodDescriptor y.desc = some sig → argsL.length = sig.parameters.length) (hst : st = argsL.reverse ++ .ref a :: rest) (hW : (rest.map fun v => v.category).sum ≤ W) (hd : decode c.code pc = .ok (.invokevirtual index, 3)) {A : Outcome → State → Prop}
    (kk : ∀ (v : Option Value) (T' : State) (L : List Loc) (h' : Heap), Stand p l e R s m args below meth c T' (locs ++ L) (cells + rc) (slots + rs) → T'.heap = h' → Q v h' L → Run p e below A (T'.setTop (mkF m (pc + 3) Ls (v.toList ++ rest)))) : Run p e below A (T.setTop (mkF m pc Ls st)) := by
  obtain ⟨cq, kq, qa, qb, qc⟩ := isOf hZ eT E
  obtain ⟨v, _, ⟨T18, L18, k18, n18⟩, -, X18, ⟨Lc18, hQ18, l18, y18, z18⟩, st18⟩ := X.virtualBack hx (y := y) (z := z) hown (mvT hZ w1) (mvT hZ w2) nf (mvT hZ w5) (mvT hZ w6) hy hK qa qc (g := mkF m pc Ls st) rfl hsize (Steps.refl _) (argsL := argsL) (rest := rest) hlen hst (by show 2 * 0 + _ ≤ _; omega) hd (fun _ _ => ⟨rfl, eT, hc, hn⟩)
  dsimp only [Pt.U, Pt.locs, Pt.cells, Pt.slots] at X18 l18 y18 z18 st18 hQ18
  subst l18 y18 z18
  exact goT st18 (kk v _ _ _ X18 rfl hQ18)
theorem callSpK (X : Stand p l e R s m args below meth c T locs cells slots) (hx : p.tables.exec = Jvm.exec) (hZ : Z.Warmed39 s.vm) {own : String} {index : Nat} {y : MethodName} (hy1 : y.name = "<init>") {bytes : ByteArray} {maxL : Nat} {Q : Option Value → Heap → List Loc → Prop} (hown : s.vm.findClass own = some m.cls)
    (w1 : (Jvm.Cond.methodLink own index y).before a0 Z = true) (w6 : (Jvm.Cond.instanceMethod y).before a0 Z = true) (w4 : (Jvm.Cond.code y bytes maxL none).before a0 Z = true) (hy : y.cls ≠ "java/lang/invoke/MethodHandle" ∧ y.cls ≠ "java/lang/invoke/VarHandle") (eT : T.heap = h) {a : Addr} {argsL rest : List Value}
    {rc rs W : Nat} (hK : Pay l R p e below s args y 3 W (.ref a :: argsL).toArray h Q rc rs) (hc : cells + rc ≤ R.cells) (hn : slots + rs ≤ R.slots)
    {pc : Nat} {Ls : Array Slot} {st : List Value} (hsize : Ls.size = c.maxLocals) (hlen : ∀ sig, parseMethodDescriptor y.desc = some sig → argsL.length = sig.parameters.length) (hst : st = argsL.reverse ++ .ref a :: rest) (hW : (rest.map fun v => v.category).sum ≤ W) (hd : decode c.code pc = .ok (.invokespecial index, 3)) {A : Outcome → State → Prop}
    (kk : ∀ (v : Option Value) (T' : State) (L : List Loc) (h' : Heap), Stand p l e R s m args below meth c T' (locs ++ L) (cells + rc) (slots + rs) → T'.heap = h' → Q v h' L → Run p e below A (T'.setTop (mkF m (pc + 3) Ls (v.toList ++ rest)))) : Run p e below A (T.setTop (mkF m pc Ls st)) := by
  obtain ⟨v, _, ⟨T18, L18, k18, n18⟩, -, X18, ⟨Lc18, hQ18, l18, y18, z18⟩, st18⟩ := X.specialBack hx (y := y) hy1 hown (mvT hZ w1) (mvT hZ w6) (mvT hZ w4) hy hK (g := mkF m pc Ls st) rfl hsize (Steps.refl _) (a := a) (argsL := argsL) (rest := rest) hlen hst (by show 2 * 0 + _ ≤ _; omega) hd (fun _ _ => ⟨rfl, eT, hc, hn⟩)
  dsimp only [Pt.U, Pt.locs, Pt.cells, Pt.slots] at X18 l18 y18 z18 st18 hQ18
  subst l18 y18 z18
  exact goT st18 (kk v _ _ _ X18 rfl hQ18)
/-- no subclass, by the words of the one's superclasses and of the other's 'instantiable' -/
theorem ns_root {O K : String} {n : Nat} (w : (Jvm.Cond.noSuperclass O).before a0 Z = true) (wk : (Jvm.Cond.instantiable K n).before a0 Z = true) (hn : O ≠ K) : NS Z O K := by
  obtain ⟨c, k, h1, h2, h3, -, -⟩ := Cond.noSuperclass_spec w
  obtain ⟨t, kt, g1, -⟩ := Cond.instantiable_spec wk
  have ne := ids_ne h1 g1 hn
  refine ⟨c, t, h1, g1, fun fuel => ?_⟩
  cases fuel with
  | zero => rfl
  | succ f => simp [Vm.isSubclassAux, ne, h2, h3]
theorem ns_no {C S K : String} {n : Nat} (w : (Jvm.Cond.superclass C S).before a0 Z = true) (wk : (Jvm.Cond.instantiable K n).before a0 Z = true) (q : NS Z C K) (hn : C ≠ K) : ∃ c t, Z.vm.findClass C = some c ∧ Z.vm.findClass K = some t ∧ Z.vm.assignable c t = false := by
  obtain ⟨c, t, h0, g0, n3⟩ := q
  obtain ⟨p, k, kp, h1, h2, h3, h4, h5, -, h7⟩ := Cond.superclass_spec h0 w
  obtain ⟨t', kt, g1, g2, g3, g4, -⟩ := Cond.instantiable_spec wk
  cases g0.symm.trans g1
  have ne := ids_ne h0 g0 hn
  have g5 : kt.isInterface = false := by
    cases hi : kt.isInterface with
    | false => rfl
    | true => simp [hi] at g4
  refine ⟨c, t, h0, g0, ?_⟩
  show Z.vm.assignableAux (255 + 1) c t = false
  simp [Vm.assignableAux, ne, h2, g2, h5, g3, g5, Vm.isSubclass, n3]
/-- a static that holds an object of one class, out of the case's words -/
theorem sta_exa {C n d K : String} (w1 : (Jvm.Cond.initialized C).before a0 Z = true) (w2 : (Jvm.Cond.laysStatic C n d).before a0 Z = true) (hx : (Jvm.Cond.exactly (Jvm.Term.static C n d) K).value a0 Z none Z [] = some true) :
    ∃ a, (Jvm.Term.static C n d).eval a0 Z none [] Z = some (.ref a) ∧ Sta Z Z.heap C n d (.ref a) ∧ Exa Z Z.heap a K := by
  obtain ⟨a, ev⟩ := exa_v hx
  exact ⟨a, ev, Sta.start ev (Or.inr ⟨w1, w2⟩), Exa.start ev hx⟩
theorem fld_int {t : Jvm.Term} {a : Addr} {C n d : String} {k : Int32} (ev : t.eval a0 Z none [] Z = some (.ref a)) (hq : (Jvm.Cond.eq (Jvm.Term.field t C n d) (Jvm.Term.int k)).value a0 Z none Z [] = some true) : Fld Z Z.heap a C n d (.int k) := by
  refine Fld.start ?_
  have e1 : (Jvm.Term.field t C n d).eval a0 Z none [] Z = Z.fieldOf? a C n d := fld_at ev
  have e2 : (Jvm.Term.int k).eval a0 Z none [] Z = some (.int k) := Term.int_eval k
  simp only [Cond.value, e1, e2] at hq
  cases hf : Z.fieldOf? a C n d with
  | none => simp [hf] at hq
  | some x => cases x <;> simp [hf] at hq ⊢; exact hq
end Own
section OwnStr
variable {p : Program} {l : Launch} {e : Env} {R : Room} {s : State} {args : Array Value} {below : List Frame} {Z : State} {a0 : Array Value} {h h' : Heap} {x t y t' a b : Addr} {kb kb' kC : ClassId} {cs ds : List Int32}
/-- a String of Latin-1 signs, its byte[] at t -/
def Str (Z : State) (h : Heap) (x t : Addr) (kb : ClassId) (cs : List Int32) : Prop := Exa Z h x "java/lang/String" ∧ Fld Z h x "java/lang/String" "value" "[B" (.ref t) ∧ Fld Z h x "java/lang/String" "coder" "B" (.int 0) ∧ Arv Z h t kb .byte (Int32.ofNat cs.length) ((cs.map fun c => c.toInt8.toInt32).map Value.int) (.int 0)
theorem Str.ext (F : Str Z h x t kb cs) (E : Ext h h') : Str Z h' x t kb cs := ⟨F.1.ext E, F.2.1.ext E, F.2.2.1.ext E, F.2.2.2.ext E⟩
theorem Str.keep {ws : List Addr} (F : Str Z h x t kb cs) (K : Keep h h' ws) (q1 : x ∉ ws) (q2 : t ∉ ws) : Str Z h' x t kb cs := ⟨F.1.keep K, F.2.1.keep K q1, F.2.2.1.keep K q1, F.2.2.2.keep K q2⟩
theorem Str.other {sl : Nat} {v : Value} (F : Str Z h x t kb cs) (W : Wr h h' a sl v) (q1 : x ≠ a) (q2 : t ≠ a) : Str Z h' x t kb cs := ⟨F.1.wr W, F.2.1.other W (Or.inl q1), F.2.2.1.other W (Or.inl q1), F.2.2.2.other W q2⟩
def In8 (cs : List Int32) : Prop := ∀ c ∈ cs, ¬ c < 0 ∧ ¬ (255 : Int32) < c
theorem In8.w (H : In8 cs) : ∀ c ∈ cs, ¬ c < 0 ∧ ¬ (65535 : Int32) < c := fun c hc => ⟨(H c hc).1, fun q => (H c hc).2 (by
  rw [Int32.lt_iff_toInt_lt] at *
  have k1 : (65535 : Int32).toInt = 65535 := by decide
  have k2 : (255 : Int32).toInt = 255 := by decide
  omega)⟩
theorem In8.nil : In8 [] := fun _ q => nomatch q
theorem In8.cons {c : Int32} (hc : ¬ c < 0 ∧ ¬ (255 : Int32) < c) (H : In8 cs) : In8 (c :: cs) := fun d hd => (List.mem_cons.mp hd).elim (fun q => q ▸ hc) (H d)
def QPure (r : Value) (h : Heap) (n0 : Nat) (v : Option Value) (h' : Heap) (L : List Loc) : Prop := v = some r ∧ Fr n0 L ∧ h' = h
theorem cod8 (H : In8 cs) : StrChars.Road.CodA cs 0 (Int32.ofNat cs.length) ((cs.map fun c => c.toInt8.toInt32).map Value.int) := StrChars.Road.codOf rfl (fun c hc => (H c hc).2)
theorem subNew : ∀ d ∈ StrChars.Road.words, d ∈ tables_1 := by decide +kernel
def QNew (Z : State) (x : Addr) (cs : List Int32) (h : Heap) (n0 : Nat) (v : Option Value) (h' : Heap) (L : List Loc) : Prop := v = none ∧ Fr n0 L ∧ Keep h h' [x] ∧ ∃ (t : Addr) (kb : ClassId), n0 ≤ t ∧ h.size ≤ t ∧ t ≠ x ∧ Str Z h' x t kb cs
theorem payNew (hZ : Z.Warmed39 s.vm) (hw : ∀ d ∈ tables_1, d.before a0 Z = true) {W n n0 : Nat} {N z : Int32} {d v0 c0 : Value} (wi : (Jvm.Cond.instantiable "java/lang/String" 4).before a0 Z = true) (O : Old Z n0 h) (gx : n0 ≤ x) (E : Exa Z h x "java/lang/String") (V : Fld Z h x "java/lang/String" "value" "[B" v0) (C : Fld Z h x "java/lang/String" "coder" "B" c0)
    (K : Arv Z h b kC .char N (cs.map Value.int) d) (S : Sta Z Z.heap "java/lang/String" "COMPACT_STRINGS" "Z" (.int z)) (hz : ¬ z = 0) (hn : cs.length = n) (hN : N = Int32.ofNat n) (l0 : 0 < n) (l2 : n ≤ 4000) (hp : In8 cs) (hfr : 4 ≤ R.frames) (hlo : W + 65 ≤ R.locals) :
    Pay l R p e below s args (⟨"java/lang/String", "<init>", "([C)V"⟩ : MethodName) 3 W #[.ref x, .ref b] h (QNew Z x cs h n0) 1 n := by
  refine Back.mono (StrChars.Road.backV (W := W) hZ (fun d hd => hw d (subNew d hd)) (kI := 4) wi (bs := cs.map fun c => c.toInt8.toInt32) (n0 := n0) gx (old_sz O) E V C K (S.ext O.2) hz hn hN l0 l2 hp rfl hfr hlo) (fun _ _ q => q) (fun P a v B _ hq => ?_)
  obtain ⟨L, ⟨q1, q2, q3, q4, q5, t, kb, q6, q7, q8, q9, q10⟩, r⟩ := hq
  subst hn hN
  exact ⟨L, ⟨q1, q2, q3, t, kb, q6, q7, q8, q4, q9, q5, q10⟩, r⟩
theorem subCh : ∀ d ∈ StrChars.Road.wordsChN, d ∈ tables_1 := by decide +kernel
theorem payCh (hZ : Z.Warmed39 s.vm) (hw : ∀ d ∈ tables_1, d.before a0 Z = true) {W n0 i : Nat} {z j : Int32} {fm : Value} (wi : (Jvm.Cond.instantiable "java/lang/String" 4).before a0 Z = true) (O : Old Z n0 h) (F : Str Z h x t kb cs) (H : In8 cs) (l2 : cs.length ≤ 4000)
    (S : Sta Z Z.heap "java/lang/String" "COMPACT_STRINGS" "Z" (.int z)) (hz : ¬ z = 0) (S' : Sta Z Z.heap "jdk/internal/util/Preconditions" "SIOOBE_FORMATTER" "Ljava/util/function/BiFunction;" fm) (rf : fm.isRef = true) (hi : i < cs.length) (hj : j = Int32.ofNat i) (hfr : 4 ≤ R.frames) (hlo : W + 53 ≤ R.locals) :
    Pay l R p e below s args (⟨"java/lang/String", "charAt", "(I)C"⟩ : MethodName) 3 W #[.ref x, .int j] h (QPure (.int (cs.getD i 0)) h n0) 0 0 := by
  refine Back.mono (StrChars.Road.chN (W := W) hZ (fun d hd => hw d (subCh d hd)) (kI := 4) wi F.1 F.2.1 F.2.2.1 F.2.2.2 (cod8 H) H.w (S.ext O.2) hz (S'.ext O.2) rf l2 hi hj hfr hlo) (fun _ _ q => q) (fun P a v B _ hq => ?_)
  obtain ⟨L, ⟨q1, q2, q3⟩, r⟩ := hq
  exact ⟨L, ⟨q1, q2 ▸ Fr.nil n0, q3⟩, r⟩
end OwnStr
/-! plain facts -/
theorem own_n7 (x : Int32) : nar .char (x &&& (127 : Int32)) = x &&& 127 := by
  have e : x &&& (127 : Int32) = (x &&& 127) &&& 255 := by rw [Int32.and_assoc]; rfl
  have h := i2c_mask (x &&& 127)
  rw [← e] at h
  exact h
theorem own_i7 (x : Int32) : (x &&& (127 : Int32)).toUInt32.toUInt16.toUInt32.toInt32 = x &&& 127 := own_n7 x
theorem own_m7 (x : Int32) : ¬ (x &&& (127 : Int32)) < 0 ∧ ¬ (255 : Int32) < (x &&& (127 : Int32)) := by
  have h := c_and x 127 (by decide)
  have k0 : (0 : Int32).toInt = 0 := by decide
  have k1 : (127 : Int32).toInt = 127 := by decide
  have k2 : (255 : Int32).toInt = 255 := by decide
  simp only [Int32.lt_iff_toInt_lt]; omega
def chV (x k : Int32) : Int32 := ((x.toUInt32 >>> (((8 : Int32) * k) &&& 31).toUInt32).toInt32) &&& (127 : Int32)
theorem own_on (n : Nat) (h : n < 1000) : (Int32.ofNat n).toInt = n := Int32.toInt_ofNat_small (by omega)
theorem own_mod (x : Int32) : ∃ f : Nat, f ≤ 8 ∧ (x &&& (2147483647 : Int32)) % (9 : Int32) = Int32.ofNat f := by
  have h := (c_and x 2147483647 (by decide)).1
  have h2 := (c_irem (x &&& 2147483647) 9 9 (by decide)).1 h
  refine ⟨((x &&& (2147483647 : Int32)) % (9 : Int32)).toInt.toNat, by omega, ?_⟩
  apply Int32.toInt_inj.mp
  rw [own_on _ (by omega)]
  omega
theorem own_dec (x : Int32) (h0 : 0 ≤ x.toInt) : (x + (-1 : Int32)).toInt = x.toInt - 1 := by
  rw [Int32.toInt_add]
  have k : (-1 : Int32).toInt = -1 := by decide
  have r := rng32 x
  rw [k]
  exact Int.bmod_eq_of_le (by omega) (by omega)
/-- a long moved left by k places -/
def shN (x : Int64) (k : Nat) : Int64 := ⟨⟨x.toBitVec <<< k⟩⟩
theorem shN_or (x y : Int64) (k : Nat) : shN (x ||| y) k = shN x k ||| shN y k := by
  apply Int64.toBitVec_inj.mp
  show (x ||| y).toBitVec <<< k = (shN x k ||| shN y k).toBitVec
  rw [Int64.toBitVec_or, Int64.toBitVec_or, BitVec.shiftLeft_or_distrib]
  rfl
theorem shN_shN (x : Int64) (a b : Nat) : shN (shN x a) b = shN x (a + b) := by
  apply Int64.toBitVec_inj.mp
  show (x.toBitVec <<< a) <<< b = x.toBitVec <<< (a + b)
  rw [BitVec.shiftLeft_add]
theorem shN_zero (k : Nat) : shN 0 k = 0 := by
  apply Int64.toBitVec_inj.mp
  show (0 : BitVec 64) <<< k = 0
  simp
theorem shN_at0 (x : Int64) : shN x 0 = x := by
  apply Int64.toBitVec_inj.mp
  show x.toBitVec <<< 0 = x.toBitVec
  simp
theorem shl8 (x : Int64) : x <<< ((8 : Int32) &&& 63).toInt64 = shN x 8 := by
  apply Int64.toBitVec_inj.mp
  rw [Int64.toBitVec_shiftLeft]
  rfl
theorem shlI (x : Int64) (i : Nat) (h : i ≤ 7) : x <<< (((8 : Int32) * Int32.ofNat i) &&& 63).toInt64 = shN x (8 * i) := by
  apply Int64.toBitVec_inj.mp
  rw [Int64.toBitVec_shiftLeft]
  obtain rfl | rfl | rfl | rfl | rfl | rfl | rfl | rfl : i = 0 ∨ i = 1 ∨ i = 2 ∨ i = 3 ∨ i = 4 ∨ i = 5 ∨ i = 6 ∨ i = 7 := by omega
  all_goals rfl
def leV : List Int32 → Int64
  | [] => 0
  | c :: cs => shN (leV cs) 8 ||| c.toInt64
def gV : Nat → List Int32 → Int64
  | _, [] => 0
  | k, c :: cs => shN c.toInt64 (8 * k) ||| gV (k + 1) cs
theorem gV_sh : ∀ (ds : List Int32) (k : Nat), shN (gV k ds) 8 = gV (k + 1) ds
  | [], k => shN_zero 8
  | c :: cs, k => by
    show shN (shN c.toInt64 (8 * k) ||| gV (k + 1) cs) 8 = shN c.toInt64 (8 * (k + 1)) ||| gV (k + 1 + 1) cs
    rw [shN_or, shN_shN, gV_sh cs (k + 1)]
    rfl
theorem leV_gV : ∀ ds : List Int32, leV ds = gV 0 ds
  | [] => rfl
  | c :: cs => by
    show shN (leV cs) 8 ||| c.toInt64 = shN c.toInt64 (8 * 0) ||| gV 1 cs
    rw [leV_gV cs, gV_sh cs 0, shN_at0, Int64.or_comm]
def ptV (cs : List Int32) (f n i : Nat) : Int64 := if i < n then shN (cs.getD (f + i) 0).toInt64 (8 * i) else 0
theorem own_sum (cs : List Int32) (f n : Nat) (hn : n ≤ 8) (hl : f + n ≤ cs.length) :
    leV ((cs.drop f).take n) = ptV cs f n 0 ||| ptV cs f n 1 ||| ptV cs f n 2 ||| ptV cs f n 3 ||| ptV cs f n 4 ||| ptV cs f n 5 ||| ptV cs f n 6 ||| ptV cs f n 7 := by
  have hg : ∀ i, i < n → cs.getD (f + i) 0 = ((cs.drop f).take n).getD i 0 := fun i hi => by
    simp [List.getD_eq_getElem?_getD, List.getElem?_take, hi, List.getElem?_drop]
  have hlen : ((cs.drop f).take n).length = n := by simp; omega
  have hp : ∀ i, ptV cs f n i = if i < n then shN (((cs.drop f).take n).getD i 0).toInt64 (8 * i) else 0 := fun i => by
    unfold ptV; split
    · rename_i h; rw [hg i h]
    · rfl
  simp only [hp]
  generalize (cs.drop f).take n = ds at *
  subst hlen
  clear hg hp
  rw [leV_gV]
  match ds with
  | [] => rfl
  | [a] => simp [gV, Int64.or_assoc]
  | [a, b] => simp [gV, Int64.or_assoc]
  | [a, b, c] => simp [gV, Int64.or_assoc]
  | [a, b, c, d] => simp [gV, Int64.or_assoc]
  | [a, b, c, d, e] => simp [gV, Int64.or_assoc]
  | [a, b, c, d, e, g] => simp [gV, Int64.or_assoc]
  | [a, b, c, d, e, g, k] => simp [gV, Int64.or_assoc]
  | [a, b, c, d, e, g, k, m] => simp [gV, Int64.or_assoc]
  | _ :: _ :: _ :: _ :: _ :: _ :: _ :: _ :: _ :: _ => simp at hn
theorem own_step (cs : List Int32) (f n k : Nat) (hk : k < n) (hl : f + n ≤ cs.length) : leV ((cs.drop (f + k)).take (n - k)) = shN (leV ((cs.drop (f + (k + 1))).take (n - (k + 1)))) 8 ||| (cs.getD (f + k) 0).toInt64 := by
  have h1 : cs.drop (f + k) = cs.getD (f + k) 0 :: cs.drop (f + (k + 1)) := by
    rw [List.drop_eq_getElem_cons (by omega)]
    simp [List.getD_eq_getElem?_getD, List.getElem?_eq_getElem (show f + k < cs.length by omega), Nat.add_assoc]
  rw [h1, show n - k = (n - (k + 1)) + 1 by omega, List.take_succ_cons]
  rfl
theorem d_m3_0 : decode method_3_code 0 = .ok (.iload_n 0, 1) := by decide +kernel
theorem d_m3_1 : decode method_3_code 1 = .ok (.bipush 8, 2) := by decide +kernel
theorem d_m3_3 : decode method_3_code 3 = .ok (.iload_n 1, 1) := by decide +kernel
theorem d_m3_4 : decode method_3_code 4 = .ok (.imul, 1) := by decide +kernel
theorem d_m3_5 : decode method_3_code 5 = .ok (.iushr, 1) := by decide +kernel
theorem d_m3_6 : decode method_3_code 6 = .ok (.bipush 127, 2) := by decide +kernel
theorem d_m3_8 : decode method_3_code 8 = .ok (.iand, 1) := by decide +kernel
theorem d_m3_9 : decode method_3_code 9 = .ok (.i2c, 1) := by decide +kernel
theorem d_m3_10 : decode method_3_code 10 = .ok (.ireturn, 1) := by decide +kernel
theorem pn_0 : plainName "nearcast/engine/SipHashLittleEndianPinLaw" = true := by first | (simp [plainName, overriddenIn]; done) | decide +kernel
def Q_rm_ch (p1 k1 : Int32) (h0 : Heap) (n0 : Nat) (v : Option Value) (h : Heap) (L : List Loc) : Prop := v = some (.int (chV p1 k1)) ∧ Fr n0 L ∧ h = h0
set_option maxRecDepth 65536 in
set_option maxHeartbeats 40000000 in
theorem rm_ch (l : Launch) (Z : State) (a0 : Array Value) (hw : ∀ d ∈ tables_1, d.before a0 Z = true) (ws : List Jvm.Cond) (p1 k1 : Int32) (h0 : Heap) (n0 : Nat) (O0 : Old Z n0 h0)  :
    Meets l (⟨"nearcast/engine/SipHashLittleEndianPinLaw", "ch", "(II)C"⟩ : MethodName) method_3_code 2 (some .char) ws ({ frames := 0, cells := 0, slots := 0, locals := 0 } : Room) Z #[(.int p1), (.int k1)] h0 (Q_rm_ch p1 k1 h0 n0) 0 0 := by
  refine enter (Ls := #[.val (.int p1), .val (.int k1)]) (plainFor_of_name pn_0) (fun m => by first | rfl | (simp [entryFrame, mkF, argsToLocals, Value.category]; done)) ?_
  intro p e s m below meth c T0 hx hby hml hown hnm hret hlk hZ X0 e0
  have N0 := Fr.nil n0
  replace hown : s.vm.findClass "nearcast/engine/SipHashLittleEndianPinLaw" = some m.cls := hown
  show Run p e below _ (T0.setTop (mkF m 0 #[.val (.int p1), .val (.int k1)] []))
  refine go (fun _ => XS.iloadN X0.here hx rfl (hb hby d_m3_0) rfl) ?_
  show Run p e below _ (T0.setTop (mkF m 1 #[.val (.int p1), .val (.int k1)] [(.int p1)]))
  refine go (fun _ => XS.bipush X0.here hx rfl (hb hby d_m3_1)) ?_
  show Run p e below _ (T0.setTop (mkF m 3 #[.val (.int p1), .val (.int k1)] [(.int (8 : Int32)), (.int p1)]))
  refine go (fun _ => XS.iloadN X0.here hx rfl (hb hby d_m3_3) rfl) ?_
  show Run p e below _ (T0.setTop (mkF m 4 #[.val (.int p1), .val (.int k1)] [(.int k1), (.int (8 : Int32)), (.int p1)]))
  refine go (fun _ => XS.imul X0.here hx rfl (hb hby d_m3_4) rfl) ?_
  show Run p e below _ (T0.setTop (mkF m 5 #[.val (.int p1), .val (.int k1)] [(.int ((8 : Int32) * k1)), (.int p1)]))
  refine go (fun _ => XS.iushr X0.here hx rfl (hb hby d_m3_5) rfl) ?_
  show Run p e below _ (T0.setTop (mkF m 6 #[.val (.int p1), .val (.int k1)] [(.int ((p1.toUInt32 >>> (((8 : Int32) * k1) &&& 31).toUInt32).toInt32))]))
  refine go (fun _ => XS.bipush X0.here hx rfl (hb hby d_m3_6)) ?_
  show Run p e below _ (T0.setTop (mkF m 8 #[.val (.int p1), .val (.int k1)] [(.int (127 : Int32)), (.int ((p1.toUInt32 >>> (((8 : Int32) * k1) &&& 31).toUInt32).toInt32))]))
  refine go (fun _ => XS.iand X0.here hx rfl (hb hby d_m3_8) rfl) ?_
  show Run p e below _ (T0.setTop (mkF m 9 #[.val (.int p1), .val (.int k1)] [(.int (((p1.toUInt32 >>> (((8 : Int32) * k1) &&& 31).toUInt32).toInt32) &&& (127 : Int32)))]))
  refine go (fun _ => XS.i2c X0.here hx rfl (hb hby d_m3_9) rfl) ?_
  show Run p e below _ (T0.setTop (mkF m 10 #[.val (.int p1), .val (.int k1)] [(.int ((((p1.toUInt32 >>> (((8 : Int32) * k1) &&& 31).toUInt32).toInt32) &&& (127 : Int32)).toUInt32.toUInt16.toUInt32.toInt32))]))
  exact endN X0 hx hlk (t := .char) hret (by simp) (hb hby d_m3_10) (⟨by show some (Value.int (nar .char ((chV p1 k1).toUInt32.toUInt16.toUInt32.toInt32))) = _; unfold chV; rw [own_i7, own_n7], N0, e0⟩) (by decide) (by decide)
theorem d_m4_0 : decode method_4_code 0 = .ok (.iload_n 3, 1) := by decide +kernel
theorem d_m4_1 : decode method_4_code 1 = .ok (.iload_n 2, 1) := by decide +kernel
theorem d_m4_2 : decode method_4_code 2 = .ok (.if_icmp .lt 5, 3) := by decide +kernel
theorem d_m4_7 : decode method_4_code 7 = .ok (.aload_n 0, 1) := by decide +kernel
theorem d_m4_8 : decode method_4_code 8 = .ok (.iload_n 1, 1) := by decide +kernel
theorem d_m4_9 : decode method_4_code 9 = .ok (.iload_n 3, 1) := by decide +kernel
theorem d_m4_10 : decode method_4_code 10 = .ok (.iadd, 1) := by decide +kernel
theorem d_m4_11 : decode method_4_code 11 = .ok (.caload, 1) := by decide +kernel
theorem d_m4_12 : decode method_4_code 12 = .ok (.i2l, 1) := by decide +kernel
theorem d_m4_13 : decode method_4_code 13 = .ok (.bipush 8, 2) := by decide +kernel
theorem d_m4_15 : decode method_4_code 15 = .ok (.iload_n 3, 1) := by decide +kernel
theorem d_m4_16 : decode method_4_code 16 = .ok (.imul, 1) := by decide +kernel
theorem d_m4_17 : decode method_4_code 17 = .ok (.lshl, 1) := by decide +kernel
theorem d_m4_18 : decode method_4_code 18 = .ok (.lreturn, 1) := by decide +kernel
theorem d_m4_5 : decode method_4_code 5 = .ok (.lconst 0, 1) := by decide +kernel
theorem d_m4_6 : decode method_4_code 6 = .ok (.lreturn, 1) := by decide +kernel
def Q_rm_pt (a : Addr) (ka : ClassId) (cs : List Int32) (f n i : Nat) (h0 : Heap) (n0 : Nat) (v : Option Value) (h : Heap) (L : List Loc) : Prop := v = some (.long (ptV cs f n i)) ∧ Fr n0 L ∧ h = h0
set_option maxRecDepth 65536 in
set_option maxHeartbeats 40000000 in
theorem rm_pt (l : Launch) (Z : State) (a0 : Array Value) (hw : ∀ d ∈ tables_1, d.before a0 Z = true) (ws : List Jvm.Cond) (a : Addr) (ka : ClassId) (cs : List Int32) (f n i : Nat) (h0 : Heap) (n0 : Nat) (O0 : Old Z n0 h0) (V_a : Arv Z h0 a ka .char (16 : Int32) (cs.map Value.int) (.int (0 : Int32))) (hcs : cs.length = 16) (hf : f ≤ 8) (hn : n ≤ 8) (hi : i ≤ 7) :
    Meets l (⟨"nearcast/engine/SipHashLittleEndianPinLaw", "part", "([CIII)J"⟩ : MethodName) method_4_code 4 (some .long) ws ({ frames := 0, cells := 0, slots := 0, locals := 0 } : Room) Z #[(.ref a), (.int (Int32.ofNat f)), (.int (Int32.ofNat n)), (.int (Int32.ofNat i))] h0 (Q_rm_pt a ka cs f n i h0 n0) 0 0 := by
  refine enter (Ls := #[.val (.ref a), .val (.int (Int32.ofNat f)), .val (.int (Int32.ofNat n)), .val (.int (Int32.ofNat i))]) (plainFor_of_name pn_0) (fun m => by first | rfl | (simp [entryFrame, mkF, argsToLocals, Value.category]; done)) ?_
  intro p e s m below meth c T0 hx hby hml hown hnm hret hlk hZ X0 e0
  have N0 := Fr.nil n0
  replace hown : s.vm.findClass "nearcast/engine/SipHashLittleEndianPinLaw" = some m.cls := hown
  show Run p e below _ (T0.setTop (mkF m 0 #[.val (.ref a), .val (.int (Int32.ofNat f)), .val (.int (Int32.ofNat n)), .val (.int (Int32.ofNat i))] []))
  refine go (fun _ => XS.iloadN X0.here hx rfl (hb hby d_m4_0) rfl) ?_
  show Run p e below _ (T0.setTop (mkF m 1 #[.val (.ref a), .val (.int (Int32.ofNat f)), .val (.int (Int32.ofNat n)), .val (.int (Int32.ofNat i))] [(.int (Int32.ofNat i))]))
  refine go (fun _ => XS.iloadN X0.here hx rfl (hb hby d_m4_1) rfl) ?_
  show Run p e below _ (T0.setTop (mkF m 2 #[.val (.ref a), .val (.int (Int32.ofNat f)), .val (.int (Int32.ofNat n)), .val (.int (Int32.ofNat i))] [(.int (Int32.ofNat n)), (.int (Int32.ofNat i))]))
  by_cases c1 : (Int32.ofNat i) < (Int32.ofNat n)
  · skip
    refine go (fun _ => XS.icmpYes X0.here hx rfl (pc0 := 2) (pc' := 7) rfl (hb hby d_m4_2) rfl (tlt c1).1 (by decide) (by decide)) ?_
    show Run p e below _ (T0.setTop (mkF m 7 #[.val (.ref a), .val (.int (Int32.ofNat f)), .val (.int (Int32.ofNat n)), .val (.int (Int32.ofNat i))] []))
    refine go (fun _ => XS.aloadN X0.here hx rfl (hb hby d_m4_7) rfl rfl) ?_
    show Run p e below _ (T0.setTop (mkF m 8 #[.val (.ref a), .val (.int (Int32.ofNat f)), .val (.int (Int32.ofNat n)), .val (.int (Int32.ofNat i))] [(.ref a)]))
    refine go (fun _ => XS.iloadN X0.here hx rfl (hb hby d_m4_8) rfl) ?_
    show Run p e below _ (T0.setTop (mkF m 9 #[.val (.ref a), .val (.int (Int32.ofNat f)), .val (.int (Int32.ofNat n)), .val (.int (Int32.ofNat i))] [(.int (Int32.ofNat f)), (.ref a)]))
    refine go (fun _ => XS.iloadN X0.here hx rfl (hb hby d_m4_9) rfl) ?_
    show Run p e below _ (T0.setTop (mkF m 10 #[.val (.ref a), .val (.int (Int32.ofNat f)), .val (.int (Int32.ofNat n)), .val (.int (Int32.ofNat i))] [(.int (Int32.ofNat i)), (.int (Int32.ofNat f)), (.ref a)]))
    refine go (fun _ => XS.iadd X0.here hx rfl (hb hby d_m4_10) rfl) ?_
    show Run p e below _ (T0.setTop (mkF m 11 #[.val (.ref a), .val (.int (Int32.ofNat f)), .val (.int (Int32.ofNat n)), .val (.int (Int32.ofNat i))] [(.int ((Int32.ofNat f) + (Int32.ofNat i))), (.ref a)]))
    have kF := own_on f (by omega)
    have kI := own_on i (by omega)
    have k16 : (16 : Int32).toInt = 16 := by decide
    have k0 : (0 : Int32).toInt = 0 := by decide
    have ka := c_iadd (Int32.ofNat f) (Int32.ofNat i)
    have kr := rng32 (Int32.ofNat f + Int32.ofNat i)
    have hJ : (Int32.ofNat f + Int32.ofNat i).toInt = ((f + i : Nat) : Int) := by omega
    have hj0 : ¬ (Int32.ofNat f + Int32.ofNat i) < 0 ∧ (Int32.ofNat f + Int32.ofNat i) < (16 : Int32) := by simp only [Int32.lt_iff_toInt_lt]; omega
    have hjn : (Int32.ofNat f + Int32.ofNat i).toNatClampNeg = f + i := by simp only [Int32.toNatClampNeg]; omega
    obtain ⟨cl2, Ar2, ak2, as2, an2, ah2, ag2⟩ := id V_a
    have hin2 := inb_of as2 (j := ((Int32.ofNat f) + (Int32.ofNat i))) hj0
    have hat2 := ah2.at hin2 (v := (.int (cs.getD (f + i) 0))) (by rw [hjn]; simp [List.getD_eq_getElem?_getD, List.getElem?_map, List.getElem?_eq_getElem (show f + i < cs.length by omega)])
    refine go (fun _ => X0.caload hx (j := ((Int32.ofNat f) + (Int32.ofNat i))) (v := (.int (cs.getD (f + i) 0))) (by rw [e0]; exact Ar2.1) (State.isArrayOf_alike hZ.alike Ar2.2.1) Ar2.2.2 hin2 hat2 (g := (mkF m 11 #[.val (.ref a), .val (.int (Int32.ofNat f)), .val (.int (Int32.ofNat n)), .val (.int (Int32.ofNat i))] [(.int ((Int32.ofNat f) + (Int32.ofNat i))), (.ref a)])) rfl rfl (hb hby d_m4_11) _) ?_
    show Run p e below _ (T0.setTop (mkF m 12 #[.val (.ref a), .val (.int (Int32.ofNat f)), .val (.int (Int32.ofNat n)), .val (.int (Int32.ofNat i))] [(.int (cs.getD (f + i) 0))]))
    refine go (fun _ => XS.i2l X0.here hx rfl (hb hby d_m4_12) rfl) ?_
    show Run p e below _ (T0.setTop (mkF m 13 #[.val (.ref a), .val (.int (Int32.ofNat f)), .val (.int (Int32.ofNat n)), .val (.int (Int32.ofNat i))] [(.long ((cs.getD (f + i) 0).toInt64))]))
    refine go (fun _ => XS.bipush X0.here hx rfl (hb hby d_m4_13)) ?_
    show Run p e below _ (T0.setTop (mkF m 15 #[.val (.ref a), .val (.int (Int32.ofNat f)), .val (.int (Int32.ofNat n)), .val (.int (Int32.ofNat i))] [(.int (8 : Int32)), (.long ((cs.getD (f + i) 0).toInt64))]))
    refine go (fun _ => XS.iloadN X0.here hx rfl (hb hby d_m4_15) rfl) ?_
    show Run p e below _ (T0.setTop (mkF m 16 #[.val (.ref a), .val (.int (Int32.ofNat f)), .val (.int (Int32.ofNat n)), .val (.int (Int32.ofNat i))] [(.int (Int32.ofNat i)), (.int (8 : Int32)), (.long ((cs.getD (f + i) 0).toInt64))]))
    refine go (fun _ => XS.imul X0.here hx rfl (hb hby d_m4_16) rfl) ?_
    show Run p e below _ (T0.setTop (mkF m 17 #[.val (.ref a), .val (.int (Int32.ofNat f)), .val (.int (Int32.ofNat n)), .val (.int (Int32.ofNat i))] [(.int ((8 : Int32) * (Int32.ofNat i))), (.long ((cs.getD (f + i) 0).toInt64))]))
    refine go (fun _ => XS.lshl X0.here hx rfl (hb hby d_m4_17) rfl) ?_
    show Run p e below _ (T0.setTop (mkF m 18 #[.val (.ref a), .val (.int (Int32.ofNat f)), .val (.int (Int32.ofNat n)), .val (.int (Int32.ofNat i))] [(.long (((cs.getD (f + i) 0).toInt64) <<< (((8 : Int32) * (Int32.ofNat i)) &&& 63).toInt64))]))
    have hlt : i < n := by
      have kN := own_on n (by omega)
      have kI := own_on i (by omega)
      rw [Int32.lt_iff_toInt_lt] at c1
      omega
    exact endJ X0 hx hlk hret (hb hby d_m4_18) (⟨by unfold ptV; rw [if_pos hlt, ← shlI _ i (by omega)], N0, e0⟩) (by decide) (by decide)
  · skip
    refine go (fun _ => XS.icmpNo X0.here hx rfl (hb hby d_m4_2) rfl (flt c1).1) ?_
    show Run p e below _ (T0.setTop (mkF m 5 #[.val (.ref a), .val (.int (Int32.ofNat f)), .val (.int (Int32.ofNat n)), .val (.int (Int32.ofNat i))] []))
    refine go (fun _ => XS.lconst X0.here hx rfl (hb hby d_m4_5)) ?_
    show Run p e below _ (T0.setTop (mkF m 6 #[.val (.ref a), .val (.int (Int32.ofNat f)), .val (.int (Int32.ofNat n)), .val (.int (Int32.ofNat i))] [(.long (0 : Int64))]))
    have hlt : ¬ i < n := by
      have kN := own_on n (by omega)
      have kI := own_on i (by omega)
      rw [Int32.lt_iff_toInt_lt] at c1
      omega
    exact endJ X0 hx hlk hret (hb hby d_m4_6) (⟨by unfold ptV; rw [if_neg hlt], N0, e0⟩) (by decide) (by decide)
theorem d_p76_m9_0 : decode prog_76_method_9_code 0 = .ok (.lconst 0, 1) := by decide +kernel
theorem d_p76_m9_1 : decode prog_76_method_9_code 1 = .ok (.lstore_n 3, 1) := by decide +kernel
theorem d_p76_m9_2 : decode prog_76_method_9_code 2 = .ok (.iload_n 1, 1) := by decide +kernel
theorem d_p76_m9_3 : decode prog_76_method_9_code 3 = .ok (.iload_n 2, 1) := by decide +kernel
theorem d_p76_m9_4 : decode prog_76_method_9_code 4 = .ok (.iadd, 1) := by decide +kernel
theorem d_p76_m9_5 : decode prog_76_method_9_code 5 = .ok (.iconst 1, 1) := by decide +kernel
theorem d_p76_m9_6 : decode prog_76_method_9_code 6 = .ok (.isub, 1) := by decide +kernel
theorem d_p76_m9_7 : decode prog_76_method_9_code 7 = .ok (.istore 5, 2) := by decide +kernel
theorem d_p76_m9_9 : decode prog_76_method_9_code 9 = .ok (.iload 5, 2) := by decide +kernel
theorem d_p76_m9_11 : decode prog_76_method_9_code 11 = .ok (.iload_n 1, 1) := by decide +kernel
theorem d_p76_m9_12 : decode prog_76_method_9_code 12 = .ok (.if_icmp .lt 22, 3) := by decide +kernel
theorem d_p76_m9_34 : decode prog_76_method_9_code 34 = .ok (.lload_n 3, 1) := by decide +kernel
theorem d_p76_m9_35 : decode prog_76_method_9_code 35 = .ok (.lreturn, 1) := by decide +kernel
theorem d_p76_m9_15 : decode prog_76_method_9_code 15 = .ok (.lload_n 3, 1) := by decide +kernel
theorem d_p76_m9_16 : decode prog_76_method_9_code 16 = .ok (.bipush 8, 2) := by decide +kernel
theorem d_p76_m9_18 : decode prog_76_method_9_code 18 = .ok (.lshl, 1) := by decide +kernel
theorem d_p76_m9_19 : decode prog_76_method_9_code 19 = .ok (.aload_n 0, 1) := by decide +kernel
theorem d_p76_m9_20 : decode prog_76_method_9_code 20 = .ok (.iload 5, 2) := by decide +kernel
theorem d_p76_m9_22 : decode prog_76_method_9_code 22 = .ok (.invokevirtual 68, 3) := by decide +kernel
theorem pd_0 : parseMethodDescriptor "(I)C" = some ⟨[.int], some .char⟩ := by decide +kernel
theorem d_p76_m9_25 : decode prog_76_method_9_code 25 = .ok (.i2l, 1) := by decide +kernel
theorem d_p76_m9_26 : decode prog_76_method_9_code 26 = .ok (.lor, 1) := by decide +kernel
theorem d_p76_m9_27 : decode prog_76_method_9_code 27 = .ok (.lstore_n 3, 1) := by decide +kernel
theorem d_p76_m9_28 : decode prog_76_method_9_code 28 = .ok (.iinc 5 (-1), 3) := by decide +kernel
theorem d_p76_m9_31 : decode prog_76_method_9_code 31 = .ok (.goto (-22), 3) := by decide +kernel
theorem pn_1 : plainName "nearcast/engine/SipHash" = true := by first | (simp [plainName, overriddenIn]; done) | decide +kernel
def Q_rm_le (zc : Int32) (fm : Value) (x t : Addr) (kb : ClassId) (cs : List Int32) (f n : Nat) (h0 : Heap) (n0 : Nat) (v : Option Value) (h : Heap) (L : List Loc) : Prop := v = some (.long (leV ((cs.drop f).take n))) ∧ Fr n0 L ∧ h = h0
set_option maxRecDepth 65536 in
set_option maxHeartbeats 40000000 in
theorem rm_le (l : Launch) (Z : State) (a0 : Array Value) (hw : ∀ d ∈ tables_1, d.before a0 Z = true) (ws : List Jvm.Cond) (zc : Int32) (fm : Value) (x t : Addr) (kb : ClassId) (cs : List Int32) (f n : Nat) (h0 : Heap) (n0 : Nat) (O0 : Old Z n0 h0) (S_COMPACT_STRINGS : Sta Z Z.heap "java/lang/String" "COMPACT_STRINGS" "Z" (.int zc)) (S_SIOOBE_FORMATTER : Sta Z Z.heap "jdk/internal/util/Preconditions" "SIOOBE_FORMATTER" "Ljava/util/function/BiFunction;" fm) (hzc : ¬ zc = 0) (hfm : fm.isRef = true) (T_x : Str Z h0 x t kb cs) (Hx : In8 cs) (hcs : cs.length = 16) (hf : f ≤ 8) (hn : n ≤ 8) :
    Meets l (⟨"nearcast/engine/SipHash", "littleEndian", "(Ljava/lang/String;II)J"⟩ : MethodName) prog_76_method_9_code 6 (some .long) ws ({ frames := 4, cells := 0, slots := 0, locals := 55 } : Room) Z #[(.ref x), (.int (Int32.ofNat f)), (.int (Int32.ofNat n))] h0 (Q_rm_le zc fm x t kb cs f n h0 n0) 0 0 := by
  refine enter (Ls := #[.val (.ref x), .val (.int (Int32.ofNat f)), .val (.int (Int32.ofNat n)), .unset, .unset, .unset]) (plainFor_of_name pn_1) (fun m => by first | rfl | (simp [entryFrame, mkF, argsToLocals, Value.category]; done)) ?_
  intro p e s m below meth c T0 hx hby hml hown hnm hret hlk hZ X0 e0
  have N0 := Fr.nil n0
  replace hown : s.vm.findClass "nearcast/engine/SipHash" = some m.cls := hown
  show Run p e below _ (T0.setTop (mkF m 0 #[.val (.ref x), .val (.int (Int32.ofNat f)), .val (.int (Int32.ofNat n)), .unset, .unset, .unset] []))
  refine go (fun _ => XS.lconst X0.here hx rfl (hb hby d_p76_m9_0)) ?_
  show Run p e below _ (T0.setTop (mkF m 1 #[.val (.ref x), .val (.int (Int32.ofNat f)), .val (.int (Int32.ofNat n)), .unset, .unset, .unset] [(.long (0 : Int64))]))
  refine go (fun _ => XS.lstoreN X0.here hx rfl (hb hby d_p76_m9_1) rfl (l' := #[.val (.ref x), .val (.int (Int32.ofNat f)), .val (.int (Int32.ofNat n)), .val (.long (0 : Int64)), .second, .unset]) rfl) ?_
  show Run p e below _ (T0.setTop (mkF m 2 #[.val (.ref x), .val (.int (Int32.ofNat f)), .val (.int (Int32.ofNat n)), .val (.long (0 : Int64)), .second, .unset] []))
  refine go (fun _ => XS.iloadN X0.here hx rfl (hb hby d_p76_m9_2) rfl) ?_
  show Run p e below _ (T0.setTop (mkF m 3 #[.val (.ref x), .val (.int (Int32.ofNat f)), .val (.int (Int32.ofNat n)), .val (.long (0 : Int64)), .second, .unset] [(.int (Int32.ofNat f))]))
  refine go (fun _ => XS.iloadN X0.here hx rfl (hb hby d_p76_m9_3) rfl) ?_
  show Run p e below _ (T0.setTop (mkF m 4 #[.val (.ref x), .val (.int (Int32.ofNat f)), .val (.int (Int32.ofNat n)), .val (.long (0 : Int64)), .second, .unset] [(.int (Int32.ofNat n)), (.int (Int32.ofNat f))]))
  refine go (fun _ => XS.iadd X0.here hx rfl (hb hby d_p76_m9_4) rfl) ?_
  show Run p e below _ (T0.setTop (mkF m 5 #[.val (.ref x), .val (.int (Int32.ofNat f)), .val (.int (Int32.ofNat n)), .val (.long (0 : Int64)), .second, .unset] [(.int ((Int32.ofNat f) + (Int32.ofNat n)))]))
  refine go (fun _ => XS.iconst X0.here hx rfl (hb hby d_p76_m9_5)) ?_
  show Run p e below _ (T0.setTop (mkF m 6 #[.val (.ref x), .val (.int (Int32.ofNat f)), .val (.int (Int32.ofNat n)), .val (.long (0 : Int64)), .second, .unset] [(.int (1 : Int32)), (.int ((Int32.ofNat f) + (Int32.ofNat n)))]))
  refine go (fun _ => XS.isub X0.here hx rfl (hb hby d_p76_m9_6) rfl) ?_
  show Run p e below _ (T0.setTop (mkF m 7 #[.val (.ref x), .val (.int (Int32.ofNat f)), .val (.int (Int32.ofNat n)), .val (.long (0 : Int64)), .second, .unset] [(.int (((Int32.ofNat f) + (Int32.ofNat n)) - (1 : Int32)))]))
  refine go (fun _ => XS.istore X0.here hx rfl (hb hby d_p76_m9_7) rfl (l' := #[.val (.ref x), .val (.int (Int32.ofNat f)), .val (.int (Int32.ofNat n)), .val (.long (0 : Int64)), .second, .val (.int (((Int32.ofNat f) + (Int32.ofNat n)) - (1 : Int32)))]) rfl) ?_
  show Run p e below _ (T0.setTop (mkF m 9 #[.val (.ref x), .val (.int (Int32.ofNat f)), .val (.int (Int32.ofNat n)), .val (.long (0 : Int64)), .second, .val (.int (((Int32.ofNat f) + (Int32.ofNat n)) - (1 : Int32)))] []))
  have kF := own_on f (by omega)
  have kN := own_on n (by omega)
  have k1 : (1 : Int32).toInt = 1 := by decide
  have km : (-1 : Int32).toInt = -1 := by decide
  have k0 : (0 : Int32).toInt = 0 := by decide
  have LOOP : ∀ (k : Nat), k ≤ n → ∀ (T : State) (L : List Loc) (X : Stand p l e ({ frames := 4, cells := 0, slots := 0, locals := 55 } : Room) s m #[(.ref x), (.int (Int32.ofNat f)), (.int (Int32.ofNat n))] below meth c T L 0 0) (e1 : T.heap = h0) (N : Fr n0 L) (iv : Int32) (vv : Int64), iv.toInt = (f : Int) + k - 1 → vv = leV ((cs.drop (f + k)).take (n - k)) → Run p e below (Ends s (Q_rm_le zc fm x t kb cs f n h0 n0) 0 0) (T.setTop (mkF m 9 #[.val (.ref x), .val (.int (Int32.ofNat f)), .val (.int (Int32.ofNat n)), .val (.long vv), .second, .val (.int iv)] [])) := by
    intro k
    induction k with
    | zero =>
      intro hk T L X e1 N iv vv hi hv
      have hlt : iv < (Int32.ofNat f) := by rw [Int32.lt_iff_toInt_lt]; omega
      refine go (fun _ => XS.iload X.here hx rfl (hb hby d_p76_m9_9) rfl) ?_
      show Run p e below _ (T.setTop (mkF m 11 #[.val (.ref x), .val (.int (Int32.ofNat f)), .val (.int (Int32.ofNat n)), .val (.long vv), .second, .val (.int iv)] [(.int iv)]))
      refine go (fun _ => XS.iloadN X.here hx rfl (hb hby d_p76_m9_11) rfl) ?_
      show Run p e below _ (T.setTop (mkF m 12 #[.val (.ref x), .val (.int (Int32.ofNat f)), .val (.int (Int32.ofNat n)), .val (.long vv), .second, .val (.int iv)] [(.int (Int32.ofNat f)), (.int iv)]))
      refine go (fun _ => XS.icmpYes X.here hx rfl (pc0 := 12) (pc' := 34) rfl (hb hby d_p76_m9_12) rfl (tlt hlt).1 (by decide) (by decide)) ?_
      show Run p e below _ (T.setTop (mkF m 34 #[.val (.ref x), .val (.int (Int32.ofNat f)), .val (.int (Int32.ofNat n)), .val (.long vv), .second, .val (.int iv)] []))
      refine go (fun _ => XS.lloadN X.here hx rfl (hb hby d_p76_m9_34) rfl) ?_
      show Run p e below _ (T.setTop (mkF m 35 #[.val (.ref x), .val (.int (Int32.ofNat f)), .val (.int (Int32.ofNat n)), .val (.long vv), .second, .val (.int iv)] [(.long vv)]))
      exact endJ X hx hlk hret (hb hby d_p76_m9_35) (⟨by rw [hv]; rfl, N, e1⟩) (by decide) (by decide)
    | succ k ih =>
      intro hk T L X e1 N iv vv hi hv
      have hlt : ¬ iv < (Int32.ofNat f) := by rw [Int32.lt_iff_toInt_lt]; omega
      have hij : iv = Int32.ofNat (f + k) := Int32.toInt_inj.mp (by rw [own_on _ (by omega)]; omega)
      refine go (fun _ => XS.iload X.here hx rfl (hb hby d_p76_m9_9) rfl) ?_
      show Run p e below _ (T.setTop (mkF m 11 #[.val (.ref x), .val (.int (Int32.ofNat f)), .val (.int (Int32.ofNat n)), .val (.long vv), .second, .val (.int iv)] [(.int iv)]))
      refine go (fun _ => XS.iloadN X.here hx rfl (hb hby d_p76_m9_11) rfl) ?_
      show Run p e below _ (T.setTop (mkF m 12 #[.val (.ref x), .val (.int (Int32.ofNat f)), .val (.int (Int32.ofNat n)), .val (.long vv), .second, .val (.int iv)] [(.int (Int32.ofNat f)), (.int iv)]))
      refine go (fun _ => XS.icmpNo X.here hx rfl (hb hby d_p76_m9_12) rfl (flt hlt).1) ?_
      show Run p e below _ (T.setTop (mkF m 15 #[.val (.ref x), .val (.int (Int32.ofNat f)), .val (.int (Int32.ofNat n)), .val (.long vv), .second, .val (.int iv)] []))
      refine go (fun _ => XS.lloadN X.here hx rfl (hb hby d_p76_m9_15) rfl) ?_
      show Run p e below _ (T.setTop (mkF m 16 #[.val (.ref x), .val (.int (Int32.ofNat f)), .val (.int (Int32.ofNat n)), .val (.long vv), .second, .val (.int iv)] [(.long vv)]))
      refine go (fun _ => XS.bipush X.here hx rfl (hb hby d_p76_m9_16)) ?_
      show Run p e below _ (T.setTop (mkF m 18 #[.val (.ref x), .val (.int (Int32.ofNat f)), .val (.int (Int32.ofNat n)), .val (.long vv), .second, .val (.int iv)] [(.int (8 : Int32)), (.long vv)]))
      refine go (fun _ => XS.lshl X.here hx rfl (hb hby d_p76_m9_18) rfl) ?_
      show Run p e below _ (T.setTop (mkF m 19 #[.val (.ref x), .val (.int (Int32.ofNat f)), .val (.int (Int32.ofNat n)), .val (.long vv), .second, .val (.int iv)] [(.long (vv <<< ((8 : Int32) &&& 63).toInt64))]))
      refine go (fun _ => XS.aloadN X.here hx rfl (hb hby d_p76_m9_19) rfl rfl) ?_
      show Run p e below _ (T.setTop (mkF m 20 #[.val (.ref x), .val (.int (Int32.ofNat f)), .val (.int (Int32.ofNat n)), .val (.long vv), .second, .val (.int iv)] [(.ref x), (.long (vv <<< ((8 : Int32) &&& 63).toInt64))]))
      refine go (fun _ => XS.iload X.here hx rfl (hb hby d_p76_m9_20) rfl) ?_
      show Run p e below _ (T.setTop (mkF m 22 #[.val (.ref x), .val (.int (Int32.ofNat f)), .val (.int (Int32.ofNat n)), .val (.long vv), .second, .val (.int iv)] [(.int iv), (.ref x), (.long (vv <<< ((8 : Int32) &&& 63).toInt64))]))
      refine callViK X hx hZ hown (wd hw 39 rfl) (wd hw 40 rfl) (notFace_of_selects (args := #[]) (mvT hZ (wd hw 42 rfl))) (wd hw 42 rfl) (wd hw 41 rfl) (by decide) e1 T_x.1 (argsL := [(.int iv)]) (rest := [(.long (vv <<< ((8 : Int32) &&& 63).toInt64))]) (W := 2) (payCh (n0 := n0) (i := (f + k)) (j := iv) hZ hw (wd hw 7 rfl) O0 T_x Hx (by omega) S_COMPACT_STRINGS hzc S_SIOOBE_FORMATTER hfm (by omega) hij (by decide) (by decide)) (by decide) (by decide) (by rw [hml]; rfl) (lenOf pd_0 rfl) rfl (Nat.le_of_eq rfl) (hb hby d_p76_m9_22) ?_
      intro v3 T3 L3 h3 X3 e3 q3
      obtain ⟨rv, n3, k3⟩ := q3
      replace rv : v3 = some (.int (cs.getD (f + k) 0)) := rv
      subst rv
      have e3 := e3.trans k3
      have N3 := Fr.app N n3
      show Run p e below _ (T3.setTop (mkF m 25 #[.val (.ref x), .val (.int (Int32.ofNat f)), .val (.int (Int32.ofNat n)), .val (.long vv), .second, .val (.int iv)] [(.int (cs.getD (f + k) 0)), (.long (vv <<< ((8 : Int32) &&& 63).toInt64))]))
      refine go (fun _ => XS.i2l X3.here hx rfl (hb hby d_p76_m9_25) rfl) ?_
      show Run p e below _ (T3.setTop (mkF m 26 #[.val (.ref x), .val (.int (Int32.ofNat f)), .val (.int (Int32.ofNat n)), .val (.long vv), .second, .val (.int iv)] [(.long ((cs.getD (f + k) 0).toInt64)), (.long (vv <<< ((8 : Int32) &&& 63).toInt64))]))
      refine go (fun _ => XS.lor X3.here hx rfl (hb hby d_p76_m9_26) rfl) ?_
      show Run p e below _ (T3.setTop (mkF m 27 #[.val (.ref x), .val (.int (Int32.ofNat f)), .val (.int (Int32.ofNat n)), .val (.long vv), .second, .val (.int iv)] [(.long ((vv <<< ((8 : Int32) &&& 63).toInt64) ||| ((cs.getD (f + k) 0).toInt64)))]))
      refine go (fun _ => XS.lstoreN X3.here hx rfl (hb hby d_p76_m9_27) rfl (l' := #[.val (.ref x), .val (.int (Int32.ofNat f)), .val (.int (Int32.ofNat n)), .val (.long ((vv <<< ((8 : Int32) &&& 63).toInt64) ||| ((cs.getD (f + k) 0).toInt64))), .second, .val (.int iv)]) rfl) ?_
      show Run p e below _ (T3.setTop (mkF m 28 #[.val (.ref x), .val (.int (Int32.ofNat f)), .val (.int (Int32.ofNat n)), .val (.long ((vv <<< ((8 : Int32) &&& 63).toInt64) ||| ((cs.getD (f + k) 0).toInt64))), .second, .val (.int iv)] []))
      refine go (fun _ => XS.iinc X3.here hx rfl (hb hby d_p76_m9_28) rfl (l' := #[.val (.ref x), .val (.int (Int32.ofNat f)), .val (.int (Int32.ofNat n)), .val (.long ((vv <<< ((8 : Int32) &&& 63).toInt64) ||| ((cs.getD (f + k) 0).toInt64))), .second, .val (.int (iv + (-1 : Int32)))]) rfl) ?_
      show Run p e below _ (T3.setTop (mkF m 31 #[.val (.ref x), .val (.int (Int32.ofNat f)), .val (.int (Int32.ofNat n)), .val (.long ((vv <<< ((8 : Int32) &&& 63).toInt64) ||| ((cs.getD (f + k) 0).toInt64))), .second, .val (.int (iv + (-1 : Int32)))] []))
      refine go (fun _ => XS.goto X3.here hx rfl (pc0 := 31) (pc' := 9) rfl (hb hby d_p76_m9_31) (by decide) (by decide)) ?_
      show Run p e below _ (T3.setTop (mkF m 9 #[.val (.ref x), .val (.int (Int32.ofNat f)), .val (.int (Int32.ofNat n)), .val (.long ((vv <<< ((8 : Int32) &&& 63).toInt64) ||| ((cs.getD (f + k) 0).toInt64))), .second, .val (.int (iv + (-1 : Int32)))] []))
      exact ih (by omega) _ _ X3 e3 N3 _ _ (by rw [own_dec iv (by omega)]; omega) (by rw [own_step cs f n k (by omega) (by omega), ← hv, ← shl8])
  have hst : (((Int32.ofNat f) + (Int32.ofNat n)) - (1 : Int32)).toInt = (f : Int) + n - 1 := by
    have a := c_iadd (Int32.ofNat f) (Int32.ofNat n); have r := rng32 (Int32.ofNat f + Int32.ofNat n)
    have b := c_isub (Int32.ofNat f + Int32.ofNat n) 1; have r2 := rng32 (((Int32.ofNat f) + (Int32.ofNat n)) - (1 : Int32))
    omega
  exact LOOP n (Nat.le_refl _) _ _ X0 e0 N0 _ _ hst (by rw [Nat.sub_self]; rfl)
theorem pd_1 : parseMethodDescriptor "(II)C" = some ⟨[.int, .int], some .char⟩ := by decide +kernel
theorem pd_2 : parseMethodDescriptor "([C)V" = some ⟨[(.array .char)], none⟩ := by decide +kernel
theorem pd_3 : parseMethodDescriptor "(Ljava/lang/String;II)J" = some ⟨[(.object "java/lang/String"), .int, .int], some .long⟩ := by decide +kernel
theorem pd_4 : parseMethodDescriptor "([CIII)J" = some ⟨[(.array .char), .int, .int, .int], some .long⟩ := by decide +kernel
def Q_rmlaw (p0 p1 p2 p3 p4 p5 zc : Int32) (fm : Value) (h0 : Heap) (n0 : Nat) (v : Option Value) (h : Heap) (L : List Loc) : Prop := v = some (.int 1) ∧ Fr n0 L
set_option maxRecDepth 65536 in
set_option maxHeartbeats 40000000 in
theorem rmlaw (l : Launch) (Z : State) (a0 : Array Value) (hw : ∀ d ∈ tables_1, d.before a0 Z = true) (ws : List Jvm.Cond) (p0 p1 p2 p3 p4 p5 zc : Int32) (fm : Value) (h0 : Heap) (n0 : Nat) (O0 : Old Z n0 h0) (S_COMPACT_STRINGS : Sta Z Z.heap "java/lang/String" "COMPACT_STRINGS" "Z" (.int zc)) (S_SIOOBE_FORMATTER : Sta Z Z.heap "jdk/internal/util/Preconditions" "SIOOBE_FORMATTER" "Ljava/util/function/BiFunction;" fm) (hzc : ¬ zc = 0) (hfm : fm.isRef = true) :
    Meets l x code maxLocals ret ws room_1 Z #[(.int p0), (.int p1), (.int p2), (.int p3), (.int p4), (.int p5)] h0 (Q_rmlaw p0 p1 p2 p3 p4 p5 zc fm h0 n0) 16 192 := by
  refine enter (Ls := #[.val (.int p0), .val (.int p1), .val (.int p2), .val (.int p3), .val (.int p4), .val (.int p5), .unset, .unset, .unset, .unset, .unset, .unset, .unset, .unset]) (plainFor_of_name pn_0) (fun m => by first | rfl | (simp [entryFrame, mkF, argsToLocals, Value.category]; done)) ?_
  intro p e s m below meth c T0 hx hby hml hown hnm hret hlk hZ X0 e0
  have N0 := Fr.nil n0
  replace hown : s.vm.findClass "nearcast/engine/SipHashLittleEndianPinLaw" = some m.cls := hown
  show Run p e below _ (T0.setTop (mkF m 0 #[.val (.int p0), .val (.int p1), .val (.int p2), .val (.int p3), .val (.int p4), .val (.int p5), .unset, .unset, .unset, .unset, .unset, .unset, .unset, .unset] []))
  refine go (fun _ => XS.bipush X0.here hx rfl (hb hby at_0)) ?_
  show Run p e below _ (T0.setTop (mkF m 2 #[.val (.int p0), .val (.int p1), .val (.int p2), .val (.int p3), .val (.int p4), .val (.int p5), .unset, .unset, .unset, .unset, .unset, .unset, .unset, .unset] [(.int (16 : Int32))]))
  obtain ⟨T4, h4, k4, X4, e4, E4, A4, st4⟩ := newP X0 hx hZ (wd hw 0 rfl) e0 (g := (mkF m 2 #[.val (.int p0), .val (.int p1), .val (.int p2), .val (.int p3), .val (.int p4), .val (.int p5), .unset, .unset, .unset, .unset, .unset, .unset, .unset, .unset] [(.int (16 : Int32))])) rfl (hb hby at_2) rfl (by decide) (cap := 16) (by decide) (by decide) (by decide) (by decide)
  obtain ⟨b4, y4⟩ : ∃ z, z = h0.size := ⟨_, rfl⟩
  rw [← y4] at A4 st4
  have g_b4 : n0 ≤ b4 := y4.symm ▸ old_sz O0
  have O0 := O0.ext E4
  have V_b4 : Arv Z h4 b4 k4 .char (16 : Int32) [(.int (0 : Int32)), (.int (0 : Int32)), (.int (0 : Int32)), (.int (0 : Int32)), (.int (0 : Int32)), (.int (0 : Int32)), (.int (0 : Int32)), (.int (0 : Int32)), (.int (0 : Int32)), (.int (0 : Int32)), (.int (0 : Int32)), (.int (0 : Int32)), (.int (0 : Int32)), (.int (0 : Int32)), (.int (0 : Int32)), (.int (0 : Int32))] (.int (0 : Int32)) := (Arv.new A4 (by decide)).pad (pad_rep [] (.int (0 : Int32)) 16)
  refine go st4 ?_
  show Run p e below _ (T4.setTop (mkF m 4 #[.val (.int p0), .val (.int p1), .val (.int p2), .val (.int p3), .val (.int p4), .val (.int p5), .unset, .unset, .unset, .unset, .unset, .unset, .unset, .unset] [(.ref b4)]))
  refine go (fun _ => XS.astore X4.here hx rfl (hb hby at_4) rfl rfl (l' := #[.val (.int p0), .val (.int p1), .val (.int p2), .val (.int p3), .val (.int p4), .val (.int p5), .val (.ref b4), .unset, .unset, .unset, .unset, .unset, .unset, .unset]) rfl) ?_
  show Run p e below _ (T4.setTop (mkF m 6 #[.val (.int p0), .val (.int p1), .val (.int p2), .val (.int p3), .val (.int p4), .val (.int p5), .val (.ref b4), .unset, .unset, .unset, .unset, .unset, .unset, .unset] []))
  refine go (fun _ => XS.aload X4.here hx rfl (hb hby at_6) rfl rfl) ?_
  show Run p e below _ (T4.setTop (mkF m 8 #[.val (.int p0), .val (.int p1), .val (.int p2), .val (.int p3), .val (.int p4), .val (.int p5), .val (.ref b4), .unset, .unset, .unset, .unset, .unset, .unset, .unset] [(.ref b4)]))
  refine go (fun _ => XS.iconst X4.here hx rfl (hb hby at_8)) ?_
  show Run p e below _ (T4.setTop (mkF m 9 #[.val (.int p0), .val (.int p1), .val (.int p2), .val (.int p3), .val (.int p4), .val (.int p5), .val (.ref b4), .unset, .unset, .unset, .unset, .unset, .unset, .unset] [(.int (0 : Int32)), (.ref b4)]))
  refine go (fun _ => XS.iloadN X4.here hx rfl (hb hby at_9) rfl) ?_
  show Run p e below _ (T4.setTop (mkF m 10 #[.val (.int p0), .val (.int p1), .val (.int p2), .val (.int p3), .val (.int p4), .val (.int p5), .val (.ref b4), .unset, .unset, .unset, .unset, .unset, .unset, .unset] [(.int p0), (.int (0 : Int32)), (.ref b4)]))
  refine go (fun _ => XS.iconst X4.here hx rfl (hb hby at_10)) ?_
  show Run p e below _ (T4.setTop (mkF m 11 #[.val (.int p0), .val (.int p1), .val (.int p2), .val (.int p3), .val (.int p4), .val (.int p5), .val (.ref b4), .unset, .unset, .unset, .unset, .unset, .unset, .unset] [(.int (0 : Int32)), (.int p0), (.int (0 : Int32)), (.ref b4)]))
  refine callSt X4 hx hZ hown (wd hw 1 rfl) (wd hw 2 rfl) (wd hw 3 rfl) (wd hw 4 rfl) (by decide) e4 (argsL := [(.int p0), (.int (0 : Int32))]) (rest := [(.int (0 : Int32)), (.ref b4)]) (rm_ch l Z a0 hw [] p0 (0 : Int32) h4 n0 O0) (W := 2) (by decide) (by decide) (by decide) (by decide) (by rw [hml]; rfl) (lenOf pd_1 rfl) rfl (Nat.le_of_eq rfl) (hb hby at_11) ?_
  intro v5 T5 L5 h5 X5 e5 q5
  obtain ⟨rv, n5, k5⟩ := q5
  replace rv : v5 = some (.int (chV p0 (0 : Int32))) := rv
  subst rv
  have e5 := e5.trans k5
  have N5 := Fr.app N0 n5
  obtain ⟨c5, hc5⟩ : ∃ c, c = chV p0 (0 : Int32) := ⟨_, rfl⟩
  have hm5 : ¬ c5 < 0 ∧ ¬ (255 : Int32) < c5 := hc5 ▸ own_m7 _
  have hq5 : nar .char c5 = c5 := hc5 ▸ own_n7 _
  rw [← hc5]
  show Run p e below _ (T5.setTop (mkF m 14 #[.val (.int p0), .val (.int p1), .val (.int p2), .val (.int p3), .val (.int p4), .val (.int p5), .val (.ref b4), .unset, .unset, .unset, .unset, .unset, .unset, .unset] [(.int c5), (.int (0 : Int32)), (.ref b4)]))
  obtain ⟨cl6, Ar6, ak6, as6, an6, ah6, ag6⟩ := id V_b4
  have hin6 := inb_of as6 (j := (0 : Int32)) ⟨by decide, by decide⟩
  obtain ⟨T6, h6, X6, e6, W6, st6⟩ := stC X5 hx hZ e5 Ar6 (j := (0 : Int32)) hin6 (g := (mkF m 14 #[.val (.int p0), .val (.int p1), .val (.int p2), .val (.int p3), .val (.int p4), .val (.int p5), .val (.ref b4), .unset, .unset, .unset, .unset, .unset, .unset, .unset] [(.int c5), (.int (0 : Int32)), (.ref b4)])) rfl rfl (hb hby at_14)
  have W6' : Wr _ _ _ _ (.int c5) := hq5 ▸ W6
  have O0 := O0.wr W6' g_b4
  have V_b4 := (Arv.set Ar6 ak6 as6 an6 ah6 ag6 (hq5 ▸ (fits_nar_char _)) W6' 0 rfl (Nat.le_of_ble_eq_true rfl) : Arv Z h6 b4 k4 .char (16 : Int32) [(.int c5), (.int (0 : Int32)), (.int (0 : Int32)), (.int (0 : Int32)), (.int (0 : Int32)), (.int (0 : Int32)), (.int (0 : Int32)), (.int (0 : Int32)), (.int (0 : Int32)), (.int (0 : Int32)), (.int (0 : Int32)), (.int (0 : Int32)), (.int (0 : Int32)), (.int (0 : Int32)), (.int (0 : Int32)), (.int (0 : Int32))] (.int (0 : Int32)))
  have N6 := Fr.snoc X6 N5 g_b4
  refine go st6 ?_
  show Run p e below _ (T6.setTop (mkF m 15 #[.val (.int p0), .val (.int p1), .val (.int p2), .val (.int p3), .val (.int p4), .val (.int p5), .val (.ref b4), .unset, .unset, .unset, .unset, .unset, .unset, .unset] []))
  refine go (fun _ => XS.aload X6.here hx rfl (hb hby at_15) rfl rfl) ?_
  show Run p e below _ (T6.setTop (mkF m 17 #[.val (.int p0), .val (.int p1), .val (.int p2), .val (.int p3), .val (.int p4), .val (.int p5), .val (.ref b4), .unset, .unset, .unset, .unset, .unset, .unset, .unset] [(.ref b4)]))
  refine go (fun _ => XS.iconst X6.here hx rfl (hb hby at_17)) ?_
  show Run p e below _ (T6.setTop (mkF m 18 #[.val (.int p0), .val (.int p1), .val (.int p2), .val (.int p3), .val (.int p4), .val (.int p5), .val (.ref b4), .unset, .unset, .unset, .unset, .unset, .unset, .unset] [(.int (1 : Int32)), (.ref b4)]))
  refine go (fun _ => XS.iloadN X6.here hx rfl (hb hby at_18) rfl) ?_
  show Run p e below _ (T6.setTop (mkF m 19 #[.val (.int p0), .val (.int p1), .val (.int p2), .val (.int p3), .val (.int p4), .val (.int p5), .val (.ref b4), .unset, .unset, .unset, .unset, .unset, .unset, .unset] [(.int p0), (.int (1 : Int32)), (.ref b4)]))
  refine go (fun _ => XS.iconst X6.here hx rfl (hb hby at_19)) ?_
  show Run p e below _ (T6.setTop (mkF m 20 #[.val (.int p0), .val (.int p1), .val (.int p2), .val (.int p3), .val (.int p4), .val (.int p5), .val (.ref b4), .unset, .unset, .unset, .unset, .unset, .unset, .unset] [(.int (1 : Int32)), (.int p0), (.int (1 : Int32)), (.ref b4)]))
  refine callSt X6 hx hZ hown (wd hw 1 rfl) (wd hw 2 rfl) (wd hw 3 rfl) (wd hw 4 rfl) (by decide) e6 (argsL := [(.int p0), (.int (1 : Int32))]) (rest := [(.int (1 : Int32)), (.ref b4)]) (rm_ch l Z a0 hw [] p0 (1 : Int32) h6 n0 O0) (W := 2) (by decide) (by decide) (by decide) (by decide) (by rw [hml]; rfl) (lenOf pd_1 rfl) rfl (Nat.le_of_eq rfl) (hb hby at_20) ?_
  intro v7 T7 L7 h7 X7 e7 q7
  obtain ⟨rv, n7, k7⟩ := q7
  replace rv : v7 = some (.int (chV p0 (1 : Int32))) := rv
  subst rv
  have e7 := e7.trans k7
  have N7 := Fr.app N6 n7
  obtain ⟨c7, hc7⟩ : ∃ c, c = chV p0 (1 : Int32) := ⟨_, rfl⟩
  have hm7 : ¬ c7 < 0 ∧ ¬ (255 : Int32) < c7 := hc7 ▸ own_m7 _
  have hq7 : nar .char c7 = c7 := hc7 ▸ own_n7 _
  rw [← hc7]
  show Run p e below _ (T7.setTop (mkF m 23 #[.val (.int p0), .val (.int p1), .val (.int p2), .val (.int p3), .val (.int p4), .val (.int p5), .val (.ref b4), .unset, .unset, .unset, .unset, .unset, .unset, .unset] [(.int c7), (.int (1 : Int32)), (.ref b4)]))
  obtain ⟨cl8, Ar8, ak8, as8, an8, ah8, ag8⟩ := id V_b4
  have hin8 := inb_of as8 (j := (1 : Int32)) ⟨by decide, by decide⟩
  obtain ⟨T8, h8, X8, e8, W8, st8⟩ := stC X7 hx hZ e7 Ar8 (j := (1 : Int32)) hin8 (g := (mkF m 23 #[.val (.int p0), .val (.int p1), .val (.int p2), .val (.int p3), .val (.int p4), .val (.int p5), .val (.ref b4), .unset, .unset, .unset, .unset, .unset, .unset, .unset] [(.int c7), (.int (1 : Int32)), (.ref b4)])) rfl rfl (hb hby at_23)
  have W8' : Wr _ _ _ _ (.int c7) := hq7 ▸ W8
  have O0 := O0.wr W8' g_b4
  have V_b4 := (Arv.set Ar8 ak8 as8 an8 ah8 ag8 (hq7 ▸ (fits_nar_char _)) W8' 1 rfl (Nat.le_of_ble_eq_true rfl) : Arv Z h8 b4 k4 .char (16 : Int32) [(.int c5), (.int c7), (.int (0 : Int32)), (.int (0 : Int32)), (.int (0 : Int32)), (.int (0 : Int32)), (.int (0 : Int32)), (.int (0 : Int32)), (.int (0 : Int32)), (.int (0 : Int32)), (.int (0 : Int32)), (.int (0 : Int32)), (.int (0 : Int32)), (.int (0 : Int32)), (.int (0 : Int32)), (.int (0 : Int32))] (.int (0 : Int32)))
  have N8 := Fr.snoc X8 N7 g_b4
  refine go st8 ?_
  show Run p e below _ (T8.setTop (mkF m 24 #[.val (.int p0), .val (.int p1), .val (.int p2), .val (.int p3), .val (.int p4), .val (.int p5), .val (.ref b4), .unset, .unset, .unset, .unset, .unset, .unset, .unset] []))
  refine go (fun _ => XS.aload X8.here hx rfl (hb hby at_24) rfl rfl) ?_
  show Run p e below _ (T8.setTop (mkF m 26 #[.val (.int p0), .val (.int p1), .val (.int p2), .val (.int p3), .val (.int p4), .val (.int p5), .val (.ref b4), .unset, .unset, .unset, .unset, .unset, .unset, .unset] [(.ref b4)]))
  refine go (fun _ => XS.iconst X8.here hx rfl (hb hby at_26)) ?_
  show Run p e below _ (T8.setTop (mkF m 27 #[.val (.int p0), .val (.int p1), .val (.int p2), .val (.int p3), .val (.int p4), .val (.int p5), .val (.ref b4), .unset, .unset, .unset, .unset, .unset, .unset, .unset] [(.int (2 : Int32)), (.ref b4)]))
  refine go (fun _ => XS.iloadN X8.here hx rfl (hb hby at_27) rfl) ?_
  show Run p e below _ (T8.setTop (mkF m 28 #[.val (.int p0), .val (.int p1), .val (.int p2), .val (.int p3), .val (.int p4), .val (.int p5), .val (.ref b4), .unset, .unset, .unset, .unset, .unset, .unset, .unset] [(.int p0), (.int (2 : Int32)), (.ref b4)]))
  refine go (fun _ => XS.iconst X8.here hx rfl (hb hby at_28)) ?_
  show Run p e below _ (T8.setTop (mkF m 29 #[.val (.int p0), .val (.int p1), .val (.int p2), .val (.int p3), .val (.int p4), .val (.int p5), .val (.ref b4), .unset, .unset, .unset, .unset, .unset, .unset, .unset] [(.int (2 : Int32)), (.int p0), (.int (2 : Int32)), (.ref b4)]))
  refine callSt X8 hx hZ hown (wd hw 1 rfl) (wd hw 2 rfl) (wd hw 3 rfl) (wd hw 4 rfl) (by decide) e8 (argsL := [(.int p0), (.int (2 : Int32))]) (rest := [(.int (2 : Int32)), (.ref b4)]) (rm_ch l Z a0 hw [] p0 (2 : Int32) h8 n0 O0) (W := 2) (by decide) (by decide) (by decide) (by decide) (by rw [hml]; rfl) (lenOf pd_1 rfl) rfl (Nat.le_of_eq rfl) (hb hby at_29) ?_
  intro v9 T9 L9 h9 X9 e9 q9
  obtain ⟨rv, n9, k9⟩ := q9
  replace rv : v9 = some (.int (chV p0 (2 : Int32))) := rv
  subst rv
  have e9 := e9.trans k9
  have N9 := Fr.app N8 n9
  obtain ⟨c9, hc9⟩ : ∃ c, c = chV p0 (2 : Int32) := ⟨_, rfl⟩
  have hm9 : ¬ c9 < 0 ∧ ¬ (255 : Int32) < c9 := hc9 ▸ own_m7 _
  have hq9 : nar .char c9 = c9 := hc9 ▸ own_n7 _
  rw [← hc9]
  show Run p e below _ (T9.setTop (mkF m 32 #[.val (.int p0), .val (.int p1), .val (.int p2), .val (.int p3), .val (.int p4), .val (.int p5), .val (.ref b4), .unset, .unset, .unset, .unset, .unset, .unset, .unset] [(.int c9), (.int (2 : Int32)), (.ref b4)]))
  obtain ⟨cl10, Ar10, ak10, as10, an10, ah10, ag10⟩ := id V_b4
  have hin10 := inb_of as10 (j := (2 : Int32)) ⟨by decide, by decide⟩
  obtain ⟨T10, h10, X10, e10, W10, st10⟩ := stC X9 hx hZ e9 Ar10 (j := (2 : Int32)) hin10 (g := (mkF m 32 #[.val (.int p0), .val (.int p1), .val (.int p2), .val (.int p3), .val (.int p4), .val (.int p5), .val (.ref b4), .unset, .unset, .unset, .unset, .unset, .unset, .unset] [(.int c9), (.int (2 : Int32)), (.ref b4)])) rfl rfl (hb hby at_32)
  have W10' : Wr _ _ _ _ (.int c9) := hq9 ▸ W10
  have O0 := O0.wr W10' g_b4
  have V_b4 := (Arv.set Ar10 ak10 as10 an10 ah10 ag10 (hq9 ▸ (fits_nar_char _)) W10' 2 rfl (Nat.le_of_ble_eq_true rfl) : Arv Z h10 b4 k4 .char (16 : Int32) [(.int c5), (.int c7), (.int c9), (.int (0 : Int32)), (.int (0 : Int32)), (.int (0 : Int32)), (.int (0 : Int32)), (.int (0 : Int32)), (.int (0 : Int32)), (.int (0 : Int32)), (.int (0 : Int32)), (.int (0 : Int32)), (.int (0 : Int32)), (.int (0 : Int32)), (.int (0 : Int32)), (.int (0 : Int32))] (.int (0 : Int32)))
  have N10 := Fr.snoc X10 N9 g_b4
  refine go st10 ?_
  show Run p e below _ (T10.setTop (mkF m 33 #[.val (.int p0), .val (.int p1), .val (.int p2), .val (.int p3), .val (.int p4), .val (.int p5), .val (.ref b4), .unset, .unset, .unset, .unset, .unset, .unset, .unset] []))
  refine go (fun _ => XS.aload X10.here hx rfl (hb hby at_33) rfl rfl) ?_
  show Run p e below _ (T10.setTop (mkF m 35 #[.val (.int p0), .val (.int p1), .val (.int p2), .val (.int p3), .val (.int p4), .val (.int p5), .val (.ref b4), .unset, .unset, .unset, .unset, .unset, .unset, .unset] [(.ref b4)]))
  refine go (fun _ => XS.iconst X10.here hx rfl (hb hby at_35)) ?_
  show Run p e below _ (T10.setTop (mkF m 36 #[.val (.int p0), .val (.int p1), .val (.int p2), .val (.int p3), .val (.int p4), .val (.int p5), .val (.ref b4), .unset, .unset, .unset, .unset, .unset, .unset, .unset] [(.int (3 : Int32)), (.ref b4)]))
  refine go (fun _ => XS.iloadN X10.here hx rfl (hb hby at_36) rfl) ?_
  show Run p e below _ (T10.setTop (mkF m 37 #[.val (.int p0), .val (.int p1), .val (.int p2), .val (.int p3), .val (.int p4), .val (.int p5), .val (.ref b4), .unset, .unset, .unset, .unset, .unset, .unset, .unset] [(.int p0), (.int (3 : Int32)), (.ref b4)]))
  refine go (fun _ => XS.iconst X10.here hx rfl (hb hby at_37)) ?_
  show Run p e below _ (T10.setTop (mkF m 38 #[.val (.int p0), .val (.int p1), .val (.int p2), .val (.int p3), .val (.int p4), .val (.int p5), .val (.ref b4), .unset, .unset, .unset, .unset, .unset, .unset, .unset] [(.int (3 : Int32)), (.int p0), (.int (3 : Int32)), (.ref b4)]))
  refine callSt X10 hx hZ hown (wd hw 1 rfl) (wd hw 2 rfl) (wd hw 3 rfl) (wd hw 4 rfl) (by decide) e10 (argsL := [(.int p0), (.int (3 : Int32))]) (rest := [(.int (3 : Int32)), (.ref b4)]) (rm_ch l Z a0 hw [] p0 (3 : Int32) h10 n0 O0) (W := 2) (by decide) (by decide) (by decide) (by decide) (by rw [hml]; rfl) (lenOf pd_1 rfl) rfl (Nat.le_of_eq rfl) (hb hby at_38) ?_
  intro v11 T11 L11 h11 X11 e11 q11
  obtain ⟨rv, n11, k11⟩ := q11
  replace rv : v11 = some (.int (chV p0 (3 : Int32))) := rv
  subst rv
  have e11 := e11.trans k11
  have N11 := Fr.app N10 n11
  obtain ⟨c11, hc11⟩ : ∃ c, c = chV p0 (3 : Int32) := ⟨_, rfl⟩
  have hm11 : ¬ c11 < 0 ∧ ¬ (255 : Int32) < c11 := hc11 ▸ own_m7 _
  have hq11 : nar .char c11 = c11 := hc11 ▸ own_n7 _
  rw [← hc11]
  show Run p e below _ (T11.setTop (mkF m 41 #[.val (.int p0), .val (.int p1), .val (.int p2), .val (.int p3), .val (.int p4), .val (.int p5), .val (.ref b4), .unset, .unset, .unset, .unset, .unset, .unset, .unset] [(.int c11), (.int (3 : Int32)), (.ref b4)]))
  obtain ⟨cl12, Ar12, ak12, as12, an12, ah12, ag12⟩ := id V_b4
  have hin12 := inb_of as12 (j := (3 : Int32)) ⟨by decide, by decide⟩
  obtain ⟨T12, h12, X12, e12, W12, st12⟩ := stC X11 hx hZ e11 Ar12 (j := (3 : Int32)) hin12 (g := (mkF m 41 #[.val (.int p0), .val (.int p1), .val (.int p2), .val (.int p3), .val (.int p4), .val (.int p5), .val (.ref b4), .unset, .unset, .unset, .unset, .unset, .unset, .unset] [(.int c11), (.int (3 : Int32)), (.ref b4)])) rfl rfl (hb hby at_41)
  have W12' : Wr _ _ _ _ (.int c11) := hq11 ▸ W12
  have O0 := O0.wr W12' g_b4
  have V_b4 := (Arv.set Ar12 ak12 as12 an12 ah12 ag12 (hq11 ▸ (fits_nar_char _)) W12' 3 rfl (Nat.le_of_ble_eq_true rfl) : Arv Z h12 b4 k4 .char (16 : Int32) [(.int c5), (.int c7), (.int c9), (.int c11), (.int (0 : Int32)), (.int (0 : Int32)), (.int (0 : Int32)), (.int (0 : Int32)), (.int (0 : Int32)), (.int (0 : Int32)), (.int (0 : Int32)), (.int (0 : Int32)), (.int (0 : Int32)), (.int (0 : Int32)), (.int (0 : Int32)), (.int (0 : Int32))] (.int (0 : Int32)))
  have N12 := Fr.snoc X12 N11 g_b4
  refine go st12 ?_
  show Run p e below _ (T12.setTop (mkF m 42 #[.val (.int p0), .val (.int p1), .val (.int p2), .val (.int p3), .val (.int p4), .val (.int p5), .val (.ref b4), .unset, .unset, .unset, .unset, .unset, .unset, .unset] []))
  refine go (fun _ => XS.aload X12.here hx rfl (hb hby at_42) rfl rfl) ?_
  show Run p e below _ (T12.setTop (mkF m 44 #[.val (.int p0), .val (.int p1), .val (.int p2), .val (.int p3), .val (.int p4), .val (.int p5), .val (.ref b4), .unset, .unset, .unset, .unset, .unset, .unset, .unset] [(.ref b4)]))
  refine go (fun _ => XS.iconst X12.here hx rfl (hb hby at_44)) ?_
  show Run p e below _ (T12.setTop (mkF m 45 #[.val (.int p0), .val (.int p1), .val (.int p2), .val (.int p3), .val (.int p4), .val (.int p5), .val (.ref b4), .unset, .unset, .unset, .unset, .unset, .unset, .unset] [(.int (4 : Int32)), (.ref b4)]))
  refine go (fun _ => XS.iloadN X12.here hx rfl (hb hby at_45) rfl) ?_
  show Run p e below _ (T12.setTop (mkF m 46 #[.val (.int p0), .val (.int p1), .val (.int p2), .val (.int p3), .val (.int p4), .val (.int p5), .val (.ref b4), .unset, .unset, .unset, .unset, .unset, .unset, .unset] [(.int p1), (.int (4 : Int32)), (.ref b4)]))
  refine go (fun _ => XS.iconst X12.here hx rfl (hb hby at_46)) ?_
  show Run p e below _ (T12.setTop (mkF m 47 #[.val (.int p0), .val (.int p1), .val (.int p2), .val (.int p3), .val (.int p4), .val (.int p5), .val (.ref b4), .unset, .unset, .unset, .unset, .unset, .unset, .unset] [(.int (0 : Int32)), (.int p1), (.int (4 : Int32)), (.ref b4)]))
  refine callSt X12 hx hZ hown (wd hw 1 rfl) (wd hw 2 rfl) (wd hw 3 rfl) (wd hw 4 rfl) (by decide) e12 (argsL := [(.int p1), (.int (0 : Int32))]) (rest := [(.int (4 : Int32)), (.ref b4)]) (rm_ch l Z a0 hw [] p1 (0 : Int32) h12 n0 O0) (W := 2) (by decide) (by decide) (by decide) (by decide) (by rw [hml]; rfl) (lenOf pd_1 rfl) rfl (Nat.le_of_eq rfl) (hb hby at_47) ?_
  intro v13 T13 L13 h13 X13 e13 q13
  obtain ⟨rv, n13, k13⟩ := q13
  replace rv : v13 = some (.int (chV p1 (0 : Int32))) := rv
  subst rv
  have e13 := e13.trans k13
  have N13 := Fr.app N12 n13
  obtain ⟨c13, hc13⟩ : ∃ c, c = chV p1 (0 : Int32) := ⟨_, rfl⟩
  have hm13 : ¬ c13 < 0 ∧ ¬ (255 : Int32) < c13 := hc13 ▸ own_m7 _
  have hq13 : nar .char c13 = c13 := hc13 ▸ own_n7 _
  rw [← hc13]
  show Run p e below _ (T13.setTop (mkF m 50 #[.val (.int p0), .val (.int p1), .val (.int p2), .val (.int p3), .val (.int p4), .val (.int p5), .val (.ref b4), .unset, .unset, .unset, .unset, .unset, .unset, .unset] [(.int c13), (.int (4 : Int32)), (.ref b4)]))
  obtain ⟨cl14, Ar14, ak14, as14, an14, ah14, ag14⟩ := id V_b4
  have hin14 := inb_of as14 (j := (4 : Int32)) ⟨by decide, by decide⟩
  obtain ⟨T14, h14, X14, e14, W14, st14⟩ := stC X13 hx hZ e13 Ar14 (j := (4 : Int32)) hin14 (g := (mkF m 50 #[.val (.int p0), .val (.int p1), .val (.int p2), .val (.int p3), .val (.int p4), .val (.int p5), .val (.ref b4), .unset, .unset, .unset, .unset, .unset, .unset, .unset] [(.int c13), (.int (4 : Int32)), (.ref b4)])) rfl rfl (hb hby at_50)
  have W14' : Wr _ _ _ _ (.int c13) := hq13 ▸ W14
  have O0 := O0.wr W14' g_b4
  have V_b4 := (Arv.set Ar14 ak14 as14 an14 ah14 ag14 (hq13 ▸ (fits_nar_char _)) W14' 4 rfl (Nat.le_of_ble_eq_true rfl) : Arv Z h14 b4 k4 .char (16 : Int32) [(.int c5), (.int c7), (.int c9), (.int c11), (.int c13), (.int (0 : Int32)), (.int (0 : Int32)), (.int (0 : Int32)), (.int (0 : Int32)), (.int (0 : Int32)), (.int (0 : Int32)), (.int (0 : Int32)), (.int (0 : Int32)), (.int (0 : Int32)), (.int (0 : Int32)), (.int (0 : Int32))] (.int (0 : Int32)))
  have N14 := Fr.snoc X14 N13 g_b4
  refine go st14 ?_
  show Run p e below _ (T14.setTop (mkF m 51 #[.val (.int p0), .val (.int p1), .val (.int p2), .val (.int p3), .val (.int p4), .val (.int p5), .val (.ref b4), .unset, .unset, .unset, .unset, .unset, .unset, .unset] []))
  refine go (fun _ => XS.aload X14.here hx rfl (hb hby at_51) rfl rfl) ?_
  show Run p e below _ (T14.setTop (mkF m 53 #[.val (.int p0), .val (.int p1), .val (.int p2), .val (.int p3), .val (.int p4), .val (.int p5), .val (.ref b4), .unset, .unset, .unset, .unset, .unset, .unset, .unset] [(.ref b4)]))
  refine go (fun _ => XS.iconst X14.here hx rfl (hb hby at_53)) ?_
  show Run p e below _ (T14.setTop (mkF m 54 #[.val (.int p0), .val (.int p1), .val (.int p2), .val (.int p3), .val (.int p4), .val (.int p5), .val (.ref b4), .unset, .unset, .unset, .unset, .unset, .unset, .unset] [(.int (5 : Int32)), (.ref b4)]))
  refine go (fun _ => XS.iloadN X14.here hx rfl (hb hby at_54) rfl) ?_
  show Run p e below _ (T14.setTop (mkF m 55 #[.val (.int p0), .val (.int p1), .val (.int p2), .val (.int p3), .val (.int p4), .val (.int p5), .val (.ref b4), .unset, .unset, .unset, .unset, .unset, .unset, .unset] [(.int p1), (.int (5 : Int32)), (.ref b4)]))
  refine go (fun _ => XS.iconst X14.here hx rfl (hb hby at_55)) ?_
  show Run p e below _ (T14.setTop (mkF m 56 #[.val (.int p0), .val (.int p1), .val (.int p2), .val (.int p3), .val (.int p4), .val (.int p5), .val (.ref b4), .unset, .unset, .unset, .unset, .unset, .unset, .unset] [(.int (1 : Int32)), (.int p1), (.int (5 : Int32)), (.ref b4)]))
  refine callSt X14 hx hZ hown (wd hw 1 rfl) (wd hw 2 rfl) (wd hw 3 rfl) (wd hw 4 rfl) (by decide) e14 (argsL := [(.int p1), (.int (1 : Int32))]) (rest := [(.int (5 : Int32)), (.ref b4)]) (rm_ch l Z a0 hw [] p1 (1 : Int32) h14 n0 O0) (W := 2) (by decide) (by decide) (by decide) (by decide) (by rw [hml]; rfl) (lenOf pd_1 rfl) rfl (Nat.le_of_eq rfl) (hb hby at_56) ?_
  intro v15 T15 L15 h15 X15 e15 q15
  obtain ⟨rv, n15, k15⟩ := q15
  replace rv : v15 = some (.int (chV p1 (1 : Int32))) := rv
  subst rv
  have e15 := e15.trans k15
  have N15 := Fr.app N14 n15
  obtain ⟨c15, hc15⟩ : ∃ c, c = chV p1 (1 : Int32) := ⟨_, rfl⟩
  have hm15 : ¬ c15 < 0 ∧ ¬ (255 : Int32) < c15 := hc15 ▸ own_m7 _
  have hq15 : nar .char c15 = c15 := hc15 ▸ own_n7 _
  rw [← hc15]
  show Run p e below _ (T15.setTop (mkF m 59 #[.val (.int p0), .val (.int p1), .val (.int p2), .val (.int p3), .val (.int p4), .val (.int p5), .val (.ref b4), .unset, .unset, .unset, .unset, .unset, .unset, .unset] [(.int c15), (.int (5 : Int32)), (.ref b4)]))
  obtain ⟨cl16, Ar16, ak16, as16, an16, ah16, ag16⟩ := id V_b4
  have hin16 := inb_of as16 (j := (5 : Int32)) ⟨by decide, by decide⟩
  obtain ⟨T16, h16, X16, e16, W16, st16⟩ := stC X15 hx hZ e15 Ar16 (j := (5 : Int32)) hin16 (g := (mkF m 59 #[.val (.int p0), .val (.int p1), .val (.int p2), .val (.int p3), .val (.int p4), .val (.int p5), .val (.ref b4), .unset, .unset, .unset, .unset, .unset, .unset, .unset] [(.int c15), (.int (5 : Int32)), (.ref b4)])) rfl rfl (hb hby at_59)
  have W16' : Wr _ _ _ _ (.int c15) := hq15 ▸ W16
  have O0 := O0.wr W16' g_b4
  have V_b4 := (Arv.set Ar16 ak16 as16 an16 ah16 ag16 (hq15 ▸ (fits_nar_char _)) W16' 5 rfl (Nat.le_of_ble_eq_true rfl) : Arv Z h16 b4 k4 .char (16 : Int32) [(.int c5), (.int c7), (.int c9), (.int c11), (.int c13), (.int c15), (.int (0 : Int32)), (.int (0 : Int32)), (.int (0 : Int32)), (.int (0 : Int32)), (.int (0 : Int32)), (.int (0 : Int32)), (.int (0 : Int32)), (.int (0 : Int32)), (.int (0 : Int32)), (.int (0 : Int32))] (.int (0 : Int32)))
  have N16 := Fr.snoc X16 N15 g_b4
  refine go st16 ?_
  show Run p e below _ (T16.setTop (mkF m 60 #[.val (.int p0), .val (.int p1), .val (.int p2), .val (.int p3), .val (.int p4), .val (.int p5), .val (.ref b4), .unset, .unset, .unset, .unset, .unset, .unset, .unset] []))
  refine go (fun _ => XS.aload X16.here hx rfl (hb hby at_60) rfl rfl) ?_
  show Run p e below _ (T16.setTop (mkF m 62 #[.val (.int p0), .val (.int p1), .val (.int p2), .val (.int p3), .val (.int p4), .val (.int p5), .val (.ref b4), .unset, .unset, .unset, .unset, .unset, .unset, .unset] [(.ref b4)]))
  refine go (fun _ => XS.bipush X16.here hx rfl (hb hby at_62)) ?_
  show Run p e below _ (T16.setTop (mkF m 64 #[.val (.int p0), .val (.int p1), .val (.int p2), .val (.int p3), .val (.int p4), .val (.int p5), .val (.ref b4), .unset, .unset, .unset, .unset, .unset, .unset, .unset] [(.int (6 : Int32)), (.ref b4)]))
  refine go (fun _ => XS.iloadN X16.here hx rfl (hb hby at_64) rfl) ?_
  show Run p e below _ (T16.setTop (mkF m 65 #[.val (.int p0), .val (.int p1), .val (.int p2), .val (.int p3), .val (.int p4), .val (.int p5), .val (.ref b4), .unset, .unset, .unset, .unset, .unset, .unset, .unset] [(.int p1), (.int (6 : Int32)), (.ref b4)]))
  refine go (fun _ => XS.iconst X16.here hx rfl (hb hby at_65)) ?_
  show Run p e below _ (T16.setTop (mkF m 66 #[.val (.int p0), .val (.int p1), .val (.int p2), .val (.int p3), .val (.int p4), .val (.int p5), .val (.ref b4), .unset, .unset, .unset, .unset, .unset, .unset, .unset] [(.int (2 : Int32)), (.int p1), (.int (6 : Int32)), (.ref b4)]))
  refine callSt X16 hx hZ hown (wd hw 1 rfl) (wd hw 2 rfl) (wd hw 3 rfl) (wd hw 4 rfl) (by decide) e16 (argsL := [(.int p1), (.int (2 : Int32))]) (rest := [(.int (6 : Int32)), (.ref b4)]) (rm_ch l Z a0 hw [] p1 (2 : Int32) h16 n0 O0) (W := 2) (by decide) (by decide) (by decide) (by decide) (by rw [hml]; rfl) (lenOf pd_1 rfl) rfl (Nat.le_of_eq rfl) (hb hby at_66) ?_
  intro v17 T17 L17 h17 X17 e17 q17
  obtain ⟨rv, n17, k17⟩ := q17
  replace rv : v17 = some (.int (chV p1 (2 : Int32))) := rv
  subst rv
  have e17 := e17.trans k17
  have N17 := Fr.app N16 n17
  obtain ⟨c17, hc17⟩ : ∃ c, c = chV p1 (2 : Int32) := ⟨_, rfl⟩
  have hm17 : ¬ c17 < 0 ∧ ¬ (255 : Int32) < c17 := hc17 ▸ own_m7 _
  have hq17 : nar .char c17 = c17 := hc17 ▸ own_n7 _
  rw [← hc17]
  show Run p e below _ (T17.setTop (mkF m 69 #[.val (.int p0), .val (.int p1), .val (.int p2), .val (.int p3), .val (.int p4), .val (.int p5), .val (.ref b4), .unset, .unset, .unset, .unset, .unset, .unset, .unset] [(.int c17), (.int (6 : Int32)), (.ref b4)]))
  obtain ⟨cl18, Ar18, ak18, as18, an18, ah18, ag18⟩ := id V_b4
  have hin18 := inb_of as18 (j := (6 : Int32)) ⟨by decide, by decide⟩
  obtain ⟨T18, h18, X18, e18, W18, st18⟩ := stC X17 hx hZ e17 Ar18 (j := (6 : Int32)) hin18 (g := (mkF m 69 #[.val (.int p0), .val (.int p1), .val (.int p2), .val (.int p3), .val (.int p4), .val (.int p5), .val (.ref b4), .unset, .unset, .unset, .unset, .unset, .unset, .unset] [(.int c17), (.int (6 : Int32)), (.ref b4)])) rfl rfl (hb hby at_69)
  have W18' : Wr _ _ _ _ (.int c17) := hq17 ▸ W18
  have O0 := O0.wr W18' g_b4
  have V_b4 := (Arv.set Ar18 ak18 as18 an18 ah18 ag18 (hq17 ▸ (fits_nar_char _)) W18' 6 rfl (Nat.le_of_ble_eq_true rfl) : Arv Z h18 b4 k4 .char (16 : Int32) [(.int c5), (.int c7), (.int c9), (.int c11), (.int c13), (.int c15), (.int c17), (.int (0 : Int32)), (.int (0 : Int32)), (.int (0 : Int32)), (.int (0 : Int32)), (.int (0 : Int32)), (.int (0 : Int32)), (.int (0 : Int32)), (.int (0 : Int32)), (.int (0 : Int32))] (.int (0 : Int32)))
  have N18 := Fr.snoc X18 N17 g_b4
  refine go st18 ?_
  show Run p e below _ (T18.setTop (mkF m 70 #[.val (.int p0), .val (.int p1), .val (.int p2), .val (.int p3), .val (.int p4), .val (.int p5), .val (.ref b4), .unset, .unset, .unset, .unset, .unset, .unset, .unset] []))
  refine go (fun _ => XS.aload X18.here hx rfl (hb hby at_70) rfl rfl) ?_
  show Run p e below _ (T18.setTop (mkF m 72 #[.val (.int p0), .val (.int p1), .val (.int p2), .val (.int p3), .val (.int p4), .val (.int p5), .val (.ref b4), .unset, .unset, .unset, .unset, .unset, .unset, .unset] [(.ref b4)]))
  refine go (fun _ => XS.bipush X18.here hx rfl (hb hby at_72)) ?_
  show Run p e below _ (T18.setTop (mkF m 74 #[.val (.int p0), .val (.int p1), .val (.int p2), .val (.int p3), .val (.int p4), .val (.int p5), .val (.ref b4), .unset, .unset, .unset, .unset, .unset, .unset, .unset] [(.int (7 : Int32)), (.ref b4)]))
  refine go (fun _ => XS.iloadN X18.here hx rfl (hb hby at_74) rfl) ?_
  show Run p e below _ (T18.setTop (mkF m 75 #[.val (.int p0), .val (.int p1), .val (.int p2), .val (.int p3), .val (.int p4), .val (.int p5), .val (.ref b4), .unset, .unset, .unset, .unset, .unset, .unset, .unset] [(.int p1), (.int (7 : Int32)), (.ref b4)]))
  refine go (fun _ => XS.iconst X18.here hx rfl (hb hby at_75)) ?_
  show Run p e below _ (T18.setTop (mkF m 76 #[.val (.int p0), .val (.int p1), .val (.int p2), .val (.int p3), .val (.int p4), .val (.int p5), .val (.ref b4), .unset, .unset, .unset, .unset, .unset, .unset, .unset] [(.int (3 : Int32)), (.int p1), (.int (7 : Int32)), (.ref b4)]))
  refine callSt X18 hx hZ hown (wd hw 1 rfl) (wd hw 2 rfl) (wd hw 3 rfl) (wd hw 4 rfl) (by decide) e18 (argsL := [(.int p1), (.int (3 : Int32))]) (rest := [(.int (7 : Int32)), (.ref b4)]) (rm_ch l Z a0 hw [] p1 (3 : Int32) h18 n0 O0) (W := 2) (by decide) (by decide) (by decide) (by decide) (by rw [hml]; rfl) (lenOf pd_1 rfl) rfl (Nat.le_of_eq rfl) (hb hby at_76) ?_
  intro v19 T19 L19 h19 X19 e19 q19
  obtain ⟨rv, n19, k19⟩ := q19
  replace rv : v19 = some (.int (chV p1 (3 : Int32))) := rv
  subst rv
  have e19 := e19.trans k19
  have N19 := Fr.app N18 n19
  obtain ⟨c19, hc19⟩ : ∃ c, c = chV p1 (3 : Int32) := ⟨_, rfl⟩
  have hm19 : ¬ c19 < 0 ∧ ¬ (255 : Int32) < c19 := hc19 ▸ own_m7 _
  have hq19 : nar .char c19 = c19 := hc19 ▸ own_n7 _
  rw [← hc19]
  show Run p e below _ (T19.setTop (mkF m 79 #[.val (.int p0), .val (.int p1), .val (.int p2), .val (.int p3), .val (.int p4), .val (.int p5), .val (.ref b4), .unset, .unset, .unset, .unset, .unset, .unset, .unset] [(.int c19), (.int (7 : Int32)), (.ref b4)]))
  obtain ⟨cl20, Ar20, ak20, as20, an20, ah20, ag20⟩ := id V_b4
  have hin20 := inb_of as20 (j := (7 : Int32)) ⟨by decide, by decide⟩
  obtain ⟨T20, h20, X20, e20, W20, st20⟩ := stC X19 hx hZ e19 Ar20 (j := (7 : Int32)) hin20 (g := (mkF m 79 #[.val (.int p0), .val (.int p1), .val (.int p2), .val (.int p3), .val (.int p4), .val (.int p5), .val (.ref b4), .unset, .unset, .unset, .unset, .unset, .unset, .unset] [(.int c19), (.int (7 : Int32)), (.ref b4)])) rfl rfl (hb hby at_79)
  have W20' : Wr _ _ _ _ (.int c19) := hq19 ▸ W20
  have O0 := O0.wr W20' g_b4
  have V_b4 := (Arv.set Ar20 ak20 as20 an20 ah20 ag20 (hq19 ▸ (fits_nar_char _)) W20' 7 rfl (Nat.le_of_ble_eq_true rfl) : Arv Z h20 b4 k4 .char (16 : Int32) [(.int c5), (.int c7), (.int c9), (.int c11), (.int c13), (.int c15), (.int c17), (.int c19), (.int (0 : Int32)), (.int (0 : Int32)), (.int (0 : Int32)), (.int (0 : Int32)), (.int (0 : Int32)), (.int (0 : Int32)), (.int (0 : Int32)), (.int (0 : Int32))] (.int (0 : Int32)))
  have N20 := Fr.snoc X20 N19 g_b4
  refine go st20 ?_
  show Run p e below _ (T20.setTop (mkF m 80 #[.val (.int p0), .val (.int p1), .val (.int p2), .val (.int p3), .val (.int p4), .val (.int p5), .val (.ref b4), .unset, .unset, .unset, .unset, .unset, .unset, .unset] []))
  refine go (fun _ => XS.aload X20.here hx rfl (hb hby at_80) rfl rfl) ?_
  show Run p e below _ (T20.setTop (mkF m 82 #[.val (.int p0), .val (.int p1), .val (.int p2), .val (.int p3), .val (.int p4), .val (.int p5), .val (.ref b4), .unset, .unset, .unset, .unset, .unset, .unset, .unset] [(.ref b4)]))
  refine go (fun _ => XS.bipush X20.here hx rfl (hb hby at_82)) ?_
  show Run p e below _ (T20.setTop (mkF m 84 #[.val (.int p0), .val (.int p1), .val (.int p2), .val (.int p3), .val (.int p4), .val (.int p5), .val (.ref b4), .unset, .unset, .unset, .unset, .unset, .unset, .unset] [(.int (8 : Int32)), (.ref b4)]))
  refine go (fun _ => XS.iloadN X20.here hx rfl (hb hby at_84) rfl) ?_
  show Run p e below _ (T20.setTop (mkF m 85 #[.val (.int p0), .val (.int p1), .val (.int p2), .val (.int p3), .val (.int p4), .val (.int p5), .val (.ref b4), .unset, .unset, .unset, .unset, .unset, .unset, .unset] [(.int p2), (.int (8 : Int32)), (.ref b4)]))
  refine go (fun _ => XS.iconst X20.here hx rfl (hb hby at_85)) ?_
  show Run p e below _ (T20.setTop (mkF m 86 #[.val (.int p0), .val (.int p1), .val (.int p2), .val (.int p3), .val (.int p4), .val (.int p5), .val (.ref b4), .unset, .unset, .unset, .unset, .unset, .unset, .unset] [(.int (0 : Int32)), (.int p2), (.int (8 : Int32)), (.ref b4)]))
  refine callSt X20 hx hZ hown (wd hw 1 rfl) (wd hw 2 rfl) (wd hw 3 rfl) (wd hw 4 rfl) (by decide) e20 (argsL := [(.int p2), (.int (0 : Int32))]) (rest := [(.int (8 : Int32)), (.ref b4)]) (rm_ch l Z a0 hw [] p2 (0 : Int32) h20 n0 O0) (W := 2) (by decide) (by decide) (by decide) (by decide) (by rw [hml]; rfl) (lenOf pd_1 rfl) rfl (Nat.le_of_eq rfl) (hb hby at_86) ?_
  intro v21 T21 L21 h21 X21 e21 q21
  obtain ⟨rv, n21, k21⟩ := q21
  replace rv : v21 = some (.int (chV p2 (0 : Int32))) := rv
  subst rv
  have e21 := e21.trans k21
  have N21 := Fr.app N20 n21
  obtain ⟨c21, hc21⟩ : ∃ c, c = chV p2 (0 : Int32) := ⟨_, rfl⟩
  have hm21 : ¬ c21 < 0 ∧ ¬ (255 : Int32) < c21 := hc21 ▸ own_m7 _
  have hq21 : nar .char c21 = c21 := hc21 ▸ own_n7 _
  rw [← hc21]
  show Run p e below _ (T21.setTop (mkF m 89 #[.val (.int p0), .val (.int p1), .val (.int p2), .val (.int p3), .val (.int p4), .val (.int p5), .val (.ref b4), .unset, .unset, .unset, .unset, .unset, .unset, .unset] [(.int c21), (.int (8 : Int32)), (.ref b4)]))
  obtain ⟨cl22, Ar22, ak22, as22, an22, ah22, ag22⟩ := id V_b4
  have hin22 := inb_of as22 (j := (8 : Int32)) ⟨by decide, by decide⟩
  obtain ⟨T22, h22, X22, e22, W22, st22⟩ := stC X21 hx hZ e21 Ar22 (j := (8 : Int32)) hin22 (g := (mkF m 89 #[.val (.int p0), .val (.int p1), .val (.int p2), .val (.int p3), .val (.int p4), .val (.int p5), .val (.ref b4), .unset, .unset, .unset, .unset, .unset, .unset, .unset] [(.int c21), (.int (8 : Int32)), (.ref b4)])) rfl rfl (hb hby at_89)
  have W22' : Wr _ _ _ _ (.int c21) := hq21 ▸ W22
  have O0 := O0.wr W22' g_b4
  have V_b4 := (Arv.set Ar22 ak22 as22 an22 ah22 ag22 (hq21 ▸ (fits_nar_char _)) W22' 8 rfl (Nat.le_of_ble_eq_true rfl) : Arv Z h22 b4 k4 .char (16 : Int32) [(.int c5), (.int c7), (.int c9), (.int c11), (.int c13), (.int c15), (.int c17), (.int c19), (.int c21), (.int (0 : Int32)), (.int (0 : Int32)), (.int (0 : Int32)), (.int (0 : Int32)), (.int (0 : Int32)), (.int (0 : Int32)), (.int (0 : Int32))] (.int (0 : Int32)))
  have N22 := Fr.snoc X22 N21 g_b4
  refine go st22 ?_
  show Run p e below _ (T22.setTop (mkF m 90 #[.val (.int p0), .val (.int p1), .val (.int p2), .val (.int p3), .val (.int p4), .val (.int p5), .val (.ref b4), .unset, .unset, .unset, .unset, .unset, .unset, .unset] []))
  refine go (fun _ => XS.aload X22.here hx rfl (hb hby at_90) rfl rfl) ?_
  show Run p e below _ (T22.setTop (mkF m 92 #[.val (.int p0), .val (.int p1), .val (.int p2), .val (.int p3), .val (.int p4), .val (.int p5), .val (.ref b4), .unset, .unset, .unset, .unset, .unset, .unset, .unset] [(.ref b4)]))
  refine go (fun _ => XS.bipush X22.here hx rfl (hb hby at_92)) ?_
  show Run p e below _ (T22.setTop (mkF m 94 #[.val (.int p0), .val (.int p1), .val (.int p2), .val (.int p3), .val (.int p4), .val (.int p5), .val (.ref b4), .unset, .unset, .unset, .unset, .unset, .unset, .unset] [(.int (9 : Int32)), (.ref b4)]))
  refine go (fun _ => XS.iloadN X22.here hx rfl (hb hby at_94) rfl) ?_
  show Run p e below _ (T22.setTop (mkF m 95 #[.val (.int p0), .val (.int p1), .val (.int p2), .val (.int p3), .val (.int p4), .val (.int p5), .val (.ref b4), .unset, .unset, .unset, .unset, .unset, .unset, .unset] [(.int p2), (.int (9 : Int32)), (.ref b4)]))
  refine go (fun _ => XS.iconst X22.here hx rfl (hb hby at_95)) ?_
  show Run p e below _ (T22.setTop (mkF m 96 #[.val (.int p0), .val (.int p1), .val (.int p2), .val (.int p3), .val (.int p4), .val (.int p5), .val (.ref b4), .unset, .unset, .unset, .unset, .unset, .unset, .unset] [(.int (1 : Int32)), (.int p2), (.int (9 : Int32)), (.ref b4)]))
  refine callSt X22 hx hZ hown (wd hw 1 rfl) (wd hw 2 rfl) (wd hw 3 rfl) (wd hw 4 rfl) (by decide) e22 (argsL := [(.int p2), (.int (1 : Int32))]) (rest := [(.int (9 : Int32)), (.ref b4)]) (rm_ch l Z a0 hw [] p2 (1 : Int32) h22 n0 O0) (W := 2) (by decide) (by decide) (by decide) (by decide) (by rw [hml]; rfl) (lenOf pd_1 rfl) rfl (Nat.le_of_eq rfl) (hb hby at_96) ?_
  intro v23 T23 L23 h23 X23 e23 q23
  obtain ⟨rv, n23, k23⟩ := q23
  replace rv : v23 = some (.int (chV p2 (1 : Int32))) := rv
  subst rv
  have e23 := e23.trans k23
  have N23 := Fr.app N22 n23
  obtain ⟨c23, hc23⟩ : ∃ c, c = chV p2 (1 : Int32) := ⟨_, rfl⟩
  have hm23 : ¬ c23 < 0 ∧ ¬ (255 : Int32) < c23 := hc23 ▸ own_m7 _
  have hq23 : nar .char c23 = c23 := hc23 ▸ own_n7 _
  rw [← hc23]
  show Run p e below _ (T23.setTop (mkF m 99 #[.val (.int p0), .val (.int p1), .val (.int p2), .val (.int p3), .val (.int p4), .val (.int p5), .val (.ref b4), .unset, .unset, .unset, .unset, .unset, .unset, .unset] [(.int c23), (.int (9 : Int32)), (.ref b4)]))
  obtain ⟨cl24, Ar24, ak24, as24, an24, ah24, ag24⟩ := id V_b4
  have hin24 := inb_of as24 (j := (9 : Int32)) ⟨by decide, by decide⟩
  obtain ⟨T24, h24, X24, e24, W24, st24⟩ := stC X23 hx hZ e23 Ar24 (j := (9 : Int32)) hin24 (g := (mkF m 99 #[.val (.int p0), .val (.int p1), .val (.int p2), .val (.int p3), .val (.int p4), .val (.int p5), .val (.ref b4), .unset, .unset, .unset, .unset, .unset, .unset, .unset] [(.int c23), (.int (9 : Int32)), (.ref b4)])) rfl rfl (hb hby at_99)
  have W24' : Wr _ _ _ _ (.int c23) := hq23 ▸ W24
  have O0 := O0.wr W24' g_b4
  have V_b4 := (Arv.set Ar24 ak24 as24 an24 ah24 ag24 (hq23 ▸ (fits_nar_char _)) W24' 9 rfl (Nat.le_of_ble_eq_true rfl) : Arv Z h24 b4 k4 .char (16 : Int32) [(.int c5), (.int c7), (.int c9), (.int c11), (.int c13), (.int c15), (.int c17), (.int c19), (.int c21), (.int c23), (.int (0 : Int32)), (.int (0 : Int32)), (.int (0 : Int32)), (.int (0 : Int32)), (.int (0 : Int32)), (.int (0 : Int32))] (.int (0 : Int32)))
  have N24 := Fr.snoc X24 N23 g_b4
  refine go st24 ?_
  show Run p e below _ (T24.setTop (mkF m 100 #[.val (.int p0), .val (.int p1), .val (.int p2), .val (.int p3), .val (.int p4), .val (.int p5), .val (.ref b4), .unset, .unset, .unset, .unset, .unset, .unset, .unset] []))
  refine go (fun _ => XS.aload X24.here hx rfl (hb hby at_100) rfl rfl) ?_
  show Run p e below _ (T24.setTop (mkF m 102 #[.val (.int p0), .val (.int p1), .val (.int p2), .val (.int p3), .val (.int p4), .val (.int p5), .val (.ref b4), .unset, .unset, .unset, .unset, .unset, .unset, .unset] [(.ref b4)]))
  refine go (fun _ => XS.bipush X24.here hx rfl (hb hby at_102)) ?_
  show Run p e below _ (T24.setTop (mkF m 104 #[.val (.int p0), .val (.int p1), .val (.int p2), .val (.int p3), .val (.int p4), .val (.int p5), .val (.ref b4), .unset, .unset, .unset, .unset, .unset, .unset, .unset] [(.int (10 : Int32)), (.ref b4)]))
  refine go (fun _ => XS.iloadN X24.here hx rfl (hb hby at_104) rfl) ?_
  show Run p e below _ (T24.setTop (mkF m 105 #[.val (.int p0), .val (.int p1), .val (.int p2), .val (.int p3), .val (.int p4), .val (.int p5), .val (.ref b4), .unset, .unset, .unset, .unset, .unset, .unset, .unset] [(.int p2), (.int (10 : Int32)), (.ref b4)]))
  refine go (fun _ => XS.iconst X24.here hx rfl (hb hby at_105)) ?_
  show Run p e below _ (T24.setTop (mkF m 106 #[.val (.int p0), .val (.int p1), .val (.int p2), .val (.int p3), .val (.int p4), .val (.int p5), .val (.ref b4), .unset, .unset, .unset, .unset, .unset, .unset, .unset] [(.int (2 : Int32)), (.int p2), (.int (10 : Int32)), (.ref b4)]))
  refine callSt X24 hx hZ hown (wd hw 1 rfl) (wd hw 2 rfl) (wd hw 3 rfl) (wd hw 4 rfl) (by decide) e24 (argsL := [(.int p2), (.int (2 : Int32))]) (rest := [(.int (10 : Int32)), (.ref b4)]) (rm_ch l Z a0 hw [] p2 (2 : Int32) h24 n0 O0) (W := 2) (by decide) (by decide) (by decide) (by decide) (by rw [hml]; rfl) (lenOf pd_1 rfl) rfl (Nat.le_of_eq rfl) (hb hby at_106) ?_
  intro v25 T25 L25 h25 X25 e25 q25
  obtain ⟨rv, n25, k25⟩ := q25
  replace rv : v25 = some (.int (chV p2 (2 : Int32))) := rv
  subst rv
  have e25 := e25.trans k25
  have N25 := Fr.app N24 n25
  obtain ⟨c25, hc25⟩ : ∃ c, c = chV p2 (2 : Int32) := ⟨_, rfl⟩
  have hm25 : ¬ c25 < 0 ∧ ¬ (255 : Int32) < c25 := hc25 ▸ own_m7 _
  have hq25 : nar .char c25 = c25 := hc25 ▸ own_n7 _
  rw [← hc25]
  show Run p e below _ (T25.setTop (mkF m 109 #[.val (.int p0), .val (.int p1), .val (.int p2), .val (.int p3), .val (.int p4), .val (.int p5), .val (.ref b4), .unset, .unset, .unset, .unset, .unset, .unset, .unset] [(.int c25), (.int (10 : Int32)), (.ref b4)]))
  obtain ⟨cl26, Ar26, ak26, as26, an26, ah26, ag26⟩ := id V_b4
  have hin26 := inb_of as26 (j := (10 : Int32)) ⟨by decide, by decide⟩
  obtain ⟨T26, h26, X26, e26, W26, st26⟩ := stC X25 hx hZ e25 Ar26 (j := (10 : Int32)) hin26 (g := (mkF m 109 #[.val (.int p0), .val (.int p1), .val (.int p2), .val (.int p3), .val (.int p4), .val (.int p5), .val (.ref b4), .unset, .unset, .unset, .unset, .unset, .unset, .unset] [(.int c25), (.int (10 : Int32)), (.ref b4)])) rfl rfl (hb hby at_109)
  have W26' : Wr _ _ _ _ (.int c25) := hq25 ▸ W26
  have O0 := O0.wr W26' g_b4
  have V_b4 := (Arv.set Ar26 ak26 as26 an26 ah26 ag26 (hq25 ▸ (fits_nar_char _)) W26' 10 rfl (Nat.le_of_ble_eq_true rfl) : Arv Z h26 b4 k4 .char (16 : Int32) [(.int c5), (.int c7), (.int c9), (.int c11), (.int c13), (.int c15), (.int c17), (.int c19), (.int c21), (.int c23), (.int c25), (.int (0 : Int32)), (.int (0 : Int32)), (.int (0 : Int32)), (.int (0 : Int32)), (.int (0 : Int32))] (.int (0 : Int32)))
  have N26 := Fr.snoc X26 N25 g_b4
  refine go st26 ?_
  show Run p e below _ (T26.setTop (mkF m 110 #[.val (.int p0), .val (.int p1), .val (.int p2), .val (.int p3), .val (.int p4), .val (.int p5), .val (.ref b4), .unset, .unset, .unset, .unset, .unset, .unset, .unset] []))
  refine go (fun _ => XS.aload X26.here hx rfl (hb hby at_110) rfl rfl) ?_
  show Run p e below _ (T26.setTop (mkF m 112 #[.val (.int p0), .val (.int p1), .val (.int p2), .val (.int p3), .val (.int p4), .val (.int p5), .val (.ref b4), .unset, .unset, .unset, .unset, .unset, .unset, .unset] [(.ref b4)]))
  refine go (fun _ => XS.bipush X26.here hx rfl (hb hby at_112)) ?_
  show Run p e below _ (T26.setTop (mkF m 114 #[.val (.int p0), .val (.int p1), .val (.int p2), .val (.int p3), .val (.int p4), .val (.int p5), .val (.ref b4), .unset, .unset, .unset, .unset, .unset, .unset, .unset] [(.int (11 : Int32)), (.ref b4)]))
  refine go (fun _ => XS.iloadN X26.here hx rfl (hb hby at_114) rfl) ?_
  show Run p e below _ (T26.setTop (mkF m 115 #[.val (.int p0), .val (.int p1), .val (.int p2), .val (.int p3), .val (.int p4), .val (.int p5), .val (.ref b4), .unset, .unset, .unset, .unset, .unset, .unset, .unset] [(.int p2), (.int (11 : Int32)), (.ref b4)]))
  refine go (fun _ => XS.iconst X26.here hx rfl (hb hby at_115)) ?_
  show Run p e below _ (T26.setTop (mkF m 116 #[.val (.int p0), .val (.int p1), .val (.int p2), .val (.int p3), .val (.int p4), .val (.int p5), .val (.ref b4), .unset, .unset, .unset, .unset, .unset, .unset, .unset] [(.int (3 : Int32)), (.int p2), (.int (11 : Int32)), (.ref b4)]))
  refine callSt X26 hx hZ hown (wd hw 1 rfl) (wd hw 2 rfl) (wd hw 3 rfl) (wd hw 4 rfl) (by decide) e26 (argsL := [(.int p2), (.int (3 : Int32))]) (rest := [(.int (11 : Int32)), (.ref b4)]) (rm_ch l Z a0 hw [] p2 (3 : Int32) h26 n0 O0) (W := 2) (by decide) (by decide) (by decide) (by decide) (by rw [hml]; rfl) (lenOf pd_1 rfl) rfl (Nat.le_of_eq rfl) (hb hby at_116) ?_
  intro v27 T27 L27 h27 X27 e27 q27
  obtain ⟨rv, n27, k27⟩ := q27
  replace rv : v27 = some (.int (chV p2 (3 : Int32))) := rv
  subst rv
  have e27 := e27.trans k27
  have N27 := Fr.app N26 n27
  obtain ⟨c27, hc27⟩ : ∃ c, c = chV p2 (3 : Int32) := ⟨_, rfl⟩
  have hm27 : ¬ c27 < 0 ∧ ¬ (255 : Int32) < c27 := hc27 ▸ own_m7 _
  have hq27 : nar .char c27 = c27 := hc27 ▸ own_n7 _
  rw [← hc27]
  show Run p e below _ (T27.setTop (mkF m 119 #[.val (.int p0), .val (.int p1), .val (.int p2), .val (.int p3), .val (.int p4), .val (.int p5), .val (.ref b4), .unset, .unset, .unset, .unset, .unset, .unset, .unset] [(.int c27), (.int (11 : Int32)), (.ref b4)]))
  obtain ⟨cl28, Ar28, ak28, as28, an28, ah28, ag28⟩ := id V_b4
  have hin28 := inb_of as28 (j := (11 : Int32)) ⟨by decide, by decide⟩
  obtain ⟨T28, h28, X28, e28, W28, st28⟩ := stC X27 hx hZ e27 Ar28 (j := (11 : Int32)) hin28 (g := (mkF m 119 #[.val (.int p0), .val (.int p1), .val (.int p2), .val (.int p3), .val (.int p4), .val (.int p5), .val (.ref b4), .unset, .unset, .unset, .unset, .unset, .unset, .unset] [(.int c27), (.int (11 : Int32)), (.ref b4)])) rfl rfl (hb hby at_119)
  have W28' : Wr _ _ _ _ (.int c27) := hq27 ▸ W28
  have O0 := O0.wr W28' g_b4
  have V_b4 := (Arv.set Ar28 ak28 as28 an28 ah28 ag28 (hq27 ▸ (fits_nar_char _)) W28' 11 rfl (Nat.le_of_ble_eq_true rfl) : Arv Z h28 b4 k4 .char (16 : Int32) [(.int c5), (.int c7), (.int c9), (.int c11), (.int c13), (.int c15), (.int c17), (.int c19), (.int c21), (.int c23), (.int c25), (.int c27), (.int (0 : Int32)), (.int (0 : Int32)), (.int (0 : Int32)), (.int (0 : Int32))] (.int (0 : Int32)))
  have N28 := Fr.snoc X28 N27 g_b4
  refine go st28 ?_
  show Run p e below _ (T28.setTop (mkF m 120 #[.val (.int p0), .val (.int p1), .val (.int p2), .val (.int p3), .val (.int p4), .val (.int p5), .val (.ref b4), .unset, .unset, .unset, .unset, .unset, .unset, .unset] []))
  refine go (fun _ => XS.aload X28.here hx rfl (hb hby at_120) rfl rfl) ?_
  show Run p e below _ (T28.setTop (mkF m 122 #[.val (.int p0), .val (.int p1), .val (.int p2), .val (.int p3), .val (.int p4), .val (.int p5), .val (.ref b4), .unset, .unset, .unset, .unset, .unset, .unset, .unset] [(.ref b4)]))
  refine go (fun _ => XS.bipush X28.here hx rfl (hb hby at_122)) ?_
  show Run p e below _ (T28.setTop (mkF m 124 #[.val (.int p0), .val (.int p1), .val (.int p2), .val (.int p3), .val (.int p4), .val (.int p5), .val (.ref b4), .unset, .unset, .unset, .unset, .unset, .unset, .unset] [(.int (12 : Int32)), (.ref b4)]))
  refine go (fun _ => XS.iloadN X28.here hx rfl (hb hby at_124) rfl) ?_
  show Run p e below _ (T28.setTop (mkF m 125 #[.val (.int p0), .val (.int p1), .val (.int p2), .val (.int p3), .val (.int p4), .val (.int p5), .val (.ref b4), .unset, .unset, .unset, .unset, .unset, .unset, .unset] [(.int p3), (.int (12 : Int32)), (.ref b4)]))
  refine go (fun _ => XS.iconst X28.here hx rfl (hb hby at_125)) ?_
  show Run p e below _ (T28.setTop (mkF m 126 #[.val (.int p0), .val (.int p1), .val (.int p2), .val (.int p3), .val (.int p4), .val (.int p5), .val (.ref b4), .unset, .unset, .unset, .unset, .unset, .unset, .unset] [(.int (0 : Int32)), (.int p3), (.int (12 : Int32)), (.ref b4)]))
  refine callSt X28 hx hZ hown (wd hw 1 rfl) (wd hw 2 rfl) (wd hw 3 rfl) (wd hw 4 rfl) (by decide) e28 (argsL := [(.int p3), (.int (0 : Int32))]) (rest := [(.int (12 : Int32)), (.ref b4)]) (rm_ch l Z a0 hw [] p3 (0 : Int32) h28 n0 O0) (W := 2) (by decide) (by decide) (by decide) (by decide) (by rw [hml]; rfl) (lenOf pd_1 rfl) rfl (Nat.le_of_eq rfl) (hb hby at_126) ?_
  intro v29 T29 L29 h29 X29 e29 q29
  obtain ⟨rv, n29, k29⟩ := q29
  replace rv : v29 = some (.int (chV p3 (0 : Int32))) := rv
  subst rv
  have e29 := e29.trans k29
  have N29 := Fr.app N28 n29
  obtain ⟨c29, hc29⟩ : ∃ c, c = chV p3 (0 : Int32) := ⟨_, rfl⟩
  have hm29 : ¬ c29 < 0 ∧ ¬ (255 : Int32) < c29 := hc29 ▸ own_m7 _
  have hq29 : nar .char c29 = c29 := hc29 ▸ own_n7 _
  rw [← hc29]
  show Run p e below _ (T29.setTop (mkF m 129 #[.val (.int p0), .val (.int p1), .val (.int p2), .val (.int p3), .val (.int p4), .val (.int p5), .val (.ref b4), .unset, .unset, .unset, .unset, .unset, .unset, .unset] [(.int c29), (.int (12 : Int32)), (.ref b4)]))
  obtain ⟨cl30, Ar30, ak30, as30, an30, ah30, ag30⟩ := id V_b4
  have hin30 := inb_of as30 (j := (12 : Int32)) ⟨by decide, by decide⟩
  obtain ⟨T30, h30, X30, e30, W30, st30⟩ := stC X29 hx hZ e29 Ar30 (j := (12 : Int32)) hin30 (g := (mkF m 129 #[.val (.int p0), .val (.int p1), .val (.int p2), .val (.int p3), .val (.int p4), .val (.int p5), .val (.ref b4), .unset, .unset, .unset, .unset, .unset, .unset, .unset] [(.int c29), (.int (12 : Int32)), (.ref b4)])) rfl rfl (hb hby at_129)
  have W30' : Wr _ _ _ _ (.int c29) := hq29 ▸ W30
  have O0 := O0.wr W30' g_b4
  have V_b4 := (Arv.set Ar30 ak30 as30 an30 ah30 ag30 (hq29 ▸ (fits_nar_char _)) W30' 12 rfl (Nat.le_of_ble_eq_true rfl) : Arv Z h30 b4 k4 .char (16 : Int32) [(.int c5), (.int c7), (.int c9), (.int c11), (.int c13), (.int c15), (.int c17), (.int c19), (.int c21), (.int c23), (.int c25), (.int c27), (.int c29), (.int (0 : Int32)), (.int (0 : Int32)), (.int (0 : Int32))] (.int (0 : Int32)))
  have N30 := Fr.snoc X30 N29 g_b4
  refine go st30 ?_
  show Run p e below _ (T30.setTop (mkF m 130 #[.val (.int p0), .val (.int p1), .val (.int p2), .val (.int p3), .val (.int p4), .val (.int p5), .val (.ref b4), .unset, .unset, .unset, .unset, .unset, .unset, .unset] []))
  refine go (fun _ => XS.aload X30.here hx rfl (hb hby at_130) rfl rfl) ?_
  show Run p e below _ (T30.setTop (mkF m 132 #[.val (.int p0), .val (.int p1), .val (.int p2), .val (.int p3), .val (.int p4), .val (.int p5), .val (.ref b4), .unset, .unset, .unset, .unset, .unset, .unset, .unset] [(.ref b4)]))
  refine go (fun _ => XS.bipush X30.here hx rfl (hb hby at_132)) ?_
  show Run p e below _ (T30.setTop (mkF m 134 #[.val (.int p0), .val (.int p1), .val (.int p2), .val (.int p3), .val (.int p4), .val (.int p5), .val (.ref b4), .unset, .unset, .unset, .unset, .unset, .unset, .unset] [(.int (13 : Int32)), (.ref b4)]))
  refine go (fun _ => XS.iloadN X30.here hx rfl (hb hby at_134) rfl) ?_
  show Run p e below _ (T30.setTop (mkF m 135 #[.val (.int p0), .val (.int p1), .val (.int p2), .val (.int p3), .val (.int p4), .val (.int p5), .val (.ref b4), .unset, .unset, .unset, .unset, .unset, .unset, .unset] [(.int p3), (.int (13 : Int32)), (.ref b4)]))
  refine go (fun _ => XS.iconst X30.here hx rfl (hb hby at_135)) ?_
  show Run p e below _ (T30.setTop (mkF m 136 #[.val (.int p0), .val (.int p1), .val (.int p2), .val (.int p3), .val (.int p4), .val (.int p5), .val (.ref b4), .unset, .unset, .unset, .unset, .unset, .unset, .unset] [(.int (1 : Int32)), (.int p3), (.int (13 : Int32)), (.ref b4)]))
  refine callSt X30 hx hZ hown (wd hw 1 rfl) (wd hw 2 rfl) (wd hw 3 rfl) (wd hw 4 rfl) (by decide) e30 (argsL := [(.int p3), (.int (1 : Int32))]) (rest := [(.int (13 : Int32)), (.ref b4)]) (rm_ch l Z a0 hw [] p3 (1 : Int32) h30 n0 O0) (W := 2) (by decide) (by decide) (by decide) (by decide) (by rw [hml]; rfl) (lenOf pd_1 rfl) rfl (Nat.le_of_eq rfl) (hb hby at_136) ?_
  intro v31 T31 L31 h31 X31 e31 q31
  obtain ⟨rv, n31, k31⟩ := q31
  replace rv : v31 = some (.int (chV p3 (1 : Int32))) := rv
  subst rv
  have e31 := e31.trans k31
  have N31 := Fr.app N30 n31
  obtain ⟨c31, hc31⟩ : ∃ c, c = chV p3 (1 : Int32) := ⟨_, rfl⟩
  have hm31 : ¬ c31 < 0 ∧ ¬ (255 : Int32) < c31 := hc31 ▸ own_m7 _
  have hq31 : nar .char c31 = c31 := hc31 ▸ own_n7 _
  rw [← hc31]
  show Run p e below _ (T31.setTop (mkF m 139 #[.val (.int p0), .val (.int p1), .val (.int p2), .val (.int p3), .val (.int p4), .val (.int p5), .val (.ref b4), .unset, .unset, .unset, .unset, .unset, .unset, .unset] [(.int c31), (.int (13 : Int32)), (.ref b4)]))
  obtain ⟨cl32, Ar32, ak32, as32, an32, ah32, ag32⟩ := id V_b4
  have hin32 := inb_of as32 (j := (13 : Int32)) ⟨by decide, by decide⟩
  obtain ⟨T32, h32, X32, e32, W32, st32⟩ := stC X31 hx hZ e31 Ar32 (j := (13 : Int32)) hin32 (g := (mkF m 139 #[.val (.int p0), .val (.int p1), .val (.int p2), .val (.int p3), .val (.int p4), .val (.int p5), .val (.ref b4), .unset, .unset, .unset, .unset, .unset, .unset, .unset] [(.int c31), (.int (13 : Int32)), (.ref b4)])) rfl rfl (hb hby at_139)
  have W32' : Wr _ _ _ _ (.int c31) := hq31 ▸ W32
  have O0 := O0.wr W32' g_b4
  have V_b4 := (Arv.set Ar32 ak32 as32 an32 ah32 ag32 (hq31 ▸ (fits_nar_char _)) W32' 13 rfl (Nat.le_of_ble_eq_true rfl) : Arv Z h32 b4 k4 .char (16 : Int32) [(.int c5), (.int c7), (.int c9), (.int c11), (.int c13), (.int c15), (.int c17), (.int c19), (.int c21), (.int c23), (.int c25), (.int c27), (.int c29), (.int c31), (.int (0 : Int32)), (.int (0 : Int32))] (.int (0 : Int32)))
  have N32 := Fr.snoc X32 N31 g_b4
  refine go st32 ?_
  show Run p e below _ (T32.setTop (mkF m 140 #[.val (.int p0), .val (.int p1), .val (.int p2), .val (.int p3), .val (.int p4), .val (.int p5), .val (.ref b4), .unset, .unset, .unset, .unset, .unset, .unset, .unset] []))
  refine go (fun _ => XS.aload X32.here hx rfl (hb hby at_140) rfl rfl) ?_
  show Run p e below _ (T32.setTop (mkF m 142 #[.val (.int p0), .val (.int p1), .val (.int p2), .val (.int p3), .val (.int p4), .val (.int p5), .val (.ref b4), .unset, .unset, .unset, .unset, .unset, .unset, .unset] [(.ref b4)]))
  refine go (fun _ => XS.bipush X32.here hx rfl (hb hby at_142)) ?_
  show Run p e below _ (T32.setTop (mkF m 144 #[.val (.int p0), .val (.int p1), .val (.int p2), .val (.int p3), .val (.int p4), .val (.int p5), .val (.ref b4), .unset, .unset, .unset, .unset, .unset, .unset, .unset] [(.int (14 : Int32)), (.ref b4)]))
  refine go (fun _ => XS.iloadN X32.here hx rfl (hb hby at_144) rfl) ?_
  show Run p e below _ (T32.setTop (mkF m 145 #[.val (.int p0), .val (.int p1), .val (.int p2), .val (.int p3), .val (.int p4), .val (.int p5), .val (.ref b4), .unset, .unset, .unset, .unset, .unset, .unset, .unset] [(.int p3), (.int (14 : Int32)), (.ref b4)]))
  refine go (fun _ => XS.iconst X32.here hx rfl (hb hby at_145)) ?_
  show Run p e below _ (T32.setTop (mkF m 146 #[.val (.int p0), .val (.int p1), .val (.int p2), .val (.int p3), .val (.int p4), .val (.int p5), .val (.ref b4), .unset, .unset, .unset, .unset, .unset, .unset, .unset] [(.int (2 : Int32)), (.int p3), (.int (14 : Int32)), (.ref b4)]))
  refine callSt X32 hx hZ hown (wd hw 1 rfl) (wd hw 2 rfl) (wd hw 3 rfl) (wd hw 4 rfl) (by decide) e32 (argsL := [(.int p3), (.int (2 : Int32))]) (rest := [(.int (14 : Int32)), (.ref b4)]) (rm_ch l Z a0 hw [] p3 (2 : Int32) h32 n0 O0) (W := 2) (by decide) (by decide) (by decide) (by decide) (by rw [hml]; rfl) (lenOf pd_1 rfl) rfl (Nat.le_of_eq rfl) (hb hby at_146) ?_
  intro v33 T33 L33 h33 X33 e33 q33
  obtain ⟨rv, n33, k33⟩ := q33
  replace rv : v33 = some (.int (chV p3 (2 : Int32))) := rv
  subst rv
  have e33 := e33.trans k33
  have N33 := Fr.app N32 n33
  obtain ⟨c33, hc33⟩ : ∃ c, c = chV p3 (2 : Int32) := ⟨_, rfl⟩
  have hm33 : ¬ c33 < 0 ∧ ¬ (255 : Int32) < c33 := hc33 ▸ own_m7 _
  have hq33 : nar .char c33 = c33 := hc33 ▸ own_n7 _
  rw [← hc33]
  show Run p e below _ (T33.setTop (mkF m 149 #[.val (.int p0), .val (.int p1), .val (.int p2), .val (.int p3), .val (.int p4), .val (.int p5), .val (.ref b4), .unset, .unset, .unset, .unset, .unset, .unset, .unset] [(.int c33), (.int (14 : Int32)), (.ref b4)]))
  obtain ⟨cl34, Ar34, ak34, as34, an34, ah34, ag34⟩ := id V_b4
  have hin34 := inb_of as34 (j := (14 : Int32)) ⟨by decide, by decide⟩
  obtain ⟨T34, h34, X34, e34, W34, st34⟩ := stC X33 hx hZ e33 Ar34 (j := (14 : Int32)) hin34 (g := (mkF m 149 #[.val (.int p0), .val (.int p1), .val (.int p2), .val (.int p3), .val (.int p4), .val (.int p5), .val (.ref b4), .unset, .unset, .unset, .unset, .unset, .unset, .unset] [(.int c33), (.int (14 : Int32)), (.ref b4)])) rfl rfl (hb hby at_149)
  have W34' : Wr _ _ _ _ (.int c33) := hq33 ▸ W34
  have O0 := O0.wr W34' g_b4
  have V_b4 := (Arv.set Ar34 ak34 as34 an34 ah34 ag34 (hq33 ▸ (fits_nar_char _)) W34' 14 rfl (Nat.le_of_ble_eq_true rfl) : Arv Z h34 b4 k4 .char (16 : Int32) [(.int c5), (.int c7), (.int c9), (.int c11), (.int c13), (.int c15), (.int c17), (.int c19), (.int c21), (.int c23), (.int c25), (.int c27), (.int c29), (.int c31), (.int c33), (.int (0 : Int32))] (.int (0 : Int32)))
  have N34 := Fr.snoc X34 N33 g_b4
  refine go st34 ?_
  show Run p e below _ (T34.setTop (mkF m 150 #[.val (.int p0), .val (.int p1), .val (.int p2), .val (.int p3), .val (.int p4), .val (.int p5), .val (.ref b4), .unset, .unset, .unset, .unset, .unset, .unset, .unset] []))
  refine go (fun _ => XS.aload X34.here hx rfl (hb hby at_150) rfl rfl) ?_
  show Run p e below _ (T34.setTop (mkF m 152 #[.val (.int p0), .val (.int p1), .val (.int p2), .val (.int p3), .val (.int p4), .val (.int p5), .val (.ref b4), .unset, .unset, .unset, .unset, .unset, .unset, .unset] [(.ref b4)]))
  refine go (fun _ => XS.bipush X34.here hx rfl (hb hby at_152)) ?_
  show Run p e below _ (T34.setTop (mkF m 154 #[.val (.int p0), .val (.int p1), .val (.int p2), .val (.int p3), .val (.int p4), .val (.int p5), .val (.ref b4), .unset, .unset, .unset, .unset, .unset, .unset, .unset] [(.int (15 : Int32)), (.ref b4)]))
  refine go (fun _ => XS.iloadN X34.here hx rfl (hb hby at_154) rfl) ?_
  show Run p e below _ (T34.setTop (mkF m 155 #[.val (.int p0), .val (.int p1), .val (.int p2), .val (.int p3), .val (.int p4), .val (.int p5), .val (.ref b4), .unset, .unset, .unset, .unset, .unset, .unset, .unset] [(.int p3), (.int (15 : Int32)), (.ref b4)]))
  refine go (fun _ => XS.iconst X34.here hx rfl (hb hby at_155)) ?_
  show Run p e below _ (T34.setTop (mkF m 156 #[.val (.int p0), .val (.int p1), .val (.int p2), .val (.int p3), .val (.int p4), .val (.int p5), .val (.ref b4), .unset, .unset, .unset, .unset, .unset, .unset, .unset] [(.int (3 : Int32)), (.int p3), (.int (15 : Int32)), (.ref b4)]))
  refine callSt X34 hx hZ hown (wd hw 1 rfl) (wd hw 2 rfl) (wd hw 3 rfl) (wd hw 4 rfl) (by decide) e34 (argsL := [(.int p3), (.int (3 : Int32))]) (rest := [(.int (15 : Int32)), (.ref b4)]) (rm_ch l Z a0 hw [] p3 (3 : Int32) h34 n0 O0) (W := 2) (by decide) (by decide) (by decide) (by decide) (by rw [hml]; rfl) (lenOf pd_1 rfl) rfl (Nat.le_of_eq rfl) (hb hby at_156) ?_
  intro v35 T35 L35 h35 X35 e35 q35
  obtain ⟨rv, n35, k35⟩ := q35
  replace rv : v35 = some (.int (chV p3 (3 : Int32))) := rv
  subst rv
  have e35 := e35.trans k35
  have N35 := Fr.app N34 n35
  obtain ⟨c35, hc35⟩ : ∃ c, c = chV p3 (3 : Int32) := ⟨_, rfl⟩
  have hm35 : ¬ c35 < 0 ∧ ¬ (255 : Int32) < c35 := hc35 ▸ own_m7 _
  have hq35 : nar .char c35 = c35 := hc35 ▸ own_n7 _
  rw [← hc35]
  show Run p e below _ (T35.setTop (mkF m 159 #[.val (.int p0), .val (.int p1), .val (.int p2), .val (.int p3), .val (.int p4), .val (.int p5), .val (.ref b4), .unset, .unset, .unset, .unset, .unset, .unset, .unset] [(.int c35), (.int (15 : Int32)), (.ref b4)]))
  obtain ⟨cl36, Ar36, ak36, as36, an36, ah36, ag36⟩ := id V_b4
  have hin36 := inb_of as36 (j := (15 : Int32)) ⟨by decide, by decide⟩
  obtain ⟨T36, h36, X36, e36, W36, st36⟩ := stC X35 hx hZ e35 Ar36 (j := (15 : Int32)) hin36 (g := (mkF m 159 #[.val (.int p0), .val (.int p1), .val (.int p2), .val (.int p3), .val (.int p4), .val (.int p5), .val (.ref b4), .unset, .unset, .unset, .unset, .unset, .unset, .unset] [(.int c35), (.int (15 : Int32)), (.ref b4)])) rfl rfl (hb hby at_159)
  have W36' : Wr _ _ _ _ (.int c35) := hq35 ▸ W36
  have O0 := O0.wr W36' g_b4
  have V_b4 := (Arv.set Ar36 ak36 as36 an36 ah36 ag36 (hq35 ▸ (fits_nar_char _)) W36' 15 rfl (Nat.le_of_ble_eq_true rfl) : Arv Z h36 b4 k4 .char (16 : Int32) [(.int c5), (.int c7), (.int c9), (.int c11), (.int c13), (.int c15), (.int c17), (.int c19), (.int c21), (.int c23), (.int c25), (.int c27), (.int c29), (.int c31), (.int c33), (.int c35)] (.int (0 : Int32)))
  have N36 := Fr.snoc X36 N35 g_b4
  refine go st36 ?_
  show Run p e below _ (T36.setTop (mkF m 160 #[.val (.int p0), .val (.int p1), .val (.int p2), .val (.int p3), .val (.int p4), .val (.int p5), .val (.ref b4), .unset, .unset, .unset, .unset, .unset, .unset, .unset] []))
  refine go (fun _ => XS.iload X36.here hx rfl (hb hby at_160) rfl) ?_
  show Run p e below _ (T36.setTop (mkF m 162 #[.val (.int p0), .val (.int p1), .val (.int p2), .val (.int p3), .val (.int p4), .val (.int p5), .val (.ref b4), .unset, .unset, .unset, .unset, .unset, .unset, .unset] [(.int p4)]))
  refine go (fun _ => X36.ldcI hx hown (mvT hZ (wd hw 5 rfl)) rfl (hb hby at_162)) ?_
  show Run p e below _ (T36.setTop (mkF m 164 #[.val (.int p0), .val (.int p1), .val (.int p2), .val (.int p3), .val (.int p4), .val (.int p5), .val (.ref b4), .unset, .unset, .unset, .unset, .unset, .unset, .unset] [(.int (2147483647 : Int32)), (.int p4)]))
  refine go (fun _ => XS.iand X36.here hx rfl (hb hby at_164) rfl) ?_
  show Run p e below _ (T36.setTop (mkF m 165 #[.val (.int p0), .val (.int p1), .val (.int p2), .val (.int p3), .val (.int p4), .val (.int p5), .val (.ref b4), .unset, .unset, .unset, .unset, .unset, .unset, .unset] [(.int (p4 &&& (2147483647 : Int32)))]))
  refine go (fun _ => XS.bipush X36.here hx rfl (hb hby at_165)) ?_
  show Run p e below _ (T36.setTop (mkF m 167 #[.val (.int p0), .val (.int p1), .val (.int p2), .val (.int p3), .val (.int p4), .val (.int p5), .val (.ref b4), .unset, .unset, .unset, .unset, .unset, .unset, .unset] [(.int (9 : Int32)), (.int (p4 &&& (2147483647 : Int32)))]))
  refine go (fun _ => iremM X36 hx rfl (hb hby at_167) rfl (by decide)) ?_
  show Run p e below _ (T36.setTop (mkF m 168 #[.val (.int p0), .val (.int p1), .val (.int p2), .val (.int p3), .val (.int p4), .val (.int p5), .val (.ref b4), .unset, .unset, .unset, .unset, .unset, .unset, .unset] [(.int ((p4 &&& (2147483647 : Int32)) % (9 : Int32)))]))
  obtain ⟨f, hf, ef⟩ := own_mod p4
  rw [ef]
  show Run p e below _ (T36.setTop (mkF m 168 #[.val (.int p0), .val (.int p1), .val (.int p2), .val (.int p3), .val (.int p4), .val (.int p5), .val (.ref b4), .unset, .unset, .unset, .unset, .unset, .unset, .unset] [(.int (Int32.ofNat f))]))
  refine go (fun _ => XS.istore X36.here hx rfl (hb hby at_168) rfl (l' := #[.val (.int p0), .val (.int p1), .val (.int p2), .val (.int p3), .val (.int p4), .val (.int p5), .val (.ref b4), .val (.int (Int32.ofNat f)), .unset, .unset, .unset, .unset, .unset, .unset]) rfl) ?_
  show Run p e below _ (T36.setTop (mkF m 170 #[.val (.int p0), .val (.int p1), .val (.int p2), .val (.int p3), .val (.int p4), .val (.int p5), .val (.ref b4), .val (.int (Int32.ofNat f)), .unset, .unset, .unset, .unset, .unset, .unset] []))
  refine go (fun _ => XS.iload X36.here hx rfl (hb hby at_170) rfl) ?_
  show Run p e below _ (T36.setTop (mkF m 172 #[.val (.int p0), .val (.int p1), .val (.int p2), .val (.int p3), .val (.int p4), .val (.int p5), .val (.ref b4), .val (.int (Int32.ofNat f)), .unset, .unset, .unset, .unset, .unset, .unset] [(.int p5)]))
  refine go (fun _ => X36.ldcI hx hown (mvT hZ (wd hw 5 rfl)) rfl (hb hby at_172)) ?_
  show Run p e below _ (T36.setTop (mkF m 174 #[.val (.int p0), .val (.int p1), .val (.int p2), .val (.int p3), .val (.int p4), .val (.int p5), .val (.ref b4), .val (.int (Int32.ofNat f)), .unset, .unset, .unset, .unset, .unset, .unset] [(.int (2147483647 : Int32)), (.int p5)]))
  refine go (fun _ => XS.iand X36.here hx rfl (hb hby at_174) rfl) ?_
  show Run p e below _ (T36.setTop (mkF m 175 #[.val (.int p0), .val (.int p1), .val (.int p2), .val (.int p3), .val (.int p4), .val (.int p5), .val (.ref b4), .val (.int (Int32.ofNat f)), .unset, .unset, .unset, .unset, .unset, .unset] [(.int (p5 &&& (2147483647 : Int32)))]))
  refine go (fun _ => XS.bipush X36.here hx rfl (hb hby at_175)) ?_
  show Run p e below _ (T36.setTop (mkF m 177 #[.val (.int p0), .val (.int p1), .val (.int p2), .val (.int p3), .val (.int p4), .val (.int p5), .val (.ref b4), .val (.int (Int32.ofNat f)), .unset, .unset, .unset, .unset, .unset, .unset] [(.int (9 : Int32)), (.int (p5 &&& (2147483647 : Int32)))]))
  refine go (fun _ => iremM X36 hx rfl (hb hby at_177) rfl (by decide)) ?_
  show Run p e below _ (T36.setTop (mkF m 178 #[.val (.int p0), .val (.int p1), .val (.int p2), .val (.int p3), .val (.int p4), .val (.int p5), .val (.ref b4), .val (.int (Int32.ofNat f)), .unset, .unset, .unset, .unset, .unset, .unset] [(.int ((p5 &&& (2147483647 : Int32)) % (9 : Int32)))]))
  obtain ⟨n, hn, en⟩ := own_mod p5
  rw [en]
  show Run p e below _ (T36.setTop (mkF m 178 #[.val (.int p0), .val (.int p1), .val (.int p2), .val (.int p3), .val (.int p4), .val (.int p5), .val (.ref b4), .val (.int (Int32.ofNat f)), .unset, .unset, .unset, .unset, .unset, .unset] [(.int (Int32.ofNat n))]))
  refine go (fun _ => XS.istore X36.here hx rfl (hb hby at_178) rfl (l' := #[.val (.int p0), .val (.int p1), .val (.int p2), .val (.int p3), .val (.int p4), .val (.int p5), .val (.ref b4), .val (.int (Int32.ofNat f)), .val (.int (Int32.ofNat n)), .unset, .unset, .unset, .unset, .unset]) rfl) ?_
  show Run p e below _ (T36.setTop (mkF m 180 #[.val (.int p0), .val (.int p1), .val (.int p2), .val (.int p3), .val (.int p4), .val (.int p5), .val (.ref b4), .val (.int (Int32.ofNat f)), .val (.int (Int32.ofNat n)), .unset, .unset, .unset, .unset, .unset] []))
  obtain ⟨T37, h37, X37, e37, E37, A37, D37, -, st37⟩ := newO X36 hx hZ hown (wd hw 6 rfl) (wd hw 7 rfl) (wd hw 8 rfl) e36 (g := (mkF m 180 #[.val (.int p0), .val (.int p1), .val (.int p2), .val (.int p3), .val (.int p4), .val (.int p5), .val (.ref b4), .val (.int (Int32.ofNat f)), .val (.int (Int32.ofNat n)), .unset, .unset, .unset, .unset, .unset] [])) rfl (hb hby at_180) (by decide) (by decide)
  obtain ⟨b37, y37⟩ : ∃ z, z = h36.size := ⟨_, rfl⟩
  rw [← y37] at A37 D37 st37
  have g_b37 : n0 ≤ b37 := y37.symm ▸ old_sz O0
  have ne_b4_b37 : b4 ≠ b37 := Nat.ne_of_lt (y37.symm ▸ V_b4.lt)
  have O0 := O0.ext E37
  have V_b4 := V_b4.ext E37
  have E_b37 := A37
  have F_coder_b37 : Fld Z h37 b37 "java/lang/String" "coder" "B" (.int (0 : Int32)) := D37 (Or.inr (wd hw 32 rfl)) (ty := .byte) (by decide)
  have F_value_b37 : Fld Z h37 b37 "java/lang/String" "value" "[B" .null := D37 (Or.inr (wd hw 34 rfl)) (ty := (.array .byte)) (by decide)
  refine go st37 ?_
  show Run p e below _ (T37.setTop (mkF m 183 #[.val (.int p0), .val (.int p1), .val (.int p2), .val (.int p3), .val (.int p4), .val (.int p5), .val (.ref b4), .val (.int (Int32.ofNat f)), .val (.int (Int32.ofNat n)), .unset, .unset, .unset, .unset, .unset] [(.ref b37)]))
  refine go (fun _ => XS.dup X37.here hx rfl (hb hby at_183) rfl rfl) ?_
  show Run p e below _ (T37.setTop (mkF m 184 #[.val (.int p0), .val (.int p1), .val (.int p2), .val (.int p3), .val (.int p4), .val (.int p5), .val (.ref b4), .val (.int (Int32.ofNat f)), .val (.int (Int32.ofNat n)), .unset, .unset, .unset, .unset, .unset] [(.ref b37), (.ref b37)]))
  refine go (fun _ => XS.aload X37.here hx rfl (hb hby at_184) rfl rfl) ?_
  show Run p e below _ (T37.setTop (mkF m 186 #[.val (.int p0), .val (.int p1), .val (.int p2), .val (.int p3), .val (.int p4), .val (.int p5), .val (.ref b4), .val (.int (Int32.ofNat f)), .val (.int (Int32.ofNat n)), .unset, .unset, .unset, .unset, .unset] [(.ref b4), (.ref b37), (.ref b37)]))
  have H8 : In8 [c5, c7, c9, c11, c13, c15, c17, c19, c21, c23, c25, c27, c29, c31, c33, c35] := (In8.cons hm5 (In8.cons hm7 (In8.cons hm9 (In8.cons hm11 (In8.cons hm13 (In8.cons hm15 (In8.cons hm17 (In8.cons hm19 (In8.cons hm21 (In8.cons hm23 (In8.cons hm25 (In8.cons hm27 (In8.cons hm29 (In8.cons hm31 (In8.cons hm33 (In8.cons hm35 In8.nil))))))))))))))))
  refine callSpK X37 hx hZ rfl hown (wd hw 9 rfl) (wd hw 10 rfl) (wd hw 11 rfl) (by decide) e37 (a := b37) (argsL := [(.ref b4)]) (rest := [(.ref b37)]) (W := 1) (payNew (n := 16) (cs := [c5, c7, c9, c11, c13, c15, c17, c19, c21, c23, c25, c27, c29, c31, c33, c35]) hZ hw (wd hw 7 rfl) O0 g_b37 E_b37 F_value_b37 F_coder_b37 V_b4 S_COMPACT_STRINGS hzc rfl rfl (by decide) (by decide) H8 (by decide) (by decide)) (by decide) (by decide) (by rw [hml]; rfl) (lenOf pd_2 rfl) rfl (Nat.le_of_eq rfl) (hb hby at_186) ?_
  intro v38 T38 L38 h38 X38 e38 q38
  have lt39_b4 := V_b4.lt
  have lt39_b37 := E_b37.lt
  obtain ⟨rfl, n38, K38, t38, kb38, gt38, sb38, nt38, T_b37⟩ := q38
  have ne_b4_t38 : b4 ≠ t38 := Nat.ne_of_lt (Nat.lt_of_lt_of_le lt39_b4 sb38)
  have ne_b37_t38 : b37 ≠ t38 := Nat.ne_of_lt (Nat.lt_of_lt_of_le lt39_b37 sb38)
  have O0 := O0.keep K38 (allS g_b37 all0)
  have V_b4 := V_b4.keep K38 (ninS ne_b4_b37 nin0)
  have N38 := Fr.app N36 n38
  show Run p e below _ (T38.setTop (mkF m 189 #[.val (.int p0), .val (.int p1), .val (.int p2), .val (.int p3), .val (.int p4), .val (.int p5), .val (.ref b4), .val (.int (Int32.ofNat f)), .val (.int (Int32.ofNat n)), .unset, .unset, .unset, .unset, .unset] [(.ref b37)]))
  refine go (fun _ => XS.astore X38.here hx rfl (hb hby at_189) rfl rfl (l' := #[.val (.int p0), .val (.int p1), .val (.int p2), .val (.int p3), .val (.int p4), .val (.int p5), .val (.ref b4), .val (.int (Int32.ofNat f)), .val (.int (Int32.ofNat n)), .val (.ref b37), .unset, .unset, .unset, .unset]) rfl) ?_
  show Run p e below _ (T38.setTop (mkF m 191 #[.val (.int p0), .val (.int p1), .val (.int p2), .val (.int p3), .val (.int p4), .val (.int p5), .val (.ref b4), .val (.int (Int32.ofNat f)), .val (.int (Int32.ofNat n)), .val (.ref b37), .unset, .unset, .unset, .unset] []))
  refine go (fun _ => XS.aload X38.here hx rfl (hb hby at_191) rfl rfl) ?_
  show Run p e below _ (T38.setTop (mkF m 193 #[.val (.int p0), .val (.int p1), .val (.int p2), .val (.int p3), .val (.int p4), .val (.int p5), .val (.ref b4), .val (.int (Int32.ofNat f)), .val (.int (Int32.ofNat n)), .val (.ref b37), .unset, .unset, .unset, .unset] [(.ref b37)]))
  refine go (fun _ => XS.iload X38.here hx rfl (hb hby at_193) rfl) ?_
  show Run p e below _ (T38.setTop (mkF m 195 #[.val (.int p0), .val (.int p1), .val (.int p2), .val (.int p3), .val (.int p4), .val (.int p5), .val (.ref b4), .val (.int (Int32.ofNat f)), .val (.int (Int32.ofNat n)), .val (.ref b37), .unset, .unset, .unset, .unset] [(.int (Int32.ofNat f)), (.ref b37)]))
  refine go (fun _ => XS.iload X38.here hx rfl (hb hby at_195) rfl) ?_
  show Run p e below _ (T38.setTop (mkF m 197 #[.val (.int p0), .val (.int p1), .val (.int p2), .val (.int p3), .val (.int p4), .val (.int p5), .val (.ref b4), .val (.int (Int32.ofNat f)), .val (.int (Int32.ofNat n)), .val (.ref b37), .unset, .unset, .unset, .unset] [(.int (Int32.ofNat n)), (.int (Int32.ofNat f)), (.ref b37)]))
  refine callSt X38 hx hZ hown (wd hw 35 rfl) (wd hw 36 rfl) (wd hw 37 rfl) (wd hw 38 rfl) (by decide) e38 (argsL := [(.ref b37), (.int (Int32.ofNat f)), (.int (Int32.ofNat n))]) (rest := []) (rm_le l Z a0 hw [] zc fm b37 t38 kb38 [c5, c7, c9, c11, c13, c15, c17, c19, c21, c23, c25, c27, c29, c31, c33, c35] f n h38 n0 O0 S_COMPACT_STRINGS S_SIOOBE_FORMATTER hzc hfm T_b37 H8 rfl hf hn) (W := 0) (by decide) (by decide) (by decide) (by decide) (by rw [hml]; rfl) (lenOf pd_3 rfl) rfl (Nat.le_of_eq rfl) (hb hby at_197) ?_
  intro v40 T40 L40 h40 X40 e40 q40
  obtain ⟨rv, n40, k40⟩ := q40
  replace rv : v40 = some (.long (leV (([c5, c7, c9, c11, c13, c15, c17, c19, c21, c23, c25, c27, c29, c31, c33, c35].drop f).take n))) := rv
  subst rv
  have e40 := e40.trans k40
  have N40 := Fr.app N38 n40
  show Run p e below _ (T40.setTop (mkF m 200 #[.val (.int p0), .val (.int p1), .val (.int p2), .val (.int p3), .val (.int p4), .val (.int p5), .val (.ref b4), .val (.int (Int32.ofNat f)), .val (.int (Int32.ofNat n)), .val (.ref b37), .unset, .unset, .unset, .unset] [(.long (leV (([c5, c7, c9, c11, c13, c15, c17, c19, c21, c23, c25, c27, c29, c31, c33, c35].drop f).take n)))]))
  refine go (fun _ => XS.lstore X40.here hx rfl (hb hby at_200) rfl (l' := #[.val (.int p0), .val (.int p1), .val (.int p2), .val (.int p3), .val (.int p4), .val (.int p5), .val (.ref b4), .val (.int (Int32.ofNat f)), .val (.int (Int32.ofNat n)), .val (.ref b37), .val (.long (leV (([c5, c7, c9, c11, c13, c15, c17, c19, c21, c23, c25, c27, c29, c31, c33, c35].drop f).take n))), .second, .unset, .unset]) rfl) ?_
  show Run p e below _ (T40.setTop (mkF m 202 #[.val (.int p0), .val (.int p1), .val (.int p2), .val (.int p3), .val (.int p4), .val (.int p5), .val (.ref b4), .val (.int (Int32.ofNat f)), .val (.int (Int32.ofNat n)), .val (.ref b37), .val (.long (leV (([c5, c7, c9, c11, c13, c15, c17, c19, c21, c23, c25, c27, c29, c31, c33, c35].drop f).take n))), .second, .unset, .unset] []))
  refine go (fun _ => XS.aload X40.here hx rfl (hb hby at_202) rfl rfl) ?_
  show Run p e below _ (T40.setTop (mkF m 204 #[.val (.int p0), .val (.int p1), .val (.int p2), .val (.int p3), .val (.int p4), .val (.int p5), .val (.ref b4), .val (.int (Int32.ofNat f)), .val (.int (Int32.ofNat n)), .val (.ref b37), .val (.long (leV (([c5, c7, c9, c11, c13, c15, c17, c19, c21, c23, c25, c27, c29, c31, c33, c35].drop f).take n))), .second, .unset, .unset] [(.ref b4)]))
  refine go (fun _ => XS.iload X40.here hx rfl (hb hby at_204) rfl) ?_
  show Run p e below _ (T40.setTop (mkF m 206 #[.val (.int p0), .val (.int p1), .val (.int p2), .val (.int p3), .val (.int p4), .val (.int p5), .val (.ref b4), .val (.int (Int32.ofNat f)), .val (.int (Int32.ofNat n)), .val (.ref b37), .val (.long (leV (([c5, c7, c9, c11, c13, c15, c17, c19, c21, c23, c25, c27, c29, c31, c33, c35].drop f).take n))), .second, .unset, .unset] [(.int (Int32.ofNat f)), (.ref b4)]))
  refine go (fun _ => XS.iload X40.here hx rfl (hb hby at_206) rfl) ?_
  show Run p e below _ (T40.setTop (mkF m 208 #[.val (.int p0), .val (.int p1), .val (.int p2), .val (.int p3), .val (.int p4), .val (.int p5), .val (.ref b4), .val (.int (Int32.ofNat f)), .val (.int (Int32.ofNat n)), .val (.ref b37), .val (.long (leV (([c5, c7, c9, c11, c13, c15, c17, c19, c21, c23, c25, c27, c29, c31, c33, c35].drop f).take n))), .second, .unset, .unset] [(.int (Int32.ofNat n)), (.int (Int32.ofNat f)), (.ref b4)]))
  refine go (fun _ => XS.iconst X40.here hx rfl (hb hby at_208)) ?_
  show Run p e below _ (T40.setTop (mkF m 209 #[.val (.int p0), .val (.int p1), .val (.int p2), .val (.int p3), .val (.int p4), .val (.int p5), .val (.ref b4), .val (.int (Int32.ofNat f)), .val (.int (Int32.ofNat n)), .val (.ref b37), .val (.long (leV (([c5, c7, c9, c11, c13, c15, c17, c19, c21, c23, c25, c27, c29, c31, c33, c35].drop f).take n))), .second, .unset, .unset] [(.int (0 : Int32)), (.int (Int32.ofNat n)), (.int (Int32.ofNat f)), (.ref b4)]))
  refine callSt X40 hx hZ hown (wd hw 61 rfl) (wd hw 62 rfl) (wd hw 3 rfl) (wd hw 63 rfl) (by decide) e40 (argsL := [(.ref b4), (.int (Int32.ofNat f)), (.int (Int32.ofNat n)), (.int (0 : Int32))]) (rest := []) (rm_pt l Z a0 hw [] b4 k4 [c5, c7, c9, c11, c13, c15, c17, c19, c21, c23, c25, c27, c29, c31, c33, c35] f n 0 h38 n0 O0 V_b4 rfl hf hn (by decide)) (W := 0) (by decide) (by decide) (by decide) (by decide) (by rw [hml]; rfl) (lenOf pd_4 rfl) rfl (Nat.le_of_eq rfl) (hb hby at_209) ?_
  intro v41 T41 L41 h41 X41 e41 q41
  obtain ⟨rv, n41, k41⟩ := q41
  replace rv : v41 = some (.long (ptV [c5, c7, c9, c11, c13, c15, c17, c19, c21, c23, c25, c27, c29, c31, c33, c35] f n 0)) := rv
  subst rv
  have e41 := e41.trans k41
  have N41 := Fr.app N40 n41
  show Run p e below _ (T41.setTop (mkF m 212 #[.val (.int p0), .val (.int p1), .val (.int p2), .val (.int p3), .val (.int p4), .val (.int p5), .val (.ref b4), .val (.int (Int32.ofNat f)), .val (.int (Int32.ofNat n)), .val (.ref b37), .val (.long (leV (([c5, c7, c9, c11, c13, c15, c17, c19, c21, c23, c25, c27, c29, c31, c33, c35].drop f).take n))), .second, .unset, .unset] [(.long (ptV [c5, c7, c9, c11, c13, c15, c17, c19, c21, c23, c25, c27, c29, c31, c33, c35] f n 0))]))
  refine go (fun _ => XS.aload X41.here hx rfl (hb hby at_212) rfl rfl) ?_
  show Run p e below _ (T41.setTop (mkF m 214 #[.val (.int p0), .val (.int p1), .val (.int p2), .val (.int p3), .val (.int p4), .val (.int p5), .val (.ref b4), .val (.int (Int32.ofNat f)), .val (.int (Int32.ofNat n)), .val (.ref b37), .val (.long (leV (([c5, c7, c9, c11, c13, c15, c17, c19, c21, c23, c25, c27, c29, c31, c33, c35].drop f).take n))), .second, .unset, .unset] [(.ref b4), (.long (ptV [c5, c7, c9, c11, c13, c15, c17, c19, c21, c23, c25, c27, c29, c31, c33, c35] f n 0))]))
  refine go (fun _ => XS.iload X41.here hx rfl (hb hby at_214) rfl) ?_
  show Run p e below _ (T41.setTop (mkF m 216 #[.val (.int p0), .val (.int p1), .val (.int p2), .val (.int p3), .val (.int p4), .val (.int p5), .val (.ref b4), .val (.int (Int32.ofNat f)), .val (.int (Int32.ofNat n)), .val (.ref b37), .val (.long (leV (([c5, c7, c9, c11, c13, c15, c17, c19, c21, c23, c25, c27, c29, c31, c33, c35].drop f).take n))), .second, .unset, .unset] [(.int (Int32.ofNat f)), (.ref b4), (.long (ptV [c5, c7, c9, c11, c13, c15, c17, c19, c21, c23, c25, c27, c29, c31, c33, c35] f n 0))]))
  refine go (fun _ => XS.iload X41.here hx rfl (hb hby at_216) rfl) ?_
  show Run p e below _ (T41.setTop (mkF m 218 #[.val (.int p0), .val (.int p1), .val (.int p2), .val (.int p3), .val (.int p4), .val (.int p5), .val (.ref b4), .val (.int (Int32.ofNat f)), .val (.int (Int32.ofNat n)), .val (.ref b37), .val (.long (leV (([c5, c7, c9, c11, c13, c15, c17, c19, c21, c23, c25, c27, c29, c31, c33, c35].drop f).take n))), .second, .unset, .unset] [(.int (Int32.ofNat n)), (.int (Int32.ofNat f)), (.ref b4), (.long (ptV [c5, c7, c9, c11, c13, c15, c17, c19, c21, c23, c25, c27, c29, c31, c33, c35] f n 0))]))
  refine go (fun _ => XS.iconst X41.here hx rfl (hb hby at_218)) ?_
  show Run p e below _ (T41.setTop (mkF m 219 #[.val (.int p0), .val (.int p1), .val (.int p2), .val (.int p3), .val (.int p4), .val (.int p5), .val (.ref b4), .val (.int (Int32.ofNat f)), .val (.int (Int32.ofNat n)), .val (.ref b37), .val (.long (leV (([c5, c7, c9, c11, c13, c15, c17, c19, c21, c23, c25, c27, c29, c31, c33, c35].drop f).take n))), .second, .unset, .unset] [(.int (1 : Int32)), (.int (Int32.ofNat n)), (.int (Int32.ofNat f)), (.ref b4), (.long (ptV [c5, c7, c9, c11, c13, c15, c17, c19, c21, c23, c25, c27, c29, c31, c33, c35] f n 0))]))
  refine callSt X41 hx hZ hown (wd hw 61 rfl) (wd hw 62 rfl) (wd hw 3 rfl) (wd hw 63 rfl) (by decide) e41 (argsL := [(.ref b4), (.int (Int32.ofNat f)), (.int (Int32.ofNat n)), (.int (1 : Int32))]) (rest := [(.long (ptV [c5, c7, c9, c11, c13, c15, c17, c19, c21, c23, c25, c27, c29, c31, c33, c35] f n 0))]) (rm_pt l Z a0 hw [] b4 k4 [c5, c7, c9, c11, c13, c15, c17, c19, c21, c23, c25, c27, c29, c31, c33, c35] f n 1 h38 n0 O0 V_b4 rfl hf hn (by decide)) (W := 2) (by decide) (by decide) (by decide) (by decide) (by rw [hml]; rfl) (lenOf pd_4 rfl) rfl (Nat.le_of_eq rfl) (hb hby at_219) ?_
  intro v42 T42 L42 h42 X42 e42 q42
  obtain ⟨rv, n42, k42⟩ := q42
  replace rv : v42 = some (.long (ptV [c5, c7, c9, c11, c13, c15, c17, c19, c21, c23, c25, c27, c29, c31, c33, c35] f n 1)) := rv
  subst rv
  have e42 := e42.trans k42
  have N42 := Fr.app N41 n42
  show Run p e below _ (T42.setTop (mkF m 222 #[.val (.int p0), .val (.int p1), .val (.int p2), .val (.int p3), .val (.int p4), .val (.int p5), .val (.ref b4), .val (.int (Int32.ofNat f)), .val (.int (Int32.ofNat n)), .val (.ref b37), .val (.long (leV (([c5, c7, c9, c11, c13, c15, c17, c19, c21, c23, c25, c27, c29, c31, c33, c35].drop f).take n))), .second, .unset, .unset] [(.long (ptV [c5, c7, c9, c11, c13, c15, c17, c19, c21, c23, c25, c27, c29, c31, c33, c35] f n 1)), (.long (ptV [c5, c7, c9, c11, c13, c15, c17, c19, c21, c23, c25, c27, c29, c31, c33, c35] f n 0))]))
  refine go (fun _ => XS.lor X42.here hx rfl (hb hby at_222) rfl) ?_
  show Run p e below _ (T42.setTop (mkF m 223 #[.val (.int p0), .val (.int p1), .val (.int p2), .val (.int p3), .val (.int p4), .val (.int p5), .val (.ref b4), .val (.int (Int32.ofNat f)), .val (.int (Int32.ofNat n)), .val (.ref b37), .val (.long (leV (([c5, c7, c9, c11, c13, c15, c17, c19, c21, c23, c25, c27, c29, c31, c33, c35].drop f).take n))), .second, .unset, .unset] [(.long ((ptV [c5, c7, c9, c11, c13, c15, c17, c19, c21, c23, c25, c27, c29, c31, c33, c35] f n 0) ||| (ptV [c5, c7, c9, c11, c13, c15, c17, c19, c21, c23, c25, c27, c29, c31, c33, c35] f n 1)))]))
  refine go (fun _ => XS.aload X42.here hx rfl (hb hby at_223) rfl rfl) ?_
  show Run p e below _ (T42.setTop (mkF m 225 #[.val (.int p0), .val (.int p1), .val (.int p2), .val (.int p3), .val (.int p4), .val (.int p5), .val (.ref b4), .val (.int (Int32.ofNat f)), .val (.int (Int32.ofNat n)), .val (.ref b37), .val (.long (leV (([c5, c7, c9, c11, c13, c15, c17, c19, c21, c23, c25, c27, c29, c31, c33, c35].drop f).take n))), .second, .unset, .unset] [(.ref b4), (.long ((ptV [c5, c7, c9, c11, c13, c15, c17, c19, c21, c23, c25, c27, c29, c31, c33, c35] f n 0) ||| (ptV [c5, c7, c9, c11, c13, c15, c17, c19, c21, c23, c25, c27, c29, c31, c33, c35] f n 1)))]))
  refine go (fun _ => XS.iload X42.here hx rfl (hb hby at_225) rfl) ?_
  show Run p e below _ (T42.setTop (mkF m 227 #[.val (.int p0), .val (.int p1), .val (.int p2), .val (.int p3), .val (.int p4), .val (.int p5), .val (.ref b4), .val (.int (Int32.ofNat f)), .val (.int (Int32.ofNat n)), .val (.ref b37), .val (.long (leV (([c5, c7, c9, c11, c13, c15, c17, c19, c21, c23, c25, c27, c29, c31, c33, c35].drop f).take n))), .second, .unset, .unset] [(.int (Int32.ofNat f)), (.ref b4), (.long ((ptV [c5, c7, c9, c11, c13, c15, c17, c19, c21, c23, c25, c27, c29, c31, c33, c35] f n 0) ||| (ptV [c5, c7, c9, c11, c13, c15, c17, c19, c21, c23, c25, c27, c29, c31, c33, c35] f n 1)))]))
  refine go (fun _ => XS.iload X42.here hx rfl (hb hby at_227) rfl) ?_
  show Run p e below _ (T42.setTop (mkF m 229 #[.val (.int p0), .val (.int p1), .val (.int p2), .val (.int p3), .val (.int p4), .val (.int p5), .val (.ref b4), .val (.int (Int32.ofNat f)), .val (.int (Int32.ofNat n)), .val (.ref b37), .val (.long (leV (([c5, c7, c9, c11, c13, c15, c17, c19, c21, c23, c25, c27, c29, c31, c33, c35].drop f).take n))), .second, .unset, .unset] [(.int (Int32.ofNat n)), (.int (Int32.ofNat f)), (.ref b4), (.long ((ptV [c5, c7, c9, c11, c13, c15, c17, c19, c21, c23, c25, c27, c29, c31, c33, c35] f n 0) ||| (ptV [c5, c7, c9, c11, c13, c15, c17, c19, c21, c23, c25, c27, c29, c31, c33, c35] f n 1)))]))
  refine go (fun _ => XS.iconst X42.here hx rfl (hb hby at_229)) ?_
  show Run p e below _ (T42.setTop (mkF m 230 #[.val (.int p0), .val (.int p1), .val (.int p2), .val (.int p3), .val (.int p4), .val (.int p5), .val (.ref b4), .val (.int (Int32.ofNat f)), .val (.int (Int32.ofNat n)), .val (.ref b37), .val (.long (leV (([c5, c7, c9, c11, c13, c15, c17, c19, c21, c23, c25, c27, c29, c31, c33, c35].drop f).take n))), .second, .unset, .unset] [(.int (2 : Int32)), (.int (Int32.ofNat n)), (.int (Int32.ofNat f)), (.ref b4), (.long ((ptV [c5, c7, c9, c11, c13, c15, c17, c19, c21, c23, c25, c27, c29, c31, c33, c35] f n 0) ||| (ptV [c5, c7, c9, c11, c13, c15, c17, c19, c21, c23, c25, c27, c29, c31, c33, c35] f n 1)))]))
  refine callSt X42 hx hZ hown (wd hw 61 rfl) (wd hw 62 rfl) (wd hw 3 rfl) (wd hw 63 rfl) (by decide) e42 (argsL := [(.ref b4), (.int (Int32.ofNat f)), (.int (Int32.ofNat n)), (.int (2 : Int32))]) (rest := [(.long ((ptV [c5, c7, c9, c11, c13, c15, c17, c19, c21, c23, c25, c27, c29, c31, c33, c35] f n 0) ||| (ptV [c5, c7, c9, c11, c13, c15, c17, c19, c21, c23, c25, c27, c29, c31, c33, c35] f n 1)))]) (rm_pt l Z a0 hw [] b4 k4 [c5, c7, c9, c11, c13, c15, c17, c19, c21, c23, c25, c27, c29, c31, c33, c35] f n 2 h38 n0 O0 V_b4 rfl hf hn (by decide)) (W := 2) (by decide) (by decide) (by decide) (by decide) (by rw [hml]; rfl) (lenOf pd_4 rfl) rfl (Nat.le_of_eq rfl) (hb hby at_230) ?_
  intro v43 T43 L43 h43 X43 e43 q43
  obtain ⟨rv, n43, k43⟩ := q43
  replace rv : v43 = some (.long (ptV [c5, c7, c9, c11, c13, c15, c17, c19, c21, c23, c25, c27, c29, c31, c33, c35] f n 2)) := rv
  subst rv
  have e43 := e43.trans k43
  have N43 := Fr.app N42 n43
  show Run p e below _ (T43.setTop (mkF m 233 #[.val (.int p0), .val (.int p1), .val (.int p2), .val (.int p3), .val (.int p4), .val (.int p5), .val (.ref b4), .val (.int (Int32.ofNat f)), .val (.int (Int32.ofNat n)), .val (.ref b37), .val (.long (leV (([c5, c7, c9, c11, c13, c15, c17, c19, c21, c23, c25, c27, c29, c31, c33, c35].drop f).take n))), .second, .unset, .unset] [(.long (ptV [c5, c7, c9, c11, c13, c15, c17, c19, c21, c23, c25, c27, c29, c31, c33, c35] f n 2)), (.long ((ptV [c5, c7, c9, c11, c13, c15, c17, c19, c21, c23, c25, c27, c29, c31, c33, c35] f n 0) ||| (ptV [c5, c7, c9, c11, c13, c15, c17, c19, c21, c23, c25, c27, c29, c31, c33, c35] f n 1)))]))
  refine go (fun _ => XS.lor X43.here hx rfl (hb hby at_233) rfl) ?_
  show Run p e below _ (T43.setTop (mkF m 234 #[.val (.int p0), .val (.int p1), .val (.int p2), .val (.int p3), .val (.int p4), .val (.int p5), .val (.ref b4), .val (.int (Int32.ofNat f)), .val (.int (Int32.ofNat n)), .val (.ref b37), .val (.long (leV (([c5, c7, c9, c11, c13, c15, c17, c19, c21, c23, c25, c27, c29, c31, c33, c35].drop f).take n))), .second, .unset, .unset] [(.long (((ptV [c5, c7, c9, c11, c13, c15, c17, c19, c21, c23, c25, c27, c29, c31, c33, c35] f n 0) ||| (ptV [c5, c7, c9, c11, c13, c15, c17, c19, c21, c23, c25, c27, c29, c31, c33, c35] f n 1)) ||| (ptV [c5, c7, c9, c11, c13, c15, c17, c19, c21, c23, c25, c27, c29, c31, c33, c35] f n 2)))]))
  refine go (fun _ => XS.aload X43.here hx rfl (hb hby at_234) rfl rfl) ?_
  show Run p e below _ (T43.setTop (mkF m 236 #[.val (.int p0), .val (.int p1), .val (.int p2), .val (.int p3), .val (.int p4), .val (.int p5), .val (.ref b4), .val (.int (Int32.ofNat f)), .val (.int (Int32.ofNat n)), .val (.ref b37), .val (.long (leV (([c5, c7, c9, c11, c13, c15, c17, c19, c21, c23, c25, c27, c29, c31, c33, c35].drop f).take n))), .second, .unset, .unset] [(.ref b4), (.long (((ptV [c5, c7, c9, c11, c13, c15, c17, c19, c21, c23, c25, c27, c29, c31, c33, c35] f n 0) ||| (ptV [c5, c7, c9, c11, c13, c15, c17, c19, c21, c23, c25, c27, c29, c31, c33, c35] f n 1)) ||| (ptV [c5, c7, c9, c11, c13, c15, c17, c19, c21, c23, c25, c27, c29, c31, c33, c35] f n 2)))]))
  refine go (fun _ => XS.iload X43.here hx rfl (hb hby at_236) rfl) ?_
  show Run p e below _ (T43.setTop (mkF m 238 #[.val (.int p0), .val (.int p1), .val (.int p2), .val (.int p3), .val (.int p4), .val (.int p5), .val (.ref b4), .val (.int (Int32.ofNat f)), .val (.int (Int32.ofNat n)), .val (.ref b37), .val (.long (leV (([c5, c7, c9, c11, c13, c15, c17, c19, c21, c23, c25, c27, c29, c31, c33, c35].drop f).take n))), .second, .unset, .unset] [(.int (Int32.ofNat f)), (.ref b4), (.long (((ptV [c5, c7, c9, c11, c13, c15, c17, c19, c21, c23, c25, c27, c29, c31, c33, c35] f n 0) ||| (ptV [c5, c7, c9, c11, c13, c15, c17, c19, c21, c23, c25, c27, c29, c31, c33, c35] f n 1)) ||| (ptV [c5, c7, c9, c11, c13, c15, c17, c19, c21, c23, c25, c27, c29, c31, c33, c35] f n 2)))]))
  refine go (fun _ => XS.iload X43.here hx rfl (hb hby at_238) rfl) ?_
  show Run p e below _ (T43.setTop (mkF m 240 #[.val (.int p0), .val (.int p1), .val (.int p2), .val (.int p3), .val (.int p4), .val (.int p5), .val (.ref b4), .val (.int (Int32.ofNat f)), .val (.int (Int32.ofNat n)), .val (.ref b37), .val (.long (leV (([c5, c7, c9, c11, c13, c15, c17, c19, c21, c23, c25, c27, c29, c31, c33, c35].drop f).take n))), .second, .unset, .unset] [(.int (Int32.ofNat n)), (.int (Int32.ofNat f)), (.ref b4), (.long (((ptV [c5, c7, c9, c11, c13, c15, c17, c19, c21, c23, c25, c27, c29, c31, c33, c35] f n 0) ||| (ptV [c5, c7, c9, c11, c13, c15, c17, c19, c21, c23, c25, c27, c29, c31, c33, c35] f n 1)) ||| (ptV [c5, c7, c9, c11, c13, c15, c17, c19, c21, c23, c25, c27, c29, c31, c33, c35] f n 2)))]))
  refine go (fun _ => XS.iconst X43.here hx rfl (hb hby at_240)) ?_
  show Run p e below _ (T43.setTop (mkF m 241 #[.val (.int p0), .val (.int p1), .val (.int p2), .val (.int p3), .val (.int p4), .val (.int p5), .val (.ref b4), .val (.int (Int32.ofNat f)), .val (.int (Int32.ofNat n)), .val (.ref b37), .val (.long (leV (([c5, c7, c9, c11, c13, c15, c17, c19, c21, c23, c25, c27, c29, c31, c33, c35].drop f).take n))), .second, .unset, .unset] [(.int (3 : Int32)), (.int (Int32.ofNat n)), (.int (Int32.ofNat f)), (.ref b4), (.long (((ptV [c5, c7, c9, c11, c13, c15, c17, c19, c21, c23, c25, c27, c29, c31, c33, c35] f n 0) ||| (ptV [c5, c7, c9, c11, c13, c15, c17, c19, c21, c23, c25, c27, c29, c31, c33, c35] f n 1)) ||| (ptV [c5, c7, c9, c11, c13, c15, c17, c19, c21, c23, c25, c27, c29, c31, c33, c35] f n 2)))]))
  refine callSt X43 hx hZ hown (wd hw 61 rfl) (wd hw 62 rfl) (wd hw 3 rfl) (wd hw 63 rfl) (by decide) e43 (argsL := [(.ref b4), (.int (Int32.ofNat f)), (.int (Int32.ofNat n)), (.int (3 : Int32))]) (rest := [(.long (((ptV [c5, c7, c9, c11, c13, c15, c17, c19, c21, c23, c25, c27, c29, c31, c33, c35] f n 0) ||| (ptV [c5, c7, c9, c11, c13, c15, c17, c19, c21, c23, c25, c27, c29, c31, c33, c35] f n 1)) ||| (ptV [c5, c7, c9, c11, c13, c15, c17, c19, c21, c23, c25, c27, c29, c31, c33, c35] f n 2)))]) (rm_pt l Z a0 hw [] b4 k4 [c5, c7, c9, c11, c13, c15, c17, c19, c21, c23, c25, c27, c29, c31, c33, c35] f n 3 h38 n0 O0 V_b4 rfl hf hn (by decide)) (W := 2) (by decide) (by decide) (by decide) (by decide) (by rw [hml]; rfl) (lenOf pd_4 rfl) rfl (Nat.le_of_eq rfl) (hb hby at_241) ?_
  intro v44 T44 L44 h44 X44 e44 q44
  obtain ⟨rv, n44, k44⟩ := q44
  replace rv : v44 = some (.long (ptV [c5, c7, c9, c11, c13, c15, c17, c19, c21, c23, c25, c27, c29, c31, c33, c35] f n 3)) := rv
  subst rv
  have e44 := e44.trans k44
  have N44 := Fr.app N43 n44
  show Run p e below _ (T44.setTop (mkF m 244 #[.val (.int p0), .val (.int p1), .val (.int p2), .val (.int p3), .val (.int p4), .val (.int p5), .val (.ref b4), .val (.int (Int32.ofNat f)), .val (.int (Int32.ofNat n)), .val (.ref b37), .val (.long (leV (([c5, c7, c9, c11, c13, c15, c17, c19, c21, c23, c25, c27, c29, c31, c33, c35].drop f).take n))), .second, .unset, .unset] [(.long (ptV [c5, c7, c9, c11, c13, c15, c17, c19, c21, c23, c25, c27, c29, c31, c33, c35] f n 3)), (.long (((ptV [c5, c7, c9, c11, c13, c15, c17, c19, c21, c23, c25, c27, c29, c31, c33, c35] f n 0) ||| (ptV [c5, c7, c9, c11, c13, c15, c17, c19, c21, c23, c25, c27, c29, c31, c33, c35] f n 1)) ||| (ptV [c5, c7, c9, c11, c13, c15, c17, c19, c21, c23, c25, c27, c29, c31, c33, c35] f n 2)))]))
  refine go (fun _ => XS.lor X44.here hx rfl (hb hby at_244) rfl) ?_
  show Run p e below _ (T44.setTop (mkF m 245 #[.val (.int p0), .val (.int p1), .val (.int p2), .val (.int p3), .val (.int p4), .val (.int p5), .val (.ref b4), .val (.int (Int32.ofNat f)), .val (.int (Int32.ofNat n)), .val (.ref b37), .val (.long (leV (([c5, c7, c9, c11, c13, c15, c17, c19, c21, c23, c25, c27, c29, c31, c33, c35].drop f).take n))), .second, .unset, .unset] [(.long ((((ptV [c5, c7, c9, c11, c13, c15, c17, c19, c21, c23, c25, c27, c29, c31, c33, c35] f n 0) ||| (ptV [c5, c7, c9, c11, c13, c15, c17, c19, c21, c23, c25, c27, c29, c31, c33, c35] f n 1)) ||| (ptV [c5, c7, c9, c11, c13, c15, c17, c19, c21, c23, c25, c27, c29, c31, c33, c35] f n 2)) ||| (ptV [c5, c7, c9, c11, c13, c15, c17, c19, c21, c23, c25, c27, c29, c31, c33, c35] f n 3)))]))
  refine go (fun _ => XS.aload X44.here hx rfl (hb hby at_245) rfl rfl) ?_
  show Run p e below _ (T44.setTop (mkF m 247 #[.val (.int p0), .val (.int p1), .val (.int p2), .val (.int p3), .val (.int p4), .val (.int p5), .val (.ref b4), .val (.int (Int32.ofNat f)), .val (.int (Int32.ofNat n)), .val (.ref b37), .val (.long (leV (([c5, c7, c9, c11, c13, c15, c17, c19, c21, c23, c25, c27, c29, c31, c33, c35].drop f).take n))), .second, .unset, .unset] [(.ref b4), (.long ((((ptV [c5, c7, c9, c11, c13, c15, c17, c19, c21, c23, c25, c27, c29, c31, c33, c35] f n 0) ||| (ptV [c5, c7, c9, c11, c13, c15, c17, c19, c21, c23, c25, c27, c29, c31, c33, c35] f n 1)) ||| (ptV [c5, c7, c9, c11, c13, c15, c17, c19, c21, c23, c25, c27, c29, c31, c33, c35] f n 2)) ||| (ptV [c5, c7, c9, c11, c13, c15, c17, c19, c21, c23, c25, c27, c29, c31, c33, c35] f n 3)))]))
  refine go (fun _ => XS.iload X44.here hx rfl (hb hby at_247) rfl) ?_
  show Run p e below _ (T44.setTop (mkF m 249 #[.val (.int p0), .val (.int p1), .val (.int p2), .val (.int p3), .val (.int p4), .val (.int p5), .val (.ref b4), .val (.int (Int32.ofNat f)), .val (.int (Int32.ofNat n)), .val (.ref b37), .val (.long (leV (([c5, c7, c9, c11, c13, c15, c17, c19, c21, c23, c25, c27, c29, c31, c33, c35].drop f).take n))), .second, .unset, .unset] [(.int (Int32.ofNat f)), (.ref b4), (.long ((((ptV [c5, c7, c9, c11, c13, c15, c17, c19, c21, c23, c25, c27, c29, c31, c33, c35] f n 0) ||| (ptV [c5, c7, c9, c11, c13, c15, c17, c19, c21, c23, c25, c27, c29, c31, c33, c35] f n 1)) ||| (ptV [c5, c7, c9, c11, c13, c15, c17, c19, c21, c23, c25, c27, c29, c31, c33, c35] f n 2)) ||| (ptV [c5, c7, c9, c11, c13, c15, c17, c19, c21, c23, c25, c27, c29, c31, c33, c35] f n 3)))]))
  refine go (fun _ => XS.iload X44.here hx rfl (hb hby at_249) rfl) ?_
  show Run p e below _ (T44.setTop (mkF m 251 #[.val (.int p0), .val (.int p1), .val (.int p2), .val (.int p3), .val (.int p4), .val (.int p5), .val (.ref b4), .val (.int (Int32.ofNat f)), .val (.int (Int32.ofNat n)), .val (.ref b37), .val (.long (leV (([c5, c7, c9, c11, c13, c15, c17, c19, c21, c23, c25, c27, c29, c31, c33, c35].drop f).take n))), .second, .unset, .unset] [(.int (Int32.ofNat n)), (.int (Int32.ofNat f)), (.ref b4), (.long ((((ptV [c5, c7, c9, c11, c13, c15, c17, c19, c21, c23, c25, c27, c29, c31, c33, c35] f n 0) ||| (ptV [c5, c7, c9, c11, c13, c15, c17, c19, c21, c23, c25, c27, c29, c31, c33, c35] f n 1)) ||| (ptV [c5, c7, c9, c11, c13, c15, c17, c19, c21, c23, c25, c27, c29, c31, c33, c35] f n 2)) ||| (ptV [c5, c7, c9, c11, c13, c15, c17, c19, c21, c23, c25, c27, c29, c31, c33, c35] f n 3)))]))
  refine go (fun _ => XS.iconst X44.here hx rfl (hb hby at_251)) ?_
  show Run p e below _ (T44.setTop (mkF m 252 #[.val (.int p0), .val (.int p1), .val (.int p2), .val (.int p3), .val (.int p4), .val (.int p5), .val (.ref b4), .val (.int (Int32.ofNat f)), .val (.int (Int32.ofNat n)), .val (.ref b37), .val (.long (leV (([c5, c7, c9, c11, c13, c15, c17, c19, c21, c23, c25, c27, c29, c31, c33, c35].drop f).take n))), .second, .unset, .unset] [(.int (4 : Int32)), (.int (Int32.ofNat n)), (.int (Int32.ofNat f)), (.ref b4), (.long ((((ptV [c5, c7, c9, c11, c13, c15, c17, c19, c21, c23, c25, c27, c29, c31, c33, c35] f n 0) ||| (ptV [c5, c7, c9, c11, c13, c15, c17, c19, c21, c23, c25, c27, c29, c31, c33, c35] f n 1)) ||| (ptV [c5, c7, c9, c11, c13, c15, c17, c19, c21, c23, c25, c27, c29, c31, c33, c35] f n 2)) ||| (ptV [c5, c7, c9, c11, c13, c15, c17, c19, c21, c23, c25, c27, c29, c31, c33, c35] f n 3)))]))
  refine callSt X44 hx hZ hown (wd hw 61 rfl) (wd hw 62 rfl) (wd hw 3 rfl) (wd hw 63 rfl) (by decide) e44 (argsL := [(.ref b4), (.int (Int32.ofNat f)), (.int (Int32.ofNat n)), (.int (4 : Int32))]) (rest := [(.long ((((ptV [c5, c7, c9, c11, c13, c15, c17, c19, c21, c23, c25, c27, c29, c31, c33, c35] f n 0) ||| (ptV [c5, c7, c9, c11, c13, c15, c17, c19, c21, c23, c25, c27, c29, c31, c33, c35] f n 1)) ||| (ptV [c5, c7, c9, c11, c13, c15, c17, c19, c21, c23, c25, c27, c29, c31, c33, c35] f n 2)) ||| (ptV [c5, c7, c9, c11, c13, c15, c17, c19, c21, c23, c25, c27, c29, c31, c33, c35] f n 3)))]) (rm_pt l Z a0 hw [] b4 k4 [c5, c7, c9, c11, c13, c15, c17, c19, c21, c23, c25, c27, c29, c31, c33, c35] f n 4 h38 n0 O0 V_b4 rfl hf hn (by decide)) (W := 2) (by decide) (by decide) (by decide) (by decide) (by rw [hml]; rfl) (lenOf pd_4 rfl) rfl (Nat.le_of_eq rfl) (hb hby at_252) ?_
  intro v45 T45 L45 h45 X45 e45 q45
  obtain ⟨rv, n45, k45⟩ := q45
  replace rv : v45 = some (.long (ptV [c5, c7, c9, c11, c13, c15, c17, c19, c21, c23, c25, c27, c29, c31, c33, c35] f n 4)) := rv
  subst rv
  have e45 := e45.trans k45
  have N45 := Fr.app N44 n45
  show Run p e below _ (T45.setTop (mkF m 255 #[.val (.int p0), .val (.int p1), .val (.int p2), .val (.int p3), .val (.int p4), .val (.int p5), .val (.ref b4), .val (.int (Int32.ofNat f)), .val (.int (Int32.ofNat n)), .val (.ref b37), .val (.long (leV (([c5, c7, c9, c11, c13, c15, c17, c19, c21, c23, c25, c27, c29, c31, c33, c35].drop f).take n))), .second, .unset, .unset] [(.long (ptV [c5, c7, c9, c11, c13, c15, c17, c19, c21, c23, c25, c27, c29, c31, c33, c35] f n 4)), (.long ((((ptV [c5, c7, c9, c11, c13, c15, c17, c19, c21, c23, c25, c27, c29, c31, c33, c35] f n 0) ||| (ptV [c5, c7, c9, c11, c13, c15, c17, c19, c21, c23, c25, c27, c29, c31, c33, c35] f n 1)) ||| (ptV [c5, c7, c9, c11, c13, c15, c17, c19, c21, c23, c25, c27, c29, c31, c33, c35] f n 2)) ||| (ptV [c5, c7, c9, c11, c13, c15, c17, c19, c21, c23, c25, c27, c29, c31, c33, c35] f n 3)))]))
  refine go (fun _ => XS.lor X45.here hx rfl (hb hby at_255) rfl) ?_
  show Run p e below _ (T45.setTop (mkF m 256 #[.val (.int p0), .val (.int p1), .val (.int p2), .val (.int p3), .val (.int p4), .val (.int p5), .val (.ref b4), .val (.int (Int32.ofNat f)), .val (.int (Int32.ofNat n)), .val (.ref b37), .val (.long (leV (([c5, c7, c9, c11, c13, c15, c17, c19, c21, c23, c25, c27, c29, c31, c33, c35].drop f).take n))), .second, .unset, .unset] [(.long (((((ptV [c5, c7, c9, c11, c13, c15, c17, c19, c21, c23, c25, c27, c29, c31, c33, c35] f n 0) ||| (ptV [c5, c7, c9, c11, c13, c15, c17, c19, c21, c23, c25, c27, c29, c31, c33, c35] f n 1)) ||| (ptV [c5, c7, c9, c11, c13, c15, c17, c19, c21, c23, c25, c27, c29, c31, c33, c35] f n 2)) ||| (ptV [c5, c7, c9, c11, c13, c15, c17, c19, c21, c23, c25, c27, c29, c31, c33, c35] f n 3)) ||| (ptV [c5, c7, c9, c11, c13, c15, c17, c19, c21, c23, c25, c27, c29, c31, c33, c35] f n 4)))]))
  refine go (fun _ => XS.aload X45.here hx rfl (hb hby at_256) rfl rfl) ?_
  show Run p e below _ (T45.setTop (mkF m 258 #[.val (.int p0), .val (.int p1), .val (.int p2), .val (.int p3), .val (.int p4), .val (.int p5), .val (.ref b4), .val (.int (Int32.ofNat f)), .val (.int (Int32.ofNat n)), .val (.ref b37), .val (.long (leV (([c5, c7, c9, c11, c13, c15, c17, c19, c21, c23, c25, c27, c29, c31, c33, c35].drop f).take n))), .second, .unset, .unset] [(.ref b4), (.long (((((ptV [c5, c7, c9, c11, c13, c15, c17, c19, c21, c23, c25, c27, c29, c31, c33, c35] f n 0) ||| (ptV [c5, c7, c9, c11, c13, c15, c17, c19, c21, c23, c25, c27, c29, c31, c33, c35] f n 1)) ||| (ptV [c5, c7, c9, c11, c13, c15, c17, c19, c21, c23, c25, c27, c29, c31, c33, c35] f n 2)) ||| (ptV [c5, c7, c9, c11, c13, c15, c17, c19, c21, c23, c25, c27, c29, c31, c33, c35] f n 3)) ||| (ptV [c5, c7, c9, c11, c13, c15, c17, c19, c21, c23, c25, c27, c29, c31, c33, c35] f n 4)))]))
  refine go (fun _ => XS.iload X45.here hx rfl (hb hby at_258) rfl) ?_
  show Run p e below _ (T45.setTop (mkF m 260 #[.val (.int p0), .val (.int p1), .val (.int p2), .val (.int p3), .val (.int p4), .val (.int p5), .val (.ref b4), .val (.int (Int32.ofNat f)), .val (.int (Int32.ofNat n)), .val (.ref b37), .val (.long (leV (([c5, c7, c9, c11, c13, c15, c17, c19, c21, c23, c25, c27, c29, c31, c33, c35].drop f).take n))), .second, .unset, .unset] [(.int (Int32.ofNat f)), (.ref b4), (.long (((((ptV [c5, c7, c9, c11, c13, c15, c17, c19, c21, c23, c25, c27, c29, c31, c33, c35] f n 0) ||| (ptV [c5, c7, c9, c11, c13, c15, c17, c19, c21, c23, c25, c27, c29, c31, c33, c35] f n 1)) ||| (ptV [c5, c7, c9, c11, c13, c15, c17, c19, c21, c23, c25, c27, c29, c31, c33, c35] f n 2)) ||| (ptV [c5, c7, c9, c11, c13, c15, c17, c19, c21, c23, c25, c27, c29, c31, c33, c35] f n 3)) ||| (ptV [c5, c7, c9, c11, c13, c15, c17, c19, c21, c23, c25, c27, c29, c31, c33, c35] f n 4)))]))
  refine go (fun _ => XS.iload X45.here hx rfl (hb hby at_260) rfl) ?_
  show Run p e below _ (T45.setTop (mkF m 262 #[.val (.int p0), .val (.int p1), .val (.int p2), .val (.int p3), .val (.int p4), .val (.int p5), .val (.ref b4), .val (.int (Int32.ofNat f)), .val (.int (Int32.ofNat n)), .val (.ref b37), .val (.long (leV (([c5, c7, c9, c11, c13, c15, c17, c19, c21, c23, c25, c27, c29, c31, c33, c35].drop f).take n))), .second, .unset, .unset] [(.int (Int32.ofNat n)), (.int (Int32.ofNat f)), (.ref b4), (.long (((((ptV [c5, c7, c9, c11, c13, c15, c17, c19, c21, c23, c25, c27, c29, c31, c33, c35] f n 0) ||| (ptV [c5, c7, c9, c11, c13, c15, c17, c19, c21, c23, c25, c27, c29, c31, c33, c35] f n 1)) ||| (ptV [c5, c7, c9, c11, c13, c15, c17, c19, c21, c23, c25, c27, c29, c31, c33, c35] f n 2)) ||| (ptV [c5, c7, c9, c11, c13, c15, c17, c19, c21, c23, c25, c27, c29, c31, c33, c35] f n 3)) ||| (ptV [c5, c7, c9, c11, c13, c15, c17, c19, c21, c23, c25, c27, c29, c31, c33, c35] f n 4)))]))
  refine go (fun _ => XS.iconst X45.here hx rfl (hb hby at_262)) ?_
  show Run p e below _ (T45.setTop (mkF m 263 #[.val (.int p0), .val (.int p1), .val (.int p2), .val (.int p3), .val (.int p4), .val (.int p5), .val (.ref b4), .val (.int (Int32.ofNat f)), .val (.int (Int32.ofNat n)), .val (.ref b37), .val (.long (leV (([c5, c7, c9, c11, c13, c15, c17, c19, c21, c23, c25, c27, c29, c31, c33, c35].drop f).take n))), .second, .unset, .unset] [(.int (5 : Int32)), (.int (Int32.ofNat n)), (.int (Int32.ofNat f)), (.ref b4), (.long (((((ptV [c5, c7, c9, c11, c13, c15, c17, c19, c21, c23, c25, c27, c29, c31, c33, c35] f n 0) ||| (ptV [c5, c7, c9, c11, c13, c15, c17, c19, c21, c23, c25, c27, c29, c31, c33, c35] f n 1)) ||| (ptV [c5, c7, c9, c11, c13, c15, c17, c19, c21, c23, c25, c27, c29, c31, c33, c35] f n 2)) ||| (ptV [c5, c7, c9, c11, c13, c15, c17, c19, c21, c23, c25, c27, c29, c31, c33, c35] f n 3)) ||| (ptV [c5, c7, c9, c11, c13, c15, c17, c19, c21, c23, c25, c27, c29, c31, c33, c35] f n 4)))]))
  refine callSt X45 hx hZ hown (wd hw 61 rfl) (wd hw 62 rfl) (wd hw 3 rfl) (wd hw 63 rfl) (by decide) e45 (argsL := [(.ref b4), (.int (Int32.ofNat f)), (.int (Int32.ofNat n)), (.int (5 : Int32))]) (rest := [(.long (((((ptV [c5, c7, c9, c11, c13, c15, c17, c19, c21, c23, c25, c27, c29, c31, c33, c35] f n 0) ||| (ptV [c5, c7, c9, c11, c13, c15, c17, c19, c21, c23, c25, c27, c29, c31, c33, c35] f n 1)) ||| (ptV [c5, c7, c9, c11, c13, c15, c17, c19, c21, c23, c25, c27, c29, c31, c33, c35] f n 2)) ||| (ptV [c5, c7, c9, c11, c13, c15, c17, c19, c21, c23, c25, c27, c29, c31, c33, c35] f n 3)) ||| (ptV [c5, c7, c9, c11, c13, c15, c17, c19, c21, c23, c25, c27, c29, c31, c33, c35] f n 4)))]) (rm_pt l Z a0 hw [] b4 k4 [c5, c7, c9, c11, c13, c15, c17, c19, c21, c23, c25, c27, c29, c31, c33, c35] f n 5 h38 n0 O0 V_b4 rfl hf hn (by decide)) (W := 2) (by decide) (by decide) (by decide) (by decide) (by rw [hml]; rfl) (lenOf pd_4 rfl) rfl (Nat.le_of_eq rfl) (hb hby at_263) ?_
  intro v46 T46 L46 h46 X46 e46 q46
  obtain ⟨rv, n46, k46⟩ := q46
  replace rv : v46 = some (.long (ptV [c5, c7, c9, c11, c13, c15, c17, c19, c21, c23, c25, c27, c29, c31, c33, c35] f n 5)) := rv
  subst rv
  have e46 := e46.trans k46
  have N46 := Fr.app N45 n46
  show Run p e below _ (T46.setTop (mkF m 266 #[.val (.int p0), .val (.int p1), .val (.int p2), .val (.int p3), .val (.int p4), .val (.int p5), .val (.ref b4), .val (.int (Int32.ofNat f)), .val (.int (Int32.ofNat n)), .val (.ref b37), .val (.long (leV (([c5, c7, c9, c11, c13, c15, c17, c19, c21, c23, c25, c27, c29, c31, c33, c35].drop f).take n))), .second, .unset, .unset] [(.long (ptV [c5, c7, c9, c11, c13, c15, c17, c19, c21, c23, c25, c27, c29, c31, c33, c35] f n 5)), (.long (((((ptV [c5, c7, c9, c11, c13, c15, c17, c19, c21, c23, c25, c27, c29, c31, c33, c35] f n 0) ||| (ptV [c5, c7, c9, c11, c13, c15, c17, c19, c21, c23, c25, c27, c29, c31, c33, c35] f n 1)) ||| (ptV [c5, c7, c9, c11, c13, c15, c17, c19, c21, c23, c25, c27, c29, c31, c33, c35] f n 2)) ||| (ptV [c5, c7, c9, c11, c13, c15, c17, c19, c21, c23, c25, c27, c29, c31, c33, c35] f n 3)) ||| (ptV [c5, c7, c9, c11, c13, c15, c17, c19, c21, c23, c25, c27, c29, c31, c33, c35] f n 4)))]))
  refine go (fun _ => XS.lor X46.here hx rfl (hb hby at_266) rfl) ?_
  show Run p e below _ (T46.setTop (mkF m 267 #[.val (.int p0), .val (.int p1), .val (.int p2), .val (.int p3), .val (.int p4), .val (.int p5), .val (.ref b4), .val (.int (Int32.ofNat f)), .val (.int (Int32.ofNat n)), .val (.ref b37), .val (.long (leV (([c5, c7, c9, c11, c13, c15, c17, c19, c21, c23, c25, c27, c29, c31, c33, c35].drop f).take n))), .second, .unset, .unset] [(.long ((((((ptV [c5, c7, c9, c11, c13, c15, c17, c19, c21, c23, c25, c27, c29, c31, c33, c35] f n 0) ||| (ptV [c5, c7, c9, c11, c13, c15, c17, c19, c21, c23, c25, c27, c29, c31, c33, c35] f n 1)) ||| (ptV [c5, c7, c9, c11, c13, c15, c17, c19, c21, c23, c25, c27, c29, c31, c33, c35] f n 2)) ||| (ptV [c5, c7, c9, c11, c13, c15, c17, c19, c21, c23, c25, c27, c29, c31, c33, c35] f n 3)) ||| (ptV [c5, c7, c9, c11, c13, c15, c17, c19, c21, c23, c25, c27, c29, c31, c33, c35] f n 4)) ||| (ptV [c5, c7, c9, c11, c13, c15, c17, c19, c21, c23, c25, c27, c29, c31, c33, c35] f n 5)))]))
  refine go (fun _ => XS.aload X46.here hx rfl (hb hby at_267) rfl rfl) ?_
  show Run p e below _ (T46.setTop (mkF m 269 #[.val (.int p0), .val (.int p1), .val (.int p2), .val (.int p3), .val (.int p4), .val (.int p5), .val (.ref b4), .val (.int (Int32.ofNat f)), .val (.int (Int32.ofNat n)), .val (.ref b37), .val (.long (leV (([c5, c7, c9, c11, c13, c15, c17, c19, c21, c23, c25, c27, c29, c31, c33, c35].drop f).take n))), .second, .unset, .unset] [(.ref b4), (.long ((((((ptV [c5, c7, c9, c11, c13, c15, c17, c19, c21, c23, c25, c27, c29, c31, c33, c35] f n 0) ||| (ptV [c5, c7, c9, c11, c13, c15, c17, c19, c21, c23, c25, c27, c29, c31, c33, c35] f n 1)) ||| (ptV [c5, c7, c9, c11, c13, c15, c17, c19, c21, c23, c25, c27, c29, c31, c33, c35] f n 2)) ||| (ptV [c5, c7, c9, c11, c13, c15, c17, c19, c21, c23, c25, c27, c29, c31, c33, c35] f n 3)) ||| (ptV [c5, c7, c9, c11, c13, c15, c17, c19, c21, c23, c25, c27, c29, c31, c33, c35] f n 4)) ||| (ptV [c5, c7, c9, c11, c13, c15, c17, c19, c21, c23, c25, c27, c29, c31, c33, c35] f n 5)))]))
  refine go (fun _ => XS.iload X46.here hx rfl (hb hby at_269) rfl) ?_
  show Run p e below _ (T46.setTop (mkF m 271 #[.val (.int p0), .val (.int p1), .val (.int p2), .val (.int p3), .val (.int p4), .val (.int p5), .val (.ref b4), .val (.int (Int32.ofNat f)), .val (.int (Int32.ofNat n)), .val (.ref b37), .val (.long (leV (([c5, c7, c9, c11, c13, c15, c17, c19, c21, c23, c25, c27, c29, c31, c33, c35].drop f).take n))), .second, .unset, .unset] [(.int (Int32.ofNat f)), (.ref b4), (.long ((((((ptV [c5, c7, c9, c11, c13, c15, c17, c19, c21, c23, c25, c27, c29, c31, c33, c35] f n 0) ||| (ptV [c5, c7, c9, c11, c13, c15, c17, c19, c21, c23, c25, c27, c29, c31, c33, c35] f n 1)) ||| (ptV [c5, c7, c9, c11, c13, c15, c17, c19, c21, c23, c25, c27, c29, c31, c33, c35] f n 2)) ||| (ptV [c5, c7, c9, c11, c13, c15, c17, c19, c21, c23, c25, c27, c29, c31, c33, c35] f n 3)) ||| (ptV [c5, c7, c9, c11, c13, c15, c17, c19, c21, c23, c25, c27, c29, c31, c33, c35] f n 4)) ||| (ptV [c5, c7, c9, c11, c13, c15, c17, c19, c21, c23, c25, c27, c29, c31, c33, c35] f n 5)))]))
  refine go (fun _ => XS.iload X46.here hx rfl (hb hby at_271) rfl) ?_
  show Run p e below _ (T46.setTop (mkF m 273 #[.val (.int p0), .val (.int p1), .val (.int p2), .val (.int p3), .val (.int p4), .val (.int p5), .val (.ref b4), .val (.int (Int32.ofNat f)), .val (.int (Int32.ofNat n)), .val (.ref b37), .val (.long (leV (([c5, c7, c9, c11, c13, c15, c17, c19, c21, c23, c25, c27, c29, c31, c33, c35].drop f).take n))), .second, .unset, .unset] [(.int (Int32.ofNat n)), (.int (Int32.ofNat f)), (.ref b4), (.long ((((((ptV [c5, c7, c9, c11, c13, c15, c17, c19, c21, c23, c25, c27, c29, c31, c33, c35] f n 0) ||| (ptV [c5, c7, c9, c11, c13, c15, c17, c19, c21, c23, c25, c27, c29, c31, c33, c35] f n 1)) ||| (ptV [c5, c7, c9, c11, c13, c15, c17, c19, c21, c23, c25, c27, c29, c31, c33, c35] f n 2)) ||| (ptV [c5, c7, c9, c11, c13, c15, c17, c19, c21, c23, c25, c27, c29, c31, c33, c35] f n 3)) ||| (ptV [c5, c7, c9, c11, c13, c15, c17, c19, c21, c23, c25, c27, c29, c31, c33, c35] f n 4)) ||| (ptV [c5, c7, c9, c11, c13, c15, c17, c19, c21, c23, c25, c27, c29, c31, c33, c35] f n 5)))]))
  refine go (fun _ => XS.bipush X46.here hx rfl (hb hby at_273)) ?_
  show Run p e below _ (T46.setTop (mkF m 275 #[.val (.int p0), .val (.int p1), .val (.int p2), .val (.int p3), .val (.int p4), .val (.int p5), .val (.ref b4), .val (.int (Int32.ofNat f)), .val (.int (Int32.ofNat n)), .val (.ref b37), .val (.long (leV (([c5, c7, c9, c11, c13, c15, c17, c19, c21, c23, c25, c27, c29, c31, c33, c35].drop f).take n))), .second, .unset, .unset] [(.int (6 : Int32)), (.int (Int32.ofNat n)), (.int (Int32.ofNat f)), (.ref b4), (.long ((((((ptV [c5, c7, c9, c11, c13, c15, c17, c19, c21, c23, c25, c27, c29, c31, c33, c35] f n 0) ||| (ptV [c5, c7, c9, c11, c13, c15, c17, c19, c21, c23, c25, c27, c29, c31, c33, c35] f n 1)) ||| (ptV [c5, c7, c9, c11, c13, c15, c17, c19, c21, c23, c25, c27, c29, c31, c33, c35] f n 2)) ||| (ptV [c5, c7, c9, c11, c13, c15, c17, c19, c21, c23, c25, c27, c29, c31, c33, c35] f n 3)) ||| (ptV [c5, c7, c9, c11, c13, c15, c17, c19, c21, c23, c25, c27, c29, c31, c33, c35] f n 4)) ||| (ptV [c5, c7, c9, c11, c13, c15, c17, c19, c21, c23, c25, c27, c29, c31, c33, c35] f n 5)))]))
  refine callSt X46 hx hZ hown (wd hw 61 rfl) (wd hw 62 rfl) (wd hw 3 rfl) (wd hw 63 rfl) (by decide) e46 (argsL := [(.ref b4), (.int (Int32.ofNat f)), (.int (Int32.ofNat n)), (.int (6 : Int32))]) (rest := [(.long ((((((ptV [c5, c7, c9, c11, c13, c15, c17, c19, c21, c23, c25, c27, c29, c31, c33, c35] f n 0) ||| (ptV [c5, c7, c9, c11, c13, c15, c17, c19, c21, c23, c25, c27, c29, c31, c33, c35] f n 1)) ||| (ptV [c5, c7, c9, c11, c13, c15, c17, c19, c21, c23, c25, c27, c29, c31, c33, c35] f n 2)) ||| (ptV [c5, c7, c9, c11, c13, c15, c17, c19, c21, c23, c25, c27, c29, c31, c33, c35] f n 3)) ||| (ptV [c5, c7, c9, c11, c13, c15, c17, c19, c21, c23, c25, c27, c29, c31, c33, c35] f n 4)) ||| (ptV [c5, c7, c9, c11, c13, c15, c17, c19, c21, c23, c25, c27, c29, c31, c33, c35] f n 5)))]) (rm_pt l Z a0 hw [] b4 k4 [c5, c7, c9, c11, c13, c15, c17, c19, c21, c23, c25, c27, c29, c31, c33, c35] f n 6 h38 n0 O0 V_b4 rfl hf hn (by decide)) (W := 2) (by decide) (by decide) (by decide) (by decide) (by rw [hml]; rfl) (lenOf pd_4 rfl) rfl (Nat.le_of_eq rfl) (hb hby at_275) ?_
  intro v47 T47 L47 h47 X47 e47 q47
  obtain ⟨rv, n47, k47⟩ := q47
  replace rv : v47 = some (.long (ptV [c5, c7, c9, c11, c13, c15, c17, c19, c21, c23, c25, c27, c29, c31, c33, c35] f n 6)) := rv
  subst rv
  have e47 := e47.trans k47
  have N47 := Fr.app N46 n47
  show Run p e below _ (T47.setTop (mkF m 278 #[.val (.int p0), .val (.int p1), .val (.int p2), .val (.int p3), .val (.int p4), .val (.int p5), .val (.ref b4), .val (.int (Int32.ofNat f)), .val (.int (Int32.ofNat n)), .val (.ref b37), .val (.long (leV (([c5, c7, c9, c11, c13, c15, c17, c19, c21, c23, c25, c27, c29, c31, c33, c35].drop f).take n))), .second, .unset, .unset] [(.long (ptV [c5, c7, c9, c11, c13, c15, c17, c19, c21, c23, c25, c27, c29, c31, c33, c35] f n 6)), (.long ((((((ptV [c5, c7, c9, c11, c13, c15, c17, c19, c21, c23, c25, c27, c29, c31, c33, c35] f n 0) ||| (ptV [c5, c7, c9, c11, c13, c15, c17, c19, c21, c23, c25, c27, c29, c31, c33, c35] f n 1)) ||| (ptV [c5, c7, c9, c11, c13, c15, c17, c19, c21, c23, c25, c27, c29, c31, c33, c35] f n 2)) ||| (ptV [c5, c7, c9, c11, c13, c15, c17, c19, c21, c23, c25, c27, c29, c31, c33, c35] f n 3)) ||| (ptV [c5, c7, c9, c11, c13, c15, c17, c19, c21, c23, c25, c27, c29, c31, c33, c35] f n 4)) ||| (ptV [c5, c7, c9, c11, c13, c15, c17, c19, c21, c23, c25, c27, c29, c31, c33, c35] f n 5)))]))
  refine go (fun _ => XS.lor X47.here hx rfl (hb hby at_278) rfl) ?_
  show Run p e below _ (T47.setTop (mkF m 279 #[.val (.int p0), .val (.int p1), .val (.int p2), .val (.int p3), .val (.int p4), .val (.int p5), .val (.ref b4), .val (.int (Int32.ofNat f)), .val (.int (Int32.ofNat n)), .val (.ref b37), .val (.long (leV (([c5, c7, c9, c11, c13, c15, c17, c19, c21, c23, c25, c27, c29, c31, c33, c35].drop f).take n))), .second, .unset, .unset] [(.long (((((((ptV [c5, c7, c9, c11, c13, c15, c17, c19, c21, c23, c25, c27, c29, c31, c33, c35] f n 0) ||| (ptV [c5, c7, c9, c11, c13, c15, c17, c19, c21, c23, c25, c27, c29, c31, c33, c35] f n 1)) ||| (ptV [c5, c7, c9, c11, c13, c15, c17, c19, c21, c23, c25, c27, c29, c31, c33, c35] f n 2)) ||| (ptV [c5, c7, c9, c11, c13, c15, c17, c19, c21, c23, c25, c27, c29, c31, c33, c35] f n 3)) ||| (ptV [c5, c7, c9, c11, c13, c15, c17, c19, c21, c23, c25, c27, c29, c31, c33, c35] f n 4)) ||| (ptV [c5, c7, c9, c11, c13, c15, c17, c19, c21, c23, c25, c27, c29, c31, c33, c35] f n 5)) ||| (ptV [c5, c7, c9, c11, c13, c15, c17, c19, c21, c23, c25, c27, c29, c31, c33, c35] f n 6)))]))
  refine go (fun _ => XS.aload X47.here hx rfl (hb hby at_279) rfl rfl) ?_
  show Run p e below _ (T47.setTop (mkF m 281 #[.val (.int p0), .val (.int p1), .val (.int p2), .val (.int p3), .val (.int p4), .val (.int p5), .val (.ref b4), .val (.int (Int32.ofNat f)), .val (.int (Int32.ofNat n)), .val (.ref b37), .val (.long (leV (([c5, c7, c9, c11, c13, c15, c17, c19, c21, c23, c25, c27, c29, c31, c33, c35].drop f).take n))), .second, .unset, .unset] [(.ref b4), (.long (((((((ptV [c5, c7, c9, c11, c13, c15, c17, c19, c21, c23, c25, c27, c29, c31, c33, c35] f n 0) ||| (ptV [c5, c7, c9, c11, c13, c15, c17, c19, c21, c23, c25, c27, c29, c31, c33, c35] f n 1)) ||| (ptV [c5, c7, c9, c11, c13, c15, c17, c19, c21, c23, c25, c27, c29, c31, c33, c35] f n 2)) ||| (ptV [c5, c7, c9, c11, c13, c15, c17, c19, c21, c23, c25, c27, c29, c31, c33, c35] f n 3)) ||| (ptV [c5, c7, c9, c11, c13, c15, c17, c19, c21, c23, c25, c27, c29, c31, c33, c35] f n 4)) ||| (ptV [c5, c7, c9, c11, c13, c15, c17, c19, c21, c23, c25, c27, c29, c31, c33, c35] f n 5)) ||| (ptV [c5, c7, c9, c11, c13, c15, c17, c19, c21, c23, c25, c27, c29, c31, c33, c35] f n 6)))]))
  refine go (fun _ => XS.iload X47.here hx rfl (hb hby at_281) rfl) ?_
  show Run p e below _ (T47.setTop (mkF m 283 #[.val (.int p0), .val (.int p1), .val (.int p2), .val (.int p3), .val (.int p4), .val (.int p5), .val (.ref b4), .val (.int (Int32.ofNat f)), .val (.int (Int32.ofNat n)), .val (.ref b37), .val (.long (leV (([c5, c7, c9, c11, c13, c15, c17, c19, c21, c23, c25, c27, c29, c31, c33, c35].drop f).take n))), .second, .unset, .unset] [(.int (Int32.ofNat f)), (.ref b4), (.long (((((((ptV [c5, c7, c9, c11, c13, c15, c17, c19, c21, c23, c25, c27, c29, c31, c33, c35] f n 0) ||| (ptV [c5, c7, c9, c11, c13, c15, c17, c19, c21, c23, c25, c27, c29, c31, c33, c35] f n 1)) ||| (ptV [c5, c7, c9, c11, c13, c15, c17, c19, c21, c23, c25, c27, c29, c31, c33, c35] f n 2)) ||| (ptV [c5, c7, c9, c11, c13, c15, c17, c19, c21, c23, c25, c27, c29, c31, c33, c35] f n 3)) ||| (ptV [c5, c7, c9, c11, c13, c15, c17, c19, c21, c23, c25, c27, c29, c31, c33, c35] f n 4)) ||| (ptV [c5, c7, c9, c11, c13, c15, c17, c19, c21, c23, c25, c27, c29, c31, c33, c35] f n 5)) ||| (ptV [c5, c7, c9, c11, c13, c15, c17, c19, c21, c23, c25, c27, c29, c31, c33, c35] f n 6)))]))
  refine go (fun _ => XS.iload X47.here hx rfl (hb hby at_283) rfl) ?_
  show Run p e below _ (T47.setTop (mkF m 285 #[.val (.int p0), .val (.int p1), .val (.int p2), .val (.int p3), .val (.int p4), .val (.int p5), .val (.ref b4), .val (.int (Int32.ofNat f)), .val (.int (Int32.ofNat n)), .val (.ref b37), .val (.long (leV (([c5, c7, c9, c11, c13, c15, c17, c19, c21, c23, c25, c27, c29, c31, c33, c35].drop f).take n))), .second, .unset, .unset] [(.int (Int32.ofNat n)), (.int (Int32.ofNat f)), (.ref b4), (.long (((((((ptV [c5, c7, c9, c11, c13, c15, c17, c19, c21, c23, c25, c27, c29, c31, c33, c35] f n 0) ||| (ptV [c5, c7, c9, c11, c13, c15, c17, c19, c21, c23, c25, c27, c29, c31, c33, c35] f n 1)) ||| (ptV [c5, c7, c9, c11, c13, c15, c17, c19, c21, c23, c25, c27, c29, c31, c33, c35] f n 2)) ||| (ptV [c5, c7, c9, c11, c13, c15, c17, c19, c21, c23, c25, c27, c29, c31, c33, c35] f n 3)) ||| (ptV [c5, c7, c9, c11, c13, c15, c17, c19, c21, c23, c25, c27, c29, c31, c33, c35] f n 4)) ||| (ptV [c5, c7, c9, c11, c13, c15, c17, c19, c21, c23, c25, c27, c29, c31, c33, c35] f n 5)) ||| (ptV [c5, c7, c9, c11, c13, c15, c17, c19, c21, c23, c25, c27, c29, c31, c33, c35] f n 6)))]))
  refine go (fun _ => XS.bipush X47.here hx rfl (hb hby at_285)) ?_
  show Run p e below _ (T47.setTop (mkF m 287 #[.val (.int p0), .val (.int p1), .val (.int p2), .val (.int p3), .val (.int p4), .val (.int p5), .val (.ref b4), .val (.int (Int32.ofNat f)), .val (.int (Int32.ofNat n)), .val (.ref b37), .val (.long (leV (([c5, c7, c9, c11, c13, c15, c17, c19, c21, c23, c25, c27, c29, c31, c33, c35].drop f).take n))), .second, .unset, .unset] [(.int (7 : Int32)), (.int (Int32.ofNat n)), (.int (Int32.ofNat f)), (.ref b4), (.long (((((((ptV [c5, c7, c9, c11, c13, c15, c17, c19, c21, c23, c25, c27, c29, c31, c33, c35] f n 0) ||| (ptV [c5, c7, c9, c11, c13, c15, c17, c19, c21, c23, c25, c27, c29, c31, c33, c35] f n 1)) ||| (ptV [c5, c7, c9, c11, c13, c15, c17, c19, c21, c23, c25, c27, c29, c31, c33, c35] f n 2)) ||| (ptV [c5, c7, c9, c11, c13, c15, c17, c19, c21, c23, c25, c27, c29, c31, c33, c35] f n 3)) ||| (ptV [c5, c7, c9, c11, c13, c15, c17, c19, c21, c23, c25, c27, c29, c31, c33, c35] f n 4)) ||| (ptV [c5, c7, c9, c11, c13, c15, c17, c19, c21, c23, c25, c27, c29, c31, c33, c35] f n 5)) ||| (ptV [c5, c7, c9, c11, c13, c15, c17, c19, c21, c23, c25, c27, c29, c31, c33, c35] f n 6)))]))
  refine callSt X47 hx hZ hown (wd hw 61 rfl) (wd hw 62 rfl) (wd hw 3 rfl) (wd hw 63 rfl) (by decide) e47 (argsL := [(.ref b4), (.int (Int32.ofNat f)), (.int (Int32.ofNat n)), (.int (7 : Int32))]) (rest := [(.long (((((((ptV [c5, c7, c9, c11, c13, c15, c17, c19, c21, c23, c25, c27, c29, c31, c33, c35] f n 0) ||| (ptV [c5, c7, c9, c11, c13, c15, c17, c19, c21, c23, c25, c27, c29, c31, c33, c35] f n 1)) ||| (ptV [c5, c7, c9, c11, c13, c15, c17, c19, c21, c23, c25, c27, c29, c31, c33, c35] f n 2)) ||| (ptV [c5, c7, c9, c11, c13, c15, c17, c19, c21, c23, c25, c27, c29, c31, c33, c35] f n 3)) ||| (ptV [c5, c7, c9, c11, c13, c15, c17, c19, c21, c23, c25, c27, c29, c31, c33, c35] f n 4)) ||| (ptV [c5, c7, c9, c11, c13, c15, c17, c19, c21, c23, c25, c27, c29, c31, c33, c35] f n 5)) ||| (ptV [c5, c7, c9, c11, c13, c15, c17, c19, c21, c23, c25, c27, c29, c31, c33, c35] f n 6)))]) (rm_pt l Z a0 hw [] b4 k4 [c5, c7, c9, c11, c13, c15, c17, c19, c21, c23, c25, c27, c29, c31, c33, c35] f n 7 h38 n0 O0 V_b4 rfl hf hn (by decide)) (W := 2) (by decide) (by decide) (by decide) (by decide) (by rw [hml]; rfl) (lenOf pd_4 rfl) rfl (Nat.le_of_eq rfl) (hb hby at_287) ?_
  intro v48 T48 L48 h48 X48 e48 q48
  obtain ⟨rv, n48, k48⟩ := q48
  replace rv : v48 = some (.long (ptV [c5, c7, c9, c11, c13, c15, c17, c19, c21, c23, c25, c27, c29, c31, c33, c35] f n 7)) := rv
  subst rv
  have e48 := e48.trans k48
  have N48 := Fr.app N47 n48
  show Run p e below _ (T48.setTop (mkF m 290 #[.val (.int p0), .val (.int p1), .val (.int p2), .val (.int p3), .val (.int p4), .val (.int p5), .val (.ref b4), .val (.int (Int32.ofNat f)), .val (.int (Int32.ofNat n)), .val (.ref b37), .val (.long (leV (([c5, c7, c9, c11, c13, c15, c17, c19, c21, c23, c25, c27, c29, c31, c33, c35].drop f).take n))), .second, .unset, .unset] [(.long (ptV [c5, c7, c9, c11, c13, c15, c17, c19, c21, c23, c25, c27, c29, c31, c33, c35] f n 7)), (.long (((((((ptV [c5, c7, c9, c11, c13, c15, c17, c19, c21, c23, c25, c27, c29, c31, c33, c35] f n 0) ||| (ptV [c5, c7, c9, c11, c13, c15, c17, c19, c21, c23, c25, c27, c29, c31, c33, c35] f n 1)) ||| (ptV [c5, c7, c9, c11, c13, c15, c17, c19, c21, c23, c25, c27, c29, c31, c33, c35] f n 2)) ||| (ptV [c5, c7, c9, c11, c13, c15, c17, c19, c21, c23, c25, c27, c29, c31, c33, c35] f n 3)) ||| (ptV [c5, c7, c9, c11, c13, c15, c17, c19, c21, c23, c25, c27, c29, c31, c33, c35] f n 4)) ||| (ptV [c5, c7, c9, c11, c13, c15, c17, c19, c21, c23, c25, c27, c29, c31, c33, c35] f n 5)) ||| (ptV [c5, c7, c9, c11, c13, c15, c17, c19, c21, c23, c25, c27, c29, c31, c33, c35] f n 6)))]))
  refine go (fun _ => XS.lor X48.here hx rfl (hb hby at_290) rfl) ?_
  show Run p e below _ (T48.setTop (mkF m 291 #[.val (.int p0), .val (.int p1), .val (.int p2), .val (.int p3), .val (.int p4), .val (.int p5), .val (.ref b4), .val (.int (Int32.ofNat f)), .val (.int (Int32.ofNat n)), .val (.ref b37), .val (.long (leV (([c5, c7, c9, c11, c13, c15, c17, c19, c21, c23, c25, c27, c29, c31, c33, c35].drop f).take n))), .second, .unset, .unset] [(.long ((((((((ptV [c5, c7, c9, c11, c13, c15, c17, c19, c21, c23, c25, c27, c29, c31, c33, c35] f n 0) ||| (ptV [c5, c7, c9, c11, c13, c15, c17, c19, c21, c23, c25, c27, c29, c31, c33, c35] f n 1)) ||| (ptV [c5, c7, c9, c11, c13, c15, c17, c19, c21, c23, c25, c27, c29, c31, c33, c35] f n 2)) ||| (ptV [c5, c7, c9, c11, c13, c15, c17, c19, c21, c23, c25, c27, c29, c31, c33, c35] f n 3)) ||| (ptV [c5, c7, c9, c11, c13, c15, c17, c19, c21, c23, c25, c27, c29, c31, c33, c35] f n 4)) ||| (ptV [c5, c7, c9, c11, c13, c15, c17, c19, c21, c23, c25, c27, c29, c31, c33, c35] f n 5)) ||| (ptV [c5, c7, c9, c11, c13, c15, c17, c19, c21, c23, c25, c27, c29, c31, c33, c35] f n 6)) ||| (ptV [c5, c7, c9, c11, c13, c15, c17, c19, c21, c23, c25, c27, c29, c31, c33, c35] f n 7)))]))
  refine go (fun _ => XS.lstore X48.here hx rfl (hb hby at_291) rfl (l' := #[.val (.int p0), .val (.int p1), .val (.int p2), .val (.int p3), .val (.int p4), .val (.int p5), .val (.ref b4), .val (.int (Int32.ofNat f)), .val (.int (Int32.ofNat n)), .val (.ref b37), .val (.long (leV (([c5, c7, c9, c11, c13, c15, c17, c19, c21, c23, c25, c27, c29, c31, c33, c35].drop f).take n))), .second, .val (.long ((((((((ptV [c5, c7, c9, c11, c13, c15, c17, c19, c21, c23, c25, c27, c29, c31, c33, c35] f n 0) ||| (ptV [c5, c7, c9, c11, c13, c15, c17, c19, c21, c23, c25, c27, c29, c31, c33, c35] f n 1)) ||| (ptV [c5, c7, c9, c11, c13, c15, c17, c19, c21, c23, c25, c27, c29, c31, c33, c35] f n 2)) ||| (ptV [c5, c7, c9, c11, c13, c15, c17, c19, c21, c23, c25, c27, c29, c31, c33, c35] f n 3)) ||| (ptV [c5, c7, c9, c11, c13, c15, c17, c19, c21, c23, c25, c27, c29, c31, c33, c35] f n 4)) ||| (ptV [c5, c7, c9, c11, c13, c15, c17, c19, c21, c23, c25, c27, c29, c31, c33, c35] f n 5)) ||| (ptV [c5, c7, c9, c11, c13, c15, c17, c19, c21, c23, c25, c27, c29, c31, c33, c35] f n 6)) ||| (ptV [c5, c7, c9, c11, c13, c15, c17, c19, c21, c23, c25, c27, c29, c31, c33, c35] f n 7))), .second]) rfl) ?_
  show Run p e below _ (T48.setTop (mkF m 293 #[.val (.int p0), .val (.int p1), .val (.int p2), .val (.int p3), .val (.int p4), .val (.int p5), .val (.ref b4), .val (.int (Int32.ofNat f)), .val (.int (Int32.ofNat n)), .val (.ref b37), .val (.long (leV (([c5, c7, c9, c11, c13, c15, c17, c19, c21, c23, c25, c27, c29, c31, c33, c35].drop f).take n))), .second, .val (.long ((((((((ptV [c5, c7, c9, c11, c13, c15, c17, c19, c21, c23, c25, c27, c29, c31, c33, c35] f n 0) ||| (ptV [c5, c7, c9, c11, c13, c15, c17, c19, c21, c23, c25, c27, c29, c31, c33, c35] f n 1)) ||| (ptV [c5, c7, c9, c11, c13, c15, c17, c19, c21, c23, c25, c27, c29, c31, c33, c35] f n 2)) ||| (ptV [c5, c7, c9, c11, c13, c15, c17, c19, c21, c23, c25, c27, c29, c31, c33, c35] f n 3)) ||| (ptV [c5, c7, c9, c11, c13, c15, c17, c19, c21, c23, c25, c27, c29, c31, c33, c35] f n 4)) ||| (ptV [c5, c7, c9, c11, c13, c15, c17, c19, c21, c23, c25, c27, c29, c31, c33, c35] f n 5)) ||| (ptV [c5, c7, c9, c11, c13, c15, c17, c19, c21, c23, c25, c27, c29, c31, c33, c35] f n 6)) ||| (ptV [c5, c7, c9, c11, c13, c15, c17, c19, c21, c23, c25, c27, c29, c31, c33, c35] f n 7))), .second] []))
  refine go (fun _ => XS.lload X48.here hx rfl (hb hby at_293) rfl) ?_
  show Run p e below _ (T48.setTop (mkF m 295 #[.val (.int p0), .val (.int p1), .val (.int p2), .val (.int p3), .val (.int p4), .val (.int p5), .val (.ref b4), .val (.int (Int32.ofNat f)), .val (.int (Int32.ofNat n)), .val (.ref b37), .val (.long (leV (([c5, c7, c9, c11, c13, c15, c17, c19, c21, c23, c25, c27, c29, c31, c33, c35].drop f).take n))), .second, .val (.long ((((((((ptV [c5, c7, c9, c11, c13, c15, c17, c19, c21, c23, c25, c27, c29, c31, c33, c35] f n 0) ||| (ptV [c5, c7, c9, c11, c13, c15, c17, c19, c21, c23, c25, c27, c29, c31, c33, c35] f n 1)) ||| (ptV [c5, c7, c9, c11, c13, c15, c17, c19, c21, c23, c25, c27, c29, c31, c33, c35] f n 2)) ||| (ptV [c5, c7, c9, c11, c13, c15, c17, c19, c21, c23, c25, c27, c29, c31, c33, c35] f n 3)) ||| (ptV [c5, c7, c9, c11, c13, c15, c17, c19, c21, c23, c25, c27, c29, c31, c33, c35] f n 4)) ||| (ptV [c5, c7, c9, c11, c13, c15, c17, c19, c21, c23, c25, c27, c29, c31, c33, c35] f n 5)) ||| (ptV [c5, c7, c9, c11, c13, c15, c17, c19, c21, c23, c25, c27, c29, c31, c33, c35] f n 6)) ||| (ptV [c5, c7, c9, c11, c13, c15, c17, c19, c21, c23, c25, c27, c29, c31, c33, c35] f n 7))), .second] [(.long (leV (([c5, c7, c9, c11, c13, c15, c17, c19, c21, c23, c25, c27, c29, c31, c33, c35].drop f).take n)))]))
  refine go (fun _ => XS.lload X48.here hx rfl (hb hby at_295) rfl) ?_
  show Run p e below _ (T48.setTop (mkF m 297 #[.val (.int p0), .val (.int p1), .val (.int p2), .val (.int p3), .val (.int p4), .val (.int p5), .val (.ref b4), .val (.int (Int32.ofNat f)), .val (.int (Int32.ofNat n)), .val (.ref b37), .val (.long (leV (([c5, c7, c9, c11, c13, c15, c17, c19, c21, c23, c25, c27, c29, c31, c33, c35].drop f).take n))), .second, .val (.long ((((((((ptV [c5, c7, c9, c11, c13, c15, c17, c19, c21, c23, c25, c27, c29, c31, c33, c35] f n 0) ||| (ptV [c5, c7, c9, c11, c13, c15, c17, c19, c21, c23, c25, c27, c29, c31, c33, c35] f n 1)) ||| (ptV [c5, c7, c9, c11, c13, c15, c17, c19, c21, c23, c25, c27, c29, c31, c33, c35] f n 2)) ||| (ptV [c5, c7, c9, c11, c13, c15, c17, c19, c21, c23, c25, c27, c29, c31, c33, c35] f n 3)) ||| (ptV [c5, c7, c9, c11, c13, c15, c17, c19, c21, c23, c25, c27, c29, c31, c33, c35] f n 4)) ||| (ptV [c5, c7, c9, c11, c13, c15, c17, c19, c21, c23, c25, c27, c29, c31, c33, c35] f n 5)) ||| (ptV [c5, c7, c9, c11, c13, c15, c17, c19, c21, c23, c25, c27, c29, c31, c33, c35] f n 6)) ||| (ptV [c5, c7, c9, c11, c13, c15, c17, c19, c21, c23, c25, c27, c29, c31, c33, c35] f n 7))), .second] [(.long ((((((((ptV [c5, c7, c9, c11, c13, c15, c17, c19, c21, c23, c25, c27, c29, c31, c33, c35] f n 0) ||| (ptV [c5, c7, c9, c11, c13, c15, c17, c19, c21, c23, c25, c27, c29, c31, c33, c35] f n 1)) ||| (ptV [c5, c7, c9, c11, c13, c15, c17, c19, c21, c23, c25, c27, c29, c31, c33, c35] f n 2)) ||| (ptV [c5, c7, c9, c11, c13, c15, c17, c19, c21, c23, c25, c27, c29, c31, c33, c35] f n 3)) ||| (ptV [c5, c7, c9, c11, c13, c15, c17, c19, c21, c23, c25, c27, c29, c31, c33, c35] f n 4)) ||| (ptV [c5, c7, c9, c11, c13, c15, c17, c19, c21, c23, c25, c27, c29, c31, c33, c35] f n 5)) ||| (ptV [c5, c7, c9, c11, c13, c15, c17, c19, c21, c23, c25, c27, c29, c31, c33, c35] f n 6)) ||| (ptV [c5, c7, c9, c11, c13, c15, c17, c19, c21, c23, c25, c27, c29, c31, c33, c35] f n 7))), (.long (leV (([c5, c7, c9, c11, c13, c15, c17, c19, c21, c23, c25, c27, c29, c31, c33, c35].drop f).take n)))]))
  refine go (fun _ => XS.lcmp X48.here hx rfl (hb hby at_297) rfl) ?_
  show Run p e below _ (T48.setTop (mkF m 298 #[.val (.int p0), .val (.int p1), .val (.int p2), .val (.int p3), .val (.int p4), .val (.int p5), .val (.ref b4), .val (.int (Int32.ofNat f)), .val (.int (Int32.ofNat n)), .val (.ref b37), .val (.long (leV (([c5, c7, c9, c11, c13, c15, c17, c19, c21, c23, c25, c27, c29, c31, c33, c35].drop f).take n))), .second, .val (.long ((((((((ptV [c5, c7, c9, c11, c13, c15, c17, c19, c21, c23, c25, c27, c29, c31, c33, c35] f n 0) ||| (ptV [c5, c7, c9, c11, c13, c15, c17, c19, c21, c23, c25, c27, c29, c31, c33, c35] f n 1)) ||| (ptV [c5, c7, c9, c11, c13, c15, c17, c19, c21, c23, c25, c27, c29, c31, c33, c35] f n 2)) ||| (ptV [c5, c7, c9, c11, c13, c15, c17, c19, c21, c23, c25, c27, c29, c31, c33, c35] f n 3)) ||| (ptV [c5, c7, c9, c11, c13, c15, c17, c19, c21, c23, c25, c27, c29, c31, c33, c35] f n 4)) ||| (ptV [c5, c7, c9, c11, c13, c15, c17, c19, c21, c23, c25, c27, c29, c31, c33, c35] f n 5)) ||| (ptV [c5, c7, c9, c11, c13, c15, c17, c19, c21, c23, c25, c27, c29, c31, c33, c35] f n 6)) ||| (ptV [c5, c7, c9, c11, c13, c15, c17, c19, c21, c23, c25, c27, c29, c31, c33, c35] f n 7))), .second] [(.int (lcmpW (leV (([c5, c7, c9, c11, c13, c15, c17, c19, c21, c23, c25, c27, c29, c31, c33, c35].drop f).take n)) ((((((((ptV [c5, c7, c9, c11, c13, c15, c17, c19, c21, c23, c25, c27, c29, c31, c33, c35] f n 0) ||| (ptV [c5, c7, c9, c11, c13, c15, c17, c19, c21, c23, c25, c27, c29, c31, c33, c35] f n 1)) ||| (ptV [c5, c7, c9, c11, c13, c15, c17, c19, c21, c23, c25, c27, c29, c31, c33, c35] f n 2)) ||| (ptV [c5, c7, c9, c11, c13, c15, c17, c19, c21, c23, c25, c27, c29, c31, c33, c35] f n 3)) ||| (ptV [c5, c7, c9, c11, c13, c15, c17, c19, c21, c23, c25, c27, c29, c31, c33, c35] f n 4)) ||| (ptV [c5, c7, c9, c11, c13, c15, c17, c19, c21, c23, c25, c27, c29, c31, c33, c35] f n 5)) ||| (ptV [c5, c7, c9, c11, c13, c15, c17, c19, c21, c23, c25, c27, c29, c31, c33, c35] f n 6)) ||| (ptV [c5, c7, c9, c11, c13, c15, c17, c19, c21, c23, c25, c27, c29, c31, c33, c35] f n 7))))]))
  have hq := (lw_eq (leV (([c5, c7, c9, c11, c13, c15, c17, c19, c21, c23, c25, c27, c29, c31, c33, c35].drop f).take n)) ((((((((ptV [c5, c7, c9, c11, c13, c15, c17, c19, c21, c23, c25, c27, c29, c31, c33, c35] f n 0) ||| (ptV [c5, c7, c9, c11, c13, c15, c17, c19, c21, c23, c25, c27, c29, c31, c33, c35] f n 1)) ||| (ptV [c5, c7, c9, c11, c13, c15, c17, c19, c21, c23, c25, c27, c29, c31, c33, c35] f n 2)) ||| (ptV [c5, c7, c9, c11, c13, c15, c17, c19, c21, c23, c25, c27, c29, c31, c33, c35] f n 3)) ||| (ptV [c5, c7, c9, c11, c13, c15, c17, c19, c21, c23, c25, c27, c29, c31, c33, c35] f n 4)) ||| (ptV [c5, c7, c9, c11, c13, c15, c17, c19, c21, c23, c25, c27, c29, c31, c33, c35] f n 5)) ||| (ptV [c5, c7, c9, c11, c13, c15, c17, c19, c21, c23, c25, c27, c29, c31, c33, c35] f n 6)) ||| (ptV [c5, c7, c9, c11, c13, c15, c17, c19, c21, c23, c25, c27, c29, c31, c33, c35] f n 7))).mpr (own_sum [c5, c7, c9, c11, c13, c15, c17, c19, c21, c23, c25, c27, c29, c31, c33, c35] f n hn (by simp; omega))
  refine go (fun _ => XS.ifNo X48.here hx rfl (hb hby at_298) rfl ((if0 _ _).trans (teq hq).2)) ?_
  show Run p e below _ (T48.setTop (mkF m 301 #[.val (.int p0), .val (.int p1), .val (.int p2), .val (.int p3), .val (.int p4), .val (.int p5), .val (.ref b4), .val (.int (Int32.ofNat f)), .val (.int (Int32.ofNat n)), .val (.ref b37), .val (.long (leV (([c5, c7, c9, c11, c13, c15, c17, c19, c21, c23, c25, c27, c29, c31, c33, c35].drop f).take n))), .second, .val (.long ((((((((ptV [c5, c7, c9, c11, c13, c15, c17, c19, c21, c23, c25, c27, c29, c31, c33, c35] f n 0) ||| (ptV [c5, c7, c9, c11, c13, c15, c17, c19, c21, c23, c25, c27, c29, c31, c33, c35] f n 1)) ||| (ptV [c5, c7, c9, c11, c13, c15, c17, c19, c21, c23, c25, c27, c29, c31, c33, c35] f n 2)) ||| (ptV [c5, c7, c9, c11, c13, c15, c17, c19, c21, c23, c25, c27, c29, c31, c33, c35] f n 3)) ||| (ptV [c5, c7, c9, c11, c13, c15, c17, c19, c21, c23, c25, c27, c29, c31, c33, c35] f n 4)) ||| (ptV [c5, c7, c9, c11, c13, c15, c17, c19, c21, c23, c25, c27, c29, c31, c33, c35] f n 5)) ||| (ptV [c5, c7, c9, c11, c13, c15, c17, c19, c21, c23, c25, c27, c29, c31, c33, c35] f n 6)) ||| (ptV [c5, c7, c9, c11, c13, c15, c17, c19, c21, c23, c25, c27, c29, c31, c33, c35] f n 7))), .second] []))
  refine go (fun _ => XS.iconst X48.here hx rfl (hb hby at_301)) ?_
  show Run p e below _ (T48.setTop (mkF m 302 #[.val (.int p0), .val (.int p1), .val (.int p2), .val (.int p3), .val (.int p4), .val (.int p5), .val (.ref b4), .val (.int (Int32.ofNat f)), .val (.int (Int32.ofNat n)), .val (.ref b37), .val (.long (leV (([c5, c7, c9, c11, c13, c15, c17, c19, c21, c23, c25, c27, c29, c31, c33, c35].drop f).take n))), .second, .val (.long ((((((((ptV [c5, c7, c9, c11, c13, c15, c17, c19, c21, c23, c25, c27, c29, c31, c33, c35] f n 0) ||| (ptV [c5, c7, c9, c11, c13, c15, c17, c19, c21, c23, c25, c27, c29, c31, c33, c35] f n 1)) ||| (ptV [c5, c7, c9, c11, c13, c15, c17, c19, c21, c23, c25, c27, c29, c31, c33, c35] f n 2)) ||| (ptV [c5, c7, c9, c11, c13, c15, c17, c19, c21, c23, c25, c27, c29, c31, c33, c35] f n 3)) ||| (ptV [c5, c7, c9, c11, c13, c15, c17, c19, c21, c23, c25, c27, c29, c31, c33, c35] f n 4)) ||| (ptV [c5, c7, c9, c11, c13, c15, c17, c19, c21, c23, c25, c27, c29, c31, c33, c35] f n 5)) ||| (ptV [c5, c7, c9, c11, c13, c15, c17, c19, c21, c23, c25, c27, c29, c31, c33, c35] f n 6)) ||| (ptV [c5, c7, c9, c11, c13, c15, c17, c19, c21, c23, c25, c27, c29, c31, c33, c35] f n 7))), .second] [(.int (1 : Int32))]))
  refine go (fun _ => XS.goto X48.here hx rfl (pc0 := 302) (pc' := 306) rfl (hb hby at_302) (by decide) (by decide)) ?_
  show Run p e below _ (T48.setTop (mkF m 306 #[.val (.int p0), .val (.int p1), .val (.int p2), .val (.int p3), .val (.int p4), .val (.int p5), .val (.ref b4), .val (.int (Int32.ofNat f)), .val (.int (Int32.ofNat n)), .val (.ref b37), .val (.long (leV (([c5, c7, c9, c11, c13, c15, c17, c19, c21, c23, c25, c27, c29, c31, c33, c35].drop f).take n))), .second, .val (.long ((((((((ptV [c5, c7, c9, c11, c13, c15, c17, c19, c21, c23, c25, c27, c29, c31, c33, c35] f n 0) ||| (ptV [c5, c7, c9, c11, c13, c15, c17, c19, c21, c23, c25, c27, c29, c31, c33, c35] f n 1)) ||| (ptV [c5, c7, c9, c11, c13, c15, c17, c19, c21, c23, c25, c27, c29, c31, c33, c35] f n 2)) ||| (ptV [c5, c7, c9, c11, c13, c15, c17, c19, c21, c23, c25, c27, c29, c31, c33, c35] f n 3)) ||| (ptV [c5, c7, c9, c11, c13, c15, c17, c19, c21, c23, c25, c27, c29, c31, c33, c35] f n 4)) ||| (ptV [c5, c7, c9, c11, c13, c15, c17, c19, c21, c23, c25, c27, c29, c31, c33, c35] f n 5)) ||| (ptV [c5, c7, c9, c11, c13, c15, c17, c19, c21, c23, c25, c27, c29, c31, c33, c35] f n 6)) ||| (ptV [c5, c7, c9, c11, c13, c15, c17, c19, c21, c23, c25, c27, c29, c31, c33, c35] f n 7))), .second] [(.int (1 : Int32))]))
  exact endN X48 hx hlk (t := .boolean) hret (by simp) (hb hby at_306) (⟨rfl, N48⟩) (by decide) (by decide)
set_option maxRecDepth 65536 in
set_option maxHeartbeats 40000000 in
theorem comes_1 {Post : Tables → Env → Array Value → State → Outcome → State → Prop} (hpost : ∀ tb e args s v u, (limb_1_1.after args s (.returned v) u = true ∧ limb_1_2.after args s (.returned v) u = true ∧ True) → FrameEnd s (.returned v) u (Jvm.fieldLocs frame_1_writes args s ++ Jvm.arrayLocs frame_1_arrays args s ++ Jvm.staticLocs frame_1_statics s) 16 192 → Post tb e args s (.returned v) u) :
    ArmFor flags0 classFile x code maxLocals ret World_1 tables_1 room_1 Calls_1 rest_1 Pre_1 Post := by
  intro l hfl _ _ p e ha hc hk s m args below hf hA hF happ hP
  obtain ⟨hcalls, hrest, hpre⟩ := hP
  obtain ⟨-, -, -, hnamed, -, -, -, hat⟩ := (Spec.applies_iff hf).mp happ
  obtain ⟨hg, hn⟩ := and_e (Cond.before_iff.mp (show (Jvm.Cond.and given_1 narrow_1).before args s = true from hpre))
  obtain ⟨h1, hg⟩ := and_e hg
  obtain ⟨g0, hg⟩ := and_e hg
  obtain ⟨g1, hg⟩ := and_e hg
  obtain ⟨g2, hg⟩ := and_e hg
  obtain ⟨g3, hg⟩ := and_e hg
  obtain ⟨g4, hg⟩ := and_e hg
  have g5 := hg
  obtain ⟨w0, w1, w2, w3, w4, w5, rfl⟩ : ∃ w0 w1 w2 w3 w4 w5 : Value, args = #[w0, w1, w2, w3, w4, w5] := by
    have hs : args.size = 6 := by simpa [Cond.value, given_1] using h1
    obtain ⟨L⟩ := args
    match L, hs with
    | [w0, w1, w2, w3, w4, w5], _ => exact ⟨w0, w1, w2, w3, w4, w5, rfl⟩
  have hw := fun d (hd : d ∈ tables_1) => atoms_spec (ws := Jvm.Cond.code x code maxLocals ret :: tables_1) hat d (List.mem_cons_of_mem _ hd)
  obtain ⟨hsets, hown0⟩ := atoms_of _ (rest_1_c_eq ▸ (show rest_1_c.before _ s = true from hrest))
  have hr0 := Cond.before_iff.mp hown0
  have hfit : Fit s := fun {y c} hc i hi => by
    obtain ⟨ha, rfl⟩ := Array.getElem?_eq_some_iff.mp hc
    have q := List.all_eq_true.mp ((Array.all_eq_true_iff_forall_mem.mp hF) _ (Array.getElem_mem ha)) i (List.mem_range.mpr hi)
    simpa [Array.getElem?_eq_getElem hi] using q
  obtain ⟨i0, ev0⟩ := is_v g0
  obtain rfl : w0 = (.int i0) := Option.some.inj ev0
  obtain ⟨i1, ev1⟩ := is_v g1
  obtain rfl : w1 = (.int i1) := Option.some.inj ev1
  obtain ⟨i2, ev2⟩ := is_v g2
  obtain rfl : w2 = (.int i2) := Option.some.inj ev2
  obtain ⟨i3, ev3⟩ := is_v g3
  obtain rfl : w3 = (.int i3) := Option.some.inj ev3
  obtain ⟨i4, ev4⟩ := is_v g4
  obtain rfl : w4 = (.int i4) := Option.some.inj ev4
  obtain ⟨i5, ev5⟩ := is_v g5
  obtain rfl : w5 = (.int i5) := Option.some.inj ev5
  have hnz := not_v (Cond.before_iff.mp (hsets _ (List.mem_of_getElem? (i := 2) rfl)))
  obtain ⟨zc, ezc⟩ := is_v (Cond.before_iff.mp (hsets _ (List.mem_of_getElem? (i := 1) rfl)))
  have S_COMPACT_STRINGS := Sta.start ezc (Or.inl (hsets _ (List.mem_of_getElem? (i := 0) rfl)))
  have hzc : ¬ (zc = (0 : Int32)) := gotF (Cond.eq_ints ezc (Term.int_eval (0))) hnz
  obtain ⟨fm, efm, hfm⟩ := isR_v (Cond.before_iff.mp (hsets _ (List.mem_of_getElem? (i := 8) rfl)))
  have S_SIOOBE_FORMATTER := Sta.start efm (Or.inl (hsets _ (List.mem_of_getElem? (i := 7) rfl)))
  obtain ⟨n, o, h1, h2, h3, _, L, rfl, ⟨rfl, N⟩, hq⟩ := rmlaw l s _ hw tables_1 i0 i1 i2 i3 i4 i5 zc fm s.heap s.heap.size (Old.start s) S_COMPACT_STRINGS S_SIOOBE_FORMATTER hzc hfm p e ha hc hk s m _ below hf ((Spec.applies_iff_loose hf).mp happ).1 ⟨rfl, State.Warmed39.refl s, rfl⟩ trivial
  refine ⟨n, _, h1, h2, h3, hpost _ _ _ _ _ _ ⟨Cond.after_iff.mpr rfl, Cond.after_iff.mpr (eq_i res_at (Term.int_eval (1)) rfl), trivial⟩ ⟨hq.1, hq.2.1, (hq.2.2.sift fun y hy => Or.inr (N y hy)).mono (by decide) (by decide)⟩⟩
theorem main_1_1 : Claimed_1_1 := comes_1 fun _ _ _ _ _ _ h hF => ⟨h.1, hF⟩
theorem main_1_2 : Claimed_1_2 := comes_1 fun _ _ _ _ _ _ h hF => ⟨h.2.1, hF⟩
end Jvm.Pilot.@@N@@
namespace Jvm.Pilot.@@N@@
open Jvm Jvm.ClassFile Sem Op Lib Jvm.Free Jvm.Stand Jvm.Pilot.@@N@@.Jvm.D
/-! MADE BY PROGRAM (witnessworld.py) out of the Statement's table words and the real class files: 20 classes; the members and pool entries that the words name. The judged class is class 1, her method 1. -/
namespace start1
open Jvm.ClassFile
def u (s : String) : CpInfo := .utf8 (stringToUtf16 s)
/-- a pool by its gaps: so many unusable entries, then the entry; so many at the end -/
def gap : Nat → List CpInfo → List CpInfo
  | 0, r => r
  | n + 1, r => .unusable :: gap n r
def poolList (es : List (Nat × CpInfo)) (last : Nat) : List CpInfo := es.foldr (fun e r => gap e.1 (e.2 :: r)) (gap last [])
def pool (es : List (Nat × CpInfo)) (last : Nat) : Array CpInfo := ⟨poolList es last⟩
def fileOf (pool : Array CpInfo) (this : Nat) (attrs : Array Attribute := #[]) (ms : Array MethodInfo := #[]) (fl : Nat := 33) (sup : Nat := 0) (ifs : Array Nat := #[]) (fds : Array FieldInfo := #[]) : ClassFile where
  minorVersion := 0
  majorVersion := 65
  constantPool := pool
  accessFlags := fl
  thisClass := this
  superClass := sup
  interfaces := ifs
  fields := fds
  methods := ms
  attributes := attrs
def plain (name : String) (sup : Option ClassId) : Class where
  name := name
  kind := .ordinary
  loader := none
  accessFlags := 33
  super := sup
  interfaces := #[]
  cf := none
  fields := #[]
  methods := #[]
  instanceTypes := #[]
  staticTypes := #[]
  resolved := #[]
  callSites := []
  init := .initialized
  statics := none
  mirror := none

def pool0 : Array CpInfo := pool [(5, u "<init>"), (0, u "()V"), (1, .class_ 10), (1, u "java/lang/Object")] 113

def k0c0 : Code := { maxStack := 0, maxLocals := 1, code := object_method_1_code, exceptionTable := #[], attributes := #[] }
def k0m0 : Method := { name := "<init>", desc := "()V", sig := { parameters := [], returnType := none }, accessFlags := 1, code := some k0c0 }
/-- java/lang/Object -/
def k0 : Class := { plain "java/lang/Object" none with
  accessFlags := 33
  interfaces := #[]
  cf := some (fileOf pool0 8 #[] #[{ accessFlags := 1, nameIndex := 5, descriptorIndex := 6, attributes := #[] }] 33 0 #[] #[])
  fields := #[]
  methods := #[k0m0]
  instanceTypes := #[]
  staticTypes := #[]
  resolved := Array.replicate 124 none
  statics := none }

def pool1 : Array CpInfo := pool [(2, .class_ 4), (1, u "java/lang/Object"), (0, u "<init>"), (0, u "()V"), (0, .methodref 8 9), (0, .class_ 10), (0, .nameAndType 11 12), (0, u "nearcast/engine/SipHashLittleEndianPinLaw"), (0, u "ch"), (0, u "(II)C"), (0, .integer 2147483647), (0, .class_ 15), (0, u "java/lang/String"), (0, .methodref 14 17), (0, .nameAndType 5 18), (0, u "([C)V"), (0, .methodref 20 21), (0, .class_ 22), (0, .nameAndType 23 24), (0, u "nearcast/engine/SipHash"), (0, u "littleEndian"), (0, u "(Ljava/lang/String;II)J"), (0, .methodref 8 26), (0, .nameAndType 27 28), (0, u "part"), (0, u "([CIII)J"), (2, u "law"), (0, u "(IIIIII)Z")] 5

def k1m0 : Method := { name := "<init>", desc := "()V", sig := { parameters := [], returnType := none }, accessFlags := 1, code := none }
def k1c1 : Code := { maxStack := 6, maxLocals := 14, code := code, exceptionTable := #[], attributes := #[] }
def k1m1 : Method := { name := "law", desc := "(IIIIII)Z", sig := { parameters := [.int, .int, .int, .int, .int, .int], returnType := some .boolean }, accessFlags := 9, code := some k1c1 }
def k1c2 : Code := { maxStack := 3, maxLocals := 2, code := method_3_code, exceptionTable := #[], attributes := #[] }
def k1m2 : Method := { name := "ch", desc := "(II)C", sig := { parameters := [.int, .int], returnType := some .char }, accessFlags := 10, code := some k1c2 }
def k1c3 : Code := { maxStack := 4, maxLocals := 4, code := method_4_code, exceptionTable := #[], attributes := #[] }
def k1m3 : Method := { name := "part", desc := "([CIII)J", sig := { parameters := [(.array .char), .int, .int, .int], returnType := some .long }, accessFlags := 10, code := some k1c3 }
/-- nearcast/engine/SipHashLittleEndianPinLaw -/
def k1 : Class := { plain "nearcast/engine/SipHashLittleEndianPinLaw" (some 0) with
  accessFlags := 49
  interfaces := #[]
  cf := some (fileOf pool1 8 #[] #[{ accessFlags := 1, nameIndex := 5, descriptorIndex := 6, attributes := #[] }, { accessFlags := 9, nameIndex := 31, descriptorIndex := 32, attributes := #[] }, { accessFlags := 10, nameIndex := 11, descriptorIndex := 12, attributes := #[] }, { accessFlags := 10, nameIndex := 27, descriptorIndex := 28, attributes := #[] }] 49 2 #[] #[])
  fields := #[]
  methods := #[k1m0, k1m1, k1m2, k1m3]
  instanceTypes := #[]
  staticTypes := #[]
  resolved := Array.replicate 38 none
  statics := none }

def pool2 : Array CpInfo := pool [(1, .class_ 2), (0, u "java/io/Serializable"), (0, .class_ 4), (0, u "java/lang/Object")] 2

/-- java/io/Serializable -/
def k2 : Class := { plain "java/io/Serializable" (some 0) with
  accessFlags := 1537
  interfaces := #[]
  cf := some (fileOf pool2 1 #[] #[] 1537 3 #[] #[])
  fields := #[]
  methods := #[]
  instanceTypes := #[]
  staticTypes := #[]
  resolved := Array.replicate 7 none
  statics := none }

def pool3 : Array CpInfo := pool [(1, .class_ 2), (0, u "java/lang/Comparable"), (0, .class_ 4), (0, u "java/lang/Object")] 7

/-- java/lang/Comparable -/
def k3 : Class := { plain "java/lang/Comparable" (some 0) with
  accessFlags := 1537
  interfaces := #[]
  cf := some (fileOf pool3 1 #[] #[] 1537 3 #[] #[])
  fields := #[]
  methods := #[]
  instanceTypes := #[]
  staticTypes := #[]
  resolved := Array.replicate 12 none
  statics := none }

def pool4 : Array CpInfo := pool [(2, .class_ 4), (1, u "java/lang/CharSequence"), (42, .class_ 48), (0, u "java/lang/CharSequence$1CodePointIterator"), (10, .class_ 60), (0, u "java/lang/CharSequence$1CharIterator"), (5, .class_ 67), (0, u "java/lang/Object")] 63

/-- java/lang/CharSequence -/
def k4 : Class := { plain "java/lang/CharSequence" (some 0) with
  accessFlags := 1537
  interfaces := #[]
  cf := some (fileOf pool4 2 #[.nestMembers #[47, 59]] #[] 1537 66 #[] #[])
  fields := #[]
  methods := #[]
  instanceTypes := #[]
  staticTypes := #[]
  resolved := Array.replicate 131 none
  statics := none }

def pool5 : Array CpInfo := pool [(1, .class_ 2), (0, u "java/lang/constant/Constable"), (0, .class_ 4), (0, u "java/lang/Object")] 6

/-- java/lang/constant/Constable -/
def k5 : Class := { plain "java/lang/constant/Constable" (some 0) with
  accessFlags := 1537
  interfaces := #[]
  cf := some (fileOf pool5 1 #[] #[] 1537 3 #[] #[])
  fields := #[]
  methods := #[]
  instanceTypes := #[]
  staticTypes := #[]
  resolved := Array.replicate 11 none
  statics := none }

def pool6 : Array CpInfo := pool [(1, .class_ 2), (0, u "java/lang/constant/ConstantDesc"), (0, .class_ 4), (0, u "java/lang/Object")] 32

/-- java/lang/constant/ConstantDesc -/
def k6 : Class := { plain "java/lang/constant/ConstantDesc" (some 0) with
  accessFlags := 1537
  interfaces := #[]
  cf := some (fileOf pool6 1 #[] #[] 1537 3 #[] #[])
  fields := #[]
  methods := #[]
  instanceTypes := #[]
  staticTypes := #[]
  resolved := Array.replicate 37 none
  statics := none }

def pool7 : Array CpInfo := pool [(1, .methodref 2 3), (0, .class_ 4), (0, .nameAndType 5 6), (0, u "java/lang/Object"), (0, u "<init>"), (0, u "()V"), (2, .fieldref 10 11), (0, .class_ 12), (0, .nameAndType 13 14), (0, u "java/lang/String"), (0, u "value"), (0, u "[B"), (0, .fieldref 10 16), (0, .nameAndType 17 18), (0, u "coder"), (0, u "B"), (2, u "hash"), (0, u "I"), (2, u "hashIsZero"), (0, u "Z"), (0, .methodref 10 28), (0, .nameAndType 5 29), (0, u "([CIILjava/lang/Void;)V"), (8, .fieldref 10 39), (0, .nameAndType 40 26), (0, u "COMPACT_STRINGS"), (1, .class_ 44), (1, u "java/lang/StringUTF16"), (0, u "compress"), (1, .methodref 42 48), (0, .nameAndType 49 50), (0, u "coderFromArrayLen"), (0, u "([BI)B"), (56, .class_ 109), (1, u "java/lang/StringLatin1"), (32, u "()Z"), (34, .methodref 42 178), (0, .nameAndType 45 179), (0, u "([CII)[B"), (183, u "([BI)C"), (27, u "(II)V"), (35, u "(I)C"), (64, .methodref 10 493), (0, .nameAndType 494 142), (0, u "isLatin1"), (0, .methodref 107 496), (0, .nameAndType 497 363), (0, u "charAt"), (3, u "checkIndex"), (73, .class_ 576), (0, u "java/lang/CharSequence"), (22, u "CASE_INSENSITIVE_ORDER"), (0, u "Ljava/util/Comparator;"), (409, u "([C)V"), (42, .fieldref 1054 1055), (0, .class_ 1056), (0, .nameAndType 1057 1058), (0, u "jdk/internal/util/Preconditions"), (0, u "SIOOBE_FORMATTER"), (0, u "Ljava/util/function/BiFunction;"), (0, .methodref 1054 1060), (0, .nameAndType 501 1061), (0, u "(IILjava/util/function/BiFunction;)I"), (39, u "serialPersistentFields"), (0, u "[Ljava/io/ObjectStreamField;"), (0, .class_ 1104), (0, u "java/lang/String$CaseInsensitiveComparator"), (1, .class_ 1107), (0, u "java/io/Serializable"), (0, .class_ 1109), (0, u "java/lang/Comparable"), (0, .class_ 1111), (0, u "java/lang/constant/Constable"), (0, .class_ 1113), (0, u "java/lang/constant/ConstantDesc"), (2, u "serialVersionUID"), (0, u "J"), (3, u "REPL"), (0, u "C"), (2, u "LATIN1"), (1, u "UTF16")] 323

def k7m0 : Method := { name := "<init>", desc := "()V", sig := { parameters := [], returnType := none }, accessFlags := 1, code := none }
def k7c1 : Code := { maxStack := 5, maxLocals := 2, code := jdk_42_method_3_code, exceptionTable := #[], attributes := #[] }
def k7m1 : Method := { name := "<init>", desc := "([C)V", sig := { parameters := [(.array .char)], returnType := none }, accessFlags := 1, code := some k7c1 }
def k7c2 : Code := { maxStack := 2, maxLocals := 2, code := jdk_42_method_56_code, exceptionTable := #[], attributes := #[] }
def k7m2 : Method := { name := "charAt", desc := "(I)C", sig := { parameters := [.int], returnType := some .char }, accessFlags := 1, code := some k7c2 }
def k7c3 : Code := { maxStack := 4, maxLocals := 6, code := jdk_42_method_149_code, exceptionTable := #[], attributes := #[] }
def k7m3 : Method := { name := "<init>", desc := "([CIILjava/lang/Void;)V", sig := { parameters := [(.array .char), .int, .int, (.object "java/lang/Void")], returnType := none }, accessFlags := 2, code := some k7c3 }
def k7c4 : Code := { maxStack := 1, maxLocals := 1, code := jdk_42_method_154_code, exceptionTable := #[], attributes := #[] }
def k7m4 : Method := { name := "isLatin1", desc := "()Z", sig := { parameters := [], returnType := some .boolean }, accessFlags := 0, code := some k7c4 }
def k7c5 : Code := { maxStack := 3, maxLocals := 2, code := jdk_42_method_155_code, exceptionTable := #[], attributes := #[] }
def k7m5 : Method := { name := "checkIndex", desc := "(II)V", sig := { parameters := [.int, .int], returnType := none }, accessFlags := 8, code := some k7c5 }
/-- java/lang/String -/
def k7 : Class := { plain "java/lang/String" (some 0) with
  accessFlags := 49
  interfaces := #[2, 3, 4, 5, 6]
  cf := some (fileOf pool7 10 #[.nestMembers #[1103]] #[{ accessFlags := 1, nameIndex := 5, descriptorIndex := 6, attributes := #[] }, { accessFlags := 1, nameIndex := 5, descriptorIndex := 1010, attributes := #[] }, { accessFlags := 1, nameIndex := 497, descriptorIndex := 427, attributes := #[] }, { accessFlags := 2, nameIndex := 5, descriptorIndex := 29, attributes := #[] }, { accessFlags := 0, nameIndex := 494, descriptorIndex := 142, attributes := #[] }, { accessFlags := 8, nameIndex := 501, descriptorIndex := 391, attributes := #[] }] 49 2 #[1106, 1108, 575, 1110, 1112] #[{ accessFlags := 18, nameIndex := 13, descriptorIndex := 14, attributes := #[] }, { accessFlags := 18, nameIndex := 17, descriptorIndex := 18, attributes := #[] }, { accessFlags := 2, nameIndex := 21, descriptorIndex := 22, attributes := #[] }, { accessFlags := 2, nameIndex := 25, descriptorIndex := 26, attributes := #[] }, { accessFlags := 26, nameIndex := 1116, descriptorIndex := 1117, attributes := #[] }, { accessFlags := 24, nameIndex := 40, descriptorIndex := 26, attributes := #[] }, { accessFlags := 26, nameIndex := 1101, descriptorIndex := 1102, attributes := #[] }, { accessFlags := 26, nameIndex := 1121, descriptorIndex := 1122, attributes := #[] }, { accessFlags := 25, nameIndex := 599, descriptorIndex := 600, attributes := #[] }, { accessFlags := 24, nameIndex := 1125, descriptorIndex := 18, attributes := #[] }, { accessFlags := 24, nameIndex := 1127, descriptorIndex := 18, attributes := #[] }])
  fields := #[{ name := "value", type := (.array .byte), accessFlags := 18, slot := 0, constantValue := 0 }, { name := "coder", type := .byte, accessFlags := 18, slot := 1, constantValue := 0 }, { name := "hash", type := .int, accessFlags := 2, slot := 2, constantValue := 0 }, { name := "hashIsZero", type := .boolean, accessFlags := 2, slot := 3, constantValue := 0 }, { name := "serialVersionUID", type := .long, accessFlags := 26, slot := 0, constantValue := 0 }, { name := "COMPACT_STRINGS", type := .boolean, accessFlags := 24, slot := 1, constantValue := 0 }, { name := "serialPersistentFields", type := (.array (.object "java/io/ObjectStreamField")), accessFlags := 26, slot := 2, constantValue := 0 }, { name := "REPL", type := .char, accessFlags := 26, slot := 3, constantValue := 0 }, { name := "CASE_INSENSITIVE_ORDER", type := (.object "java/util/Comparator"), accessFlags := 25, slot := 4, constantValue := 0 }, { name := "LATIN1", type := .byte, accessFlags := 24, slot := 5, constantValue := 0 }, { name := "UTF16", type := .byte, accessFlags := 24, slot := 6, constantValue := 0 }]
  methods := #[k7m0, k7m1, k7m2, k7m3, k7m4, k7m5]
  instanceTypes := #[(.array .byte), .byte, .int, .boolean]
  staticTypes := #[.long, .boolean, (.array (.object "java/io/ObjectStreamField")), .char, (.object "java/util/Comparator"), .byte, .byte]
  resolved := Array.replicate 1451 none
  statics := some 0 }

def pool8 : Array CpInfo := pool [(6, .class_ 8), (1, u "java/lang/Object"), (0, u "<init>"), (0, u "()V"), (1, .class_ 14), (1, u "java/lang/StringUTF16"), (31, u "$assertionsDisabled"), (0, u "Z"), (13, u "HI_BYTE_SHIFT"), (0, u "I"), (2, u "LO_BYTE_SHIFT"), (49, .methodref 12 116), (0, .nameAndType 117 118), (0, u "compress"), (0, u "([CI[BII)I"), (3, u "([CII)[B"), (138, u "coderFromArrayLen"), (0, u "([BI)B"), (106, .class_ 371), (1, u "java/lang/StringUTF16$LinesSpliterator"), (58, u "MAX_LENGTH"), (196, .class_ 628), (0, u "java/lang/StringUTF16$CodePointsSpliterator"), (0, .class_ 630), (0, u "java/lang/StringUTF16$CharsSpliterator")] 4

def k8m0 : Method := { name := "<init>", desc := "()V", sig := { parameters := [], returnType := none }, accessFlags := 0, code := none }
def k8c1 : Code := { maxStack := 2, maxLocals := 2, code := jdk_52_method_15_code, exceptionTable := #[], attributes := #[] }
def k8m1 : Method := { name := "coderFromArrayLen", desc := "([BI)B", sig := { parameters := [(.array .byte), .int], returnType := some .byte }, accessFlags := 8, code := some k8c1 }
def k8c2 : Code := { maxStack := 5, maxLocals := 6, code := jdk_52_method_16_code, exceptionTable := #[], attributes := #[] }
def k8m2 : Method := { name := "compress", desc := "([CII)[B", sig := { parameters := [(.array .char), .int, .int], returnType := some (.array .byte) }, accessFlags := 9, code := some k8c2 }
def k8c3 : Code := { maxStack := 3, maxLocals := 7, code := jdk_52_method_21_code, exceptionTable := #[], attributes := #[] }
def k8m3 : Method := { name := "compress", desc := "([CI[BII)I", sig := { parameters := [(.array .char), .int, (.array .byte), .int, .int], returnType := some .int }, accessFlags := 9, code := some k8c3 }
/-- java/lang/StringUTF16 -/
def k8 : Class := { plain "java/lang/StringUTF16" (some 0) with
  accessFlags := 48
  interfaces := #[]
  cf := some (fileOf pool8 12 #[.nestMembers #[627, 629, 369]] #[{ accessFlags := 0, nameIndex := 9, descriptorIndex := 10, attributes := #[] }, { accessFlags := 8, nameIndex := 261, descriptorIndex := 262, attributes := #[] }, { accessFlags := 9, nameIndex := 117, descriptorIndex := 122, attributes := #[] }, { accessFlags := 9, nameIndex := 117, descriptorIndex := 118, attributes := #[] }] 48 6 #[] #[{ accessFlags := 26, nameIndex := 61, descriptorIndex := 62, attributes := #[] }, { accessFlags := 26, nameIndex := 65, descriptorIndex := 62, attributes := #[] }, { accessFlags := 24, nameIndex := 430, descriptorIndex := 62, attributes := #[] }, { accessFlags := 4120, nameIndex := 46, descriptorIndex := 47, attributes := #[] }])
  fields := #[{ name := "HI_BYTE_SHIFT", type := .int, accessFlags := 26, slot := 0, constantValue := 0 }, { name := "LO_BYTE_SHIFT", type := .int, accessFlags := 26, slot := 1, constantValue := 0 }, { name := "MAX_LENGTH", type := .int, accessFlags := 24, slot := 2, constantValue := 0 }, { name := "$assertionsDisabled", type := .boolean, accessFlags := 4120, slot := 3, constantValue := 0 }]
  methods := #[k8m0, k8m1, k8m2, k8m3]
  instanceTypes := #[]
  staticTypes := #[.int, .int, .int, .boolean]
  resolved := Array.replicate 635 none
  statics := none }

def pool9 : Array CpInfo := pool [(2, .class_ 4), (1, u "java/lang/Object"), (5, .class_ 12), (1, u "nearcast/engine/SipHash"), (0, u "v0"), (0, u "J"), (4, u "v1"), (4, u "v2"), (4, u "v3"), (6, u "length"), (10, u "littleEndian"), (5, .class_ 55), (1, u "java/lang/String"), (3, u "(Ljava/lang/String;II)J"), (8, .methodref 53 69), (0, .nameAndType 70 71), (0, u "charAt"), (0, u "(I)C")] 10

def k9c0 : Code := { maxStack := 4, maxLocals := 6, code := prog_76_method_9_code, exceptionTable := #[], attributes := #[] }
def k9m0 : Method := { name := "littleEndian", desc := "(Ljava/lang/String;II)J", sig := { parameters := [(.object "java/lang/String"), .int, .int], returnType := some .long }, accessFlags := 8, code := some k9c0 }
/-- nearcast/engine/SipHash -/
def k9 : Class := { plain "nearcast/engine/SipHash" (some 0) with
  accessFlags := 48
  interfaces := #[]
  cf := some (fileOf pool9 10 #[] #[{ accessFlags := 8, nameIndex := 47, descriptorIndex := 59, attributes := #[] }] 48 2 #[] #[{ accessFlags := 2, nameIndex := 13, descriptorIndex := 14, attributes := #[] }, { accessFlags := 2, nameIndex := 19, descriptorIndex := 14, attributes := #[] }, { accessFlags := 2, nameIndex := 24, descriptorIndex := 14, attributes := #[] }, { accessFlags := 2, nameIndex := 29, descriptorIndex := 14, attributes := #[] }, { accessFlags := 2, nameIndex := 36, descriptorIndex := 14, attributes := #[] }])
  fields := #[{ name := "v0", type := .long, accessFlags := 2, slot := 0, constantValue := 0 }, { name := "v1", type := .long, accessFlags := 2, slot := 1, constantValue := 0 }, { name := "v2", type := .long, accessFlags := 2, slot := 2, constantValue := 0 }, { name := "v3", type := .long, accessFlags := 2, slot := 3, constantValue := 0 }, { name := "length", type := .long, accessFlags := 2, slot := 4, constantValue := 0 }]
  methods := #[k9m0]
  instanceTypes := #[.long, .long, .long, .long, .long]
  staticTypes := #[]
  resolved := Array.replicate 82 none
  statics := none }

def pool10 : Array CpInfo := pool [(1, .class_ 2), (0, u "java/lang/String"), (1, .class_ 6), (1, u "java/lang/Object"), (0, u "<init>"), (0, u "()V"), (0, .methodref 1 10), (0, .nameAndType 11 12), (0, u "checkIndex"), (0, u "(II)V"), (1, .class_ 16), (1, u "java/lang/StringLatin1"), (36, u "([BI)C"), (67, u "$assertionsDisabled"), (0, u "Z"), (98, .class_ 223), (1, u "java/lang/StringLatin1$LinesSpliterator"), (28, u "charAt"), (137, .class_ 391), (0, u "java/lang/StringLatin1$CharsSpliterator")] 3

def k10m0 : Method := { name := "<init>", desc := "()V", sig := { parameters := [], returnType := none }, accessFlags := 0, code := none }
def k10c1 : Code := { maxStack := 2, maxLocals := 2, code := jdk_43_method_2_code, exceptionTable := #[], attributes := #[] }
def k10m1 : Method := { name := "charAt", desc := "([BI)C", sig := { parameters := [(.array .byte), .int], returnType := some .char }, accessFlags := 9, code := some k10c1 }
/-- java/lang/StringLatin1 -/
def k10 : Class := { plain "java/lang/StringLatin1" (some 0) with
  accessFlags := 48
  interfaces := #[]
  cf := some (fileOf pool10 14 #[.nestMembers #[390, 221]] #[{ accessFlags := 0, nameIndex := 7, descriptorIndex := 8, attributes := #[] }, { accessFlags := 9, nameIndex := 252, descriptorIndex := 53, attributes := #[] }] 48 4 #[] #[{ accessFlags := 4120, nameIndex := 121, descriptorIndex := 122, attributes := #[] }])
  fields := #[{ name := "$assertionsDisabled", type := .boolean, accessFlags := 4120, slot := 0, constantValue := 0 }]
  methods := #[k10m0, k10m1]
  instanceTypes := #[]
  staticTypes := #[.boolean]
  resolved := Array.replicate 395 none
  statics := none }

def pool11 : Array CpInfo := pool [(2, .class_ 4), (1, u "java/lang/Object"), (0, u "<init>"), (0, u "()V"), (17, .class_ 26), (1, u "jdk/internal/util/Preconditions"), (6, u "checkIndex"), (21, .class_ 56), (0, u "jdk/internal/util/Preconditions$4"), (57, .class_ 115), (0, u "jdk/internal/util/Preconditions$1"), (7, u "SIOOBE_FORMATTER"), (0, u "Ljava/util/function/BiFunction;"), (0, .class_ 126), (0, u "jdk/internal/util/Preconditions$2"), (3, u "AIOOBE_FORMATTER"), (0, .class_ 132), (0, u "jdk/internal/util/Preconditions$3"), (3, u "IOOBE_FORMATTER"), (41, u "(IILjava/util/function/BiFunction;)I")] 15

def k11m0 : Method := { name := "<init>", desc := "()V", sig := { parameters := [], returnType := none }, accessFlags := 1, code := none }
def k11c1 : Code := { maxStack := 3, maxLocals := 3, code := jdk_41_method_11_code, exceptionTable := #[], attributes := #[] }
def k11m1 : Method := { name := "checkIndex", desc := "(IILjava/util/function/BiFunction;)I", sig := { parameters := [.int, .int, (.object "java/util/function/BiFunction")], returnType := some .int }, accessFlags := 9, code := some k11c1 }
/-- jdk/internal/util/Preconditions -/
def k11 : Class := { plain "jdk/internal/util/Preconditions" (some 0) with
  accessFlags := 33
  interfaces := #[]
  cf := some (fileOf pool11 24 #[.nestMembers #[55, 131, 125, 114]] #[{ accessFlags := 1, nameIndex := 5, descriptorIndex := 6, attributes := #[] }, { accessFlags := 9, nameIndex := 33, descriptorIndex := 178, attributes := #[] }] 33 2 #[] #[{ accessFlags := 25, nameIndex := 123, descriptorIndex := 124, attributes := #[] }, { accessFlags := 25, nameIndex := 130, descriptorIndex := 124, attributes := #[] }, { accessFlags := 25, nameIndex := 136, descriptorIndex := 124, attributes := #[] }])
  fields := #[{ name := "SIOOBE_FORMATTER", type := (.object "java/util/function/BiFunction"), accessFlags := 25, slot := 0, constantValue := 0 }, { name := "AIOOBE_FORMATTER", type := (.object "java/util/function/BiFunction"), accessFlags := 25, slot := 1, constantValue := 0 }, { name := "IOOBE_FORMATTER", type := (.object "java/util/function/BiFunction"), accessFlags := 25, slot := 2, constantValue := 0 }]
  methods := #[k11m0, k11m1]
  instanceTypes := #[]
  staticTypes := #[(.object "java/util/function/BiFunction"), (.object "java/util/function/BiFunction"), (.object "java/util/function/BiFunction")]
  resolved := Array.replicate 194 none
  statics := some 1 }

def pool12 : Array CpInfo := pool [(9, u "<init>"), (6, .class_ 18), (1, u "java/lang/Object"), (0, u "()V"), (1, .class_ 23), (1, u "jdk/internal/util/ArraysSupport"), (0, u "LOG2_ARRAY_LONG_INDEX_SCALE"), (0, u "I"), (2, u "U"), (0, u "Ljdk/internal/misc/Unsafe;"), (8, u "BIG_ENDIAN"), (0, u "Z"), (8, u "LOG2_BYTE_BIT_SIZE"), (4, u "LOG2_ARRAY_INT_INDEX_SCALE"), (54, u "JLA"), (0, u "Ljdk/internal/access/JavaLangAccess;"), (11, u "LOG2_ARRAY_BOOLEAN_INDEX_SCALE"), (9, u "LOG2_ARRAY_BYTE_INDEX_SCALE"), (5, u "LOG2_ARRAY_CHAR_INDEX_SCALE"), (5, u "LOG2_ARRAY_SHORT_INDEX_SCALE"), (18, u "LOG2_ARRAY_FLOAT_INDEX_SCALE"), (24, u "LOG2_ARRAY_DOUBLE_INDEX_SCALE"), (89, u "T_BOOLEAN"), (2, u "T_CHAR"), (1, u "T_FLOAT"), (1, u "T_DOUBLE"), (1, u "T_BYTE"), (1, u "T_SHORT"), (1, u "T_INT"), (1, u "T_LONG"), (1, u "SOFT_MAX_ARRAY_LENGTH")] 83

def k12m0 : Method := { name := "<init>", desc := "()V", sig := { parameters := [], returnType := none }, accessFlags := 2, code := none }
/-- jdk/internal/util/ArraysSupport -/
def k12 : Class := { plain "jdk/internal/util/ArraysSupport" (some 0) with
  accessFlags := 33
  interfaces := #[]
  cf := some (fileOf pool12 21 #[] #[{ accessFlags := 2, nameIndex := 9, descriptorIndex := 19, attributes := #[] }] 33 16 #[] #[{ accessFlags := 24, nameIndex := 28, descriptorIndex := 29, attributes := #[] }, { accessFlags := 26, nameIndex := 38, descriptorIndex := 39, attributes := #[] }, { accessFlags := 25, nameIndex := 121, descriptorIndex := 25, attributes := #[] }, { accessFlags := 25, nameIndex := 131, descriptorIndex := 25, attributes := #[] }, { accessFlags := 25, nameIndex := 137, descriptorIndex := 25, attributes := #[] }, { accessFlags := 25, nameIndex := 143, descriptorIndex := 25, attributes := #[] }, { accessFlags := 25, nameIndex := 53, descriptorIndex := 25, attributes := #[] }, { accessFlags := 25, nameIndex := 24, descriptorIndex := 25, attributes := #[] }, { accessFlags := 25, nameIndex := 162, descriptorIndex := 25, attributes := #[] }, { accessFlags := 25, nameIndex := 187, descriptorIndex := 25, attributes := #[] }, { accessFlags := 26, nameIndex := 48, descriptorIndex := 25, attributes := #[] }, { accessFlags := 25, nameIndex := 277, descriptorIndex := 25, attributes := #[] }, { accessFlags := 25, nameIndex := 280, descriptorIndex := 25, attributes := #[] }, { accessFlags := 25, nameIndex := 282, descriptorIndex := 25, attributes := #[] }, { accessFlags := 25, nameIndex := 284, descriptorIndex := 25, attributes := #[] }, { accessFlags := 25, nameIndex := 286, descriptorIndex := 25, attributes := #[] }, { accessFlags := 25, nameIndex := 288, descriptorIndex := 25, attributes := #[] }, { accessFlags := 25, nameIndex := 290, descriptorIndex := 25, attributes := #[] }, { accessFlags := 25, nameIndex := 292, descriptorIndex := 25, attributes := #[] }, { accessFlags := 26, nameIndex := 108, descriptorIndex := 109, attributes := #[] }, { accessFlags := 25, nameIndex := 294, descriptorIndex := 25, attributes := #[] }])
  fields := #[{ name := "U", type := (.object "jdk/internal/misc/Unsafe"), accessFlags := 24, slot := 0, constantValue := 0 }, { name := "BIG_ENDIAN", type := .boolean, accessFlags := 26, slot := 1, constantValue := 0 }, { name := "LOG2_ARRAY_BOOLEAN_INDEX_SCALE", type := .int, accessFlags := 25, slot := 2, constantValue := 0 }, { name := "LOG2_ARRAY_BYTE_INDEX_SCALE", type := .int, accessFlags := 25, slot := 3, constantValue := 0 }, { name := "LOG2_ARRAY_CHAR_INDEX_SCALE", type := .int, accessFlags := 25, slot := 4, constantValue := 0 }, { name := "LOG2_ARRAY_SHORT_INDEX_SCALE", type := .int, accessFlags := 25, slot := 5, constantValue := 0 }, { name := "LOG2_ARRAY_INT_INDEX_SCALE", type := .int, accessFlags := 25, slot := 6, constantValue := 0 }, { name := "LOG2_ARRAY_LONG_INDEX_SCALE", type := .int, accessFlags := 25, slot := 7, constantValue := 0 }, { name := "LOG2_ARRAY_FLOAT_INDEX_SCALE", type := .int, accessFlags := 25, slot := 8, constantValue := 0 }, { name := "LOG2_ARRAY_DOUBLE_INDEX_SCALE", type := .int, accessFlags := 25, slot := 9, constantValue := 0 }, { name := "LOG2_BYTE_BIT_SIZE", type := .int, accessFlags := 26, slot := 10, constantValue := 0 }, { name := "T_BOOLEAN", type := .int, accessFlags := 25, slot := 11, constantValue := 0 }, { name := "T_CHAR", type := .int, accessFlags := 25, slot := 12, constantValue := 0 }, { name := "T_FLOAT", type := .int, accessFlags := 25, slot := 13, constantValue := 0 }, { name := "T_DOUBLE", type := .int, accessFlags := 25, slot := 14, constantValue := 0 }, { name := "T_BYTE", type := .int, accessFlags := 25, slot := 15, constantValue := 0 }, { name := "T_SHORT", type := .int, accessFlags := 25, slot := 16, constantValue := 0 }, { name := "T_INT", type := .int, accessFlags := 25, slot := 17, constantValue := 0 }, { name := "T_LONG", type := .int, accessFlags := 25, slot := 18, constantValue := 0 }, { name := "JLA", type := (.object "jdk/internal/access/JavaLangAccess"), accessFlags := 26, slot := 19, constantValue := 0 }, { name := "SOFT_MAX_ARRAY_LENGTH", type := .int, accessFlags := 25, slot := 20, constantValue := 0 }]
  methods := #[k12m0]
  instanceTypes := #[]
  staticTypes := #[(.object "jdk/internal/misc/Unsafe"), .boolean, .int, .int, .int, .int, .int, .int, .int, .int, .int, .int, .int, .int, .int, .int, .int, .int, .int, (.object "jdk/internal/access/JavaLangAccess"), .int]
  resolved := Array.replicate 378 none
  statics := none }

def pool13 : Array CpInfo := pool [(1, u "java/lang/Cloneable"), (0, .class_ 1), (0, u "java/lang/Object"), (0, .class_ 3)] 3

/-- java/lang/Cloneable -/
def k13 : Class := { plain "java/lang/Cloneable" (some 0) with
  accessFlags := 1537
  interfaces := #[]
  cf := some (fileOf pool13 2 #[] #[] 1537 4 #[] #[])
  fields := #[]
  methods := #[]
  instanceTypes := #[]
  staticTypes := #[]
  resolved := Array.replicate 8 none
  statics := none }

/-- the primitive byte -/
def k14 : Class := { plain "byte" none with kind := .primitive 'B', accessFlags := 0x411 }
/-- [B -/
def k15 : Class := { plain "[B" (some 0) with kind := .array 14 .byte, interfaces := #[13, 2], accessFlags := 1041 }

/-- the primitive char -/
def k16 : Class := { plain "char" none with kind := .primitive 'C', accessFlags := 0x411 }
/-- [C -/
def k17 : Class := { plain "[C" (some 0) with kind := .array 16 .char, interfaces := #[13, 2], accessFlags := 1041 }

/-- the primitive int -/
def k18 : Class := { plain "int" none with kind := .primitive 'I', accessFlags := 0x411 }
/-- [I -/
def k19 : Class := { plain "[I" (some 0) with kind := .array 18 .int, interfaces := #[13, 2], accessFlags := 1041 }

def heap : Heap := #[{ cls := 7, slots := #[.long 0, .int 1, .null, .int 0, .null, .int 0, .int 0], vm := .statics 7 },
  { cls := 11, slots := #[.null, .null, .null], vm := .statics 11 }]
def classes : Array Class := #[k0, k1, k2, k3, k4, k5, k6, k7, k8, k9, k10, k11, k12, k13, k14, k15, k16, k17, k18, k19]
def interned : List (Array UInt16 × Addr) := []
def slotsUsed : Nat := 10
def theMethod : MethodId := ⟨1, 1⟩
def args0 : Array Value := #[.int 1, .int 2, .int 1, .int 2, .int 1, .int 2]
def aboutOver (below : List Frame) : State where
  vm := { classes := classes, interned := interned.toArray }
  heap := heap
  slotsUsed := slotsUsed
  threads := #[{ frames := .invoking theMethod args0 :: below }]
def below0 : List Frame := [.native { method := ⟨0, 0⟩, args := #[] }]
def about1 : State := aboutOver below0
def p0 : Program := .bare "" "" ""
def e0 : Env := launch0.env 0 0 0
theorem w_frames : about1.frames = Frame.invoking theMethod args0 :: below0 := rfl
set_option maxRecDepth 65536 in
theorem w_args : argsFit about1.vm theMethod args0 = true := by decide +kernel
set_option maxRecDepth 65536 in
theorem w_heap : heapFits about1 = true := by decide +kernel
set_option maxRecDepth 65536 in
theorem w_runnable : about1.curStatus? = some .runnable := by decide +kernel
set_option maxRecDepth 65536 in
theorem w_alone : about1.alone = true := by decide +kernel
set_option maxRecDepth 65536 in
theorem w_named : about1.methodNamed? x = some theMethod := by decide +kernel
set_option maxRecDepth 65536 in
theorem w_hears : about1.hears theMethod below0 = true := by decide +kernel
set_option maxRecDepth 65536 in
theorem w_ripe : about1.ripe theMethod args0 below0 = true := by decide +kernel
theorem w_running : about1.status = .running := rfl
set_option maxRecDepth 65536 in
theorem w_room : about1.hasRoom e0.platform room_1 = true :=
  launch0.hasRoom_least _ room_1 (by decide +kernel) (by decide +kernel) (by decide +kernel) (by decide +kernel) (by decide +kernel) (by decide +kernel)
theorem allAtoms_all (ts : List Jvm.Cond) (a : Array Jvm.Value) (st : Jvm.State) : (allAtoms ts).before a st = ts.all (fun c => c.before a st) := by
  induction ts with
  | nil => rfl
  | cons c t ih =>
    show (Jvm.Cond.and c (allAtoms t)).before a st = _
    rw [Jvm.Cond.before_and, ih, List.all_cons]
def words1 : List Jvm.Cond := Jvm.Cond.code x code maxLocals ret :: tables_1
/-- a 'code' word, met by the world's own term for the bytes: nothing is compared byte by byte -/
theorem code_word {y : MethodName} {bytes : ByteArray} {mx : Nat} {rt : Option FieldType} {a : Array Value} {s : State} {m : MethodId} {meth : Method} {c : Code} (h1 : s.methodNamed? y = some m) (h2 : s.vm.method? m = some meth) (h3 : meth.code = some c) (h4 : c.code = bytes)
    (h5 : (c.maxLocals == mx && c.exceptionTable.isEmpty && decide (c.maxStack ≤ mostOperands) && decide (meth.sig.returnType = rt) && !meth.locks && decide (parseMethodDescriptor y.desc = some meth.sig)) = true) : (Jvm.Cond.code y bytes mx rt).before a s = true := by
  simp only [Bool.and_eq_true, beq_iff_eq, Bool.not_eq_true', decide_eq_true_eq] at h5
  obtain ⟨⟨⟨⟨⟨g1, g2⟩, g3⟩, g4⟩, g5⟩, g6⟩ := h5
  simp [Cond.before, Cond.holds, Cond.value, h1, h2, h3, h4, g1, g2, g3, g4, g5, g6]
def isCode : Jvm.Cond → Bool
  | .code _ _ _ _ => true
  | _ => false
theorem all_split {L : List Jvm.Cond} {P : Jvm.Cond → Bool} (h1 : L.all (fun c => isCode c || P c) = true) (h2 : ∀ c ∈ L.filter isCode, P c = true) : L.all P = true := by
  refine List.all_eq_true.mpr fun c hc => ?_
  have h := List.all_eq_true.mp h1 c hc
  rcases Bool.eq_false_or_eq_true (isCode c) with hi | hi
  · exact h2 c (List.mem_filter.mpr ⟨hc, hi⟩)
  · simpa [hi] using h
set_option maxRecDepth 65536 in
theorem w_c0 : (Jvm.Cond.code x code maxLocals ret).before args0 about1 = true := code_word (m := ⟨1, 1⟩) (meth := k1m1) (c := k1c1) (by decide +kernel) rfl rfl rfl (by decide +kernel)
set_option maxRecDepth 65536 in
theorem w_c1 : (Jvm.Cond.code ({ cls := "nearcast/engine/SipHashLittleEndianPinLaw", name := "ch", desc := "(II)C" } : Jvm.MethodName) method_3_code (2 : Nat) (Option.some Jvm.ClassFile.FieldType.char)).before args0 about1 = true := code_word (m := ⟨1, 2⟩) (meth := k1m2) (c := k1c2) (by decide +kernel) rfl rfl rfl (by decide +kernel)
set_option maxRecDepth 65536 in
theorem w_c2 : (Jvm.Cond.code ({ cls := "java/lang/String", name := "<init>", desc := "([C)V" } : Jvm.MethodName) jdk_42_method_3_code (2 : Nat) (Option.none : Option Jvm.ClassFile.FieldType)).before args0 about1 = true := code_word (m := ⟨7, 1⟩) (meth := k7m1) (c := k7c1) (by decide +kernel) rfl rfl rfl (by decide +kernel)
set_option maxRecDepth 65536 in
theorem w_c3 : (Jvm.Cond.code ({ cls := "java/lang/String", name := "<init>", desc := "([CIILjava/lang/Void;)V" } : Jvm.MethodName) jdk_42_method_149_code (6 : Nat) (Option.none : Option Jvm.ClassFile.FieldType)).before args0 about1 = true := code_word (m := ⟨7, 3⟩) (meth := k7m3) (c := k7c3) (by decide +kernel) rfl rfl rfl (by decide +kernel)
set_option maxRecDepth 65536 in
theorem w_c4 : (Jvm.Cond.code ({ cls := "java/lang/Object", name := "<init>", desc := "()V" } : Jvm.MethodName) object_method_1_code (1 : Nat) (Option.none : Option Jvm.ClassFile.FieldType)).before args0 about1 = true := code_word (m := ⟨0, 0⟩) (meth := k0m0) (c := k0c0) (by decide +kernel) rfl rfl rfl (by decide +kernel)
set_option maxRecDepth 65536 in
theorem w_c5 : (Jvm.Cond.code ({ cls := "java/lang/StringUTF16", name := "compress", desc := "([CII)[B" } : Jvm.MethodName) jdk_52_method_16_code (6 : Nat) (Option.some (Jvm.ClassFile.FieldType.array Jvm.ClassFile.FieldType.byte))).before args0 about1 = true := code_word (m := ⟨8, 2⟩) (meth := k8m2) (c := k8c2) (by decide +kernel) rfl rfl rfl (by decide +kernel)
set_option maxRecDepth 65536 in
theorem w_c6 : (Jvm.Cond.code ({ cls := "java/lang/StringUTF16", name := "compress", desc := "([CI[BII)I" } : Jvm.MethodName) jdk_52_method_21_code (7 : Nat) (Option.some Jvm.ClassFile.FieldType.int)).before args0 about1 = true := code_word (m := ⟨8, 3⟩) (meth := k8m3) (c := k8c3) (by decide +kernel) rfl rfl rfl (by decide +kernel)
set_option maxRecDepth 65536 in
theorem w_c7 : (Jvm.Cond.code ({ cls := "java/lang/StringUTF16", name := "coderFromArrayLen", desc := "([BI)B" } : Jvm.MethodName) jdk_52_method_15_code (2 : Nat) (Option.some Jvm.ClassFile.FieldType.byte)).before args0 about1 = true := code_word (m := ⟨8, 1⟩) (meth := k8m1) (c := k8c1) (by decide +kernel) rfl rfl rfl (by decide +kernel)
set_option maxRecDepth 65536 in
theorem w_c8 : (Jvm.Cond.code ({ cls := "nearcast/engine/SipHash", name := "littleEndian", desc := "(Ljava/lang/String;II)J" } : Jvm.MethodName) prog_76_method_9_code (6 : Nat) (Option.some Jvm.ClassFile.FieldType.long)).before args0 about1 = true := code_word (m := ⟨9, 0⟩) (meth := k9m0) (c := k9c0) (by decide +kernel) rfl rfl rfl (by decide +kernel)
set_option maxRecDepth 65536 in
theorem w_c9 : (Jvm.Cond.code ({ cls := "java/lang/String", name := "charAt", desc := "(I)C" } : Jvm.MethodName) jdk_42_method_56_code (2 : Nat) (Option.some Jvm.ClassFile.FieldType.char)).before args0 about1 = true := code_word (m := ⟨7, 2⟩) (meth := k7m2) (c := k7c2) (by decide +kernel) rfl rfl rfl (by decide +kernel)
set_option maxRecDepth 65536 in
theorem w_c10 : (Jvm.Cond.code ({ cls := "java/lang/String", name := "isLatin1", desc := "()Z" } : Jvm.MethodName) jdk_42_method_154_code (1 : Nat) (Option.some Jvm.ClassFile.FieldType.boolean)).before args0 about1 = true := code_word (m := ⟨7, 4⟩) (meth := k7m4) (c := k7c4) (by decide +kernel) rfl rfl rfl (by decide +kernel)
set_option maxRecDepth 65536 in
theorem w_c11 : (Jvm.Cond.code ({ cls := "java/lang/StringLatin1", name := "charAt", desc := "([BI)C" } : Jvm.MethodName) jdk_43_method_2_code (2 : Nat) (Option.some Jvm.ClassFile.FieldType.char)).before args0 about1 = true := code_word (m := ⟨10, 1⟩) (meth := k10m1) (c := k10c1) (by decide +kernel) rfl rfl rfl (by decide +kernel)
set_option maxRecDepth 65536 in
theorem w_c12 : (Jvm.Cond.code ({ cls := "java/lang/String", name := "checkIndex", desc := "(II)V" } : Jvm.MethodName) jdk_42_method_155_code (2 : Nat) (Option.none : Option Jvm.ClassFile.FieldType)).before args0 about1 = true := code_word (m := ⟨7, 5⟩) (meth := k7m5) (c := k7c5) (by decide +kernel) rfl rfl rfl (by decide +kernel)
set_option maxRecDepth 65536 in
theorem w_c13 : (Jvm.Cond.code ({ cls := "jdk/internal/util/Preconditions", name := "checkIndex", desc := "(IILjava/util/function/BiFunction;)I" } : Jvm.MethodName) jdk_41_method_11_code (3 : Nat) (Option.some Jvm.ClassFile.FieldType.int)).before args0 about1 = true := code_word (m := ⟨11, 1⟩) (meth := k11m1) (c := k11c1) (by decide +kernel) rfl rfl rfl (by decide +kernel)
set_option maxRecDepth 65536 in
theorem w_c14 : (Jvm.Cond.code ({ cls := "nearcast/engine/SipHashLittleEndianPinLaw", name := "part", desc := "([CIII)J" } : Jvm.MethodName) method_4_code (4 : Nat) (Option.some Jvm.ClassFile.FieldType.long)).before args0 about1 = true := code_word (m := ⟨1, 3⟩) (meth := k1m3) (c := k1c3) (by decide +kernel) rfl rfl rfl (by decide +kernel)
def codes1 : List Jvm.Cond := [Jvm.Cond.code x code maxLocals ret, Jvm.Cond.code ({ cls := "nearcast/engine/SipHashLittleEndianPinLaw", name := "ch", desc := "(II)C" } : Jvm.MethodName) method_3_code (2 : Nat) (Option.some Jvm.ClassFile.FieldType.char), Jvm.Cond.code ({ cls := "java/lang/String", name := "<init>", desc := "([C)V" } : Jvm.MethodName) jdk_42_method_3_code (2 : Nat) (Option.none : Option Jvm.ClassFile.FieldType), Jvm.Cond.code ({ cls := "java/lang/String", name := "<init>", desc := "([CIILjava/lang/Void;)V" } : Jvm.MethodName) jdk_42_method_149_code (6 : Nat) (Option.none : Option Jvm.ClassFile.FieldType), Jvm.Cond.code ({ cls := "java/lang/Object", name := "<init>", desc := "()V" } : Jvm.MethodName) object_method_1_code (1 : Nat) (Option.none : Option Jvm.ClassFile.FieldType), Jvm.Cond.code ({ cls := "java/lang/StringUTF16", name := "compress", desc := "([CII)[B" } : Jvm.MethodName) jdk_52_method_16_code (6 : Nat) (Option.some (Jvm.ClassFile.FieldType.array Jvm.ClassFile.FieldType.byte)), Jvm.Cond.code ({ cls := "java/lang/StringUTF16", name := "compress", desc := "([CI[BII)I" } : Jvm.MethodName) jdk_52_method_21_code (7 : Nat) (Option.some Jvm.ClassFile.FieldType.int), Jvm.Cond.code ({ cls := "java/lang/StringUTF16", name := "coderFromArrayLen", desc := "([BI)B" } : Jvm.MethodName) jdk_52_method_15_code (2 : Nat) (Option.some Jvm.ClassFile.FieldType.byte), Jvm.Cond.code ({ cls := "nearcast/engine/SipHash", name := "littleEndian", desc := "(Ljava/lang/String;II)J" } : Jvm.MethodName) prog_76_method_9_code (6 : Nat) (Option.some Jvm.ClassFile.FieldType.long), Jvm.Cond.code ({ cls := "java/lang/String", name := "charAt", desc := "(I)C" } : Jvm.MethodName) jdk_42_method_56_code (2 : Nat) (Option.some Jvm.ClassFile.FieldType.char), Jvm.Cond.code ({ cls := "java/lang/String", name := "isLatin1", desc := "()Z" } : Jvm.MethodName) jdk_42_method_154_code (1 : Nat) (Option.some Jvm.ClassFile.FieldType.boolean), Jvm.Cond.code ({ cls := "java/lang/StringLatin1", name := "charAt", desc := "([BI)C" } : Jvm.MethodName) jdk_43_method_2_code (2 : Nat) (Option.some Jvm.ClassFile.FieldType.char), Jvm.Cond.code ({ cls := "java/lang/String", name := "checkIndex", desc := "(II)V" } : Jvm.MethodName) jdk_42_method_155_code (2 : Nat) (Option.none : Option Jvm.ClassFile.FieldType), Jvm.Cond.code ({ cls := "jdk/internal/util/Preconditions", name := "checkIndex", desc := "(IILjava/util/function/BiFunction;)I" } : Jvm.MethodName) jdk_41_method_11_code (3 : Nat) (Option.some Jvm.ClassFile.FieldType.int), Jvm.Cond.code ({ cls := "nearcast/engine/SipHashLittleEndianPinLaw", name := "part", desc := "([CIII)J" } : Jvm.MethodName) method_4_code (4 : Nat) (Option.some Jvm.ClassFile.FieldType.long)]
set_option maxRecDepth 65536 in
theorem codes_eq : words1.filter isCode = codes1 := rfl
theorem w_codes : ∀ c ∈ words1.filter isCode, c.before args0 about1 = true := by
  rw [codes_eq]
  intro c hc
  simp only [codes1, List.mem_cons, List.not_mem_nil, or_false] at hc
  rcases hc with rfl | rfl | rfl | rfl | rfl | rfl | rfl | rfl | rfl | rfl | rfl | rfl | rfl | rfl | rfl
  · exact w_c0
  · exact w_c1
  · exact w_c2
  · exact w_c3
  · exact w_c4
  · exact w_c5
  · exact w_c6
  · exact w_c7
  · exact w_c8
  · exact w_c9
  · exact w_c10
  · exact w_c11
  · exact w_c12
  · exact w_c13
  · exact w_c14
set_option maxRecDepth 65536 in
theorem w_t1 : (words1.take 24).all (fun c => isCode c || c.before args0 about1) = true := by decide +kernel
set_option maxRecDepth 65536 in
theorem w_t2 : ((words1.drop 24).take 24).all (fun c => isCode c || c.before args0 about1) = true := by decide +kernel
set_option maxRecDepth 65536 in
theorem w_t3 : ((words1.drop 24).drop 24).all (fun c => isCode c || c.before args0 about1) = true := by decide +kernel
theorem w_tables : (allAtoms (Jvm.Cond.code x code maxLocals ret :: tables_1)).before args0 about1 = true := by
  rw [allAtoms_all]
  show words1.all (fun c => c.before args0 about1) = true
  refine all_split ?_ w_codes
  rw [← List.take_append_drop 24 words1, List.all_append, w_t1, ← List.take_append_drop 24 (words1.drop 24), List.all_append, w_t2, w_t3]
  rfl
set_option maxRecDepth 65536 in
theorem w_rest : rest_1_c.before args0 about1 = true := by decide +kernel
set_option maxRecDepth 65536 in
theorem w_case : (Jvm.Cond.and given_1 narrow_1).before args0 about1 = true := by decide +kernel
theorem w_applies : (headSpec (Jvm.Cond.code x code maxLocals ret :: tables_1) room_1).applies x e0.platform about1 = true :=
  (Spec.applies_iff w_frames).mpr ⟨w_running, w_runnable, w_alone, w_named, w_hears, w_ripe, w_room, w_tables⟩
theorem atStart : AtStart classFile x code maxLocals ret World_1 tables_1 room_1 Calls_1 rest_1 Pre_1 launch0 p0 e0 about1 theMethod args0 below0 :=
  ⟨lists_1, trivial, launch0.admits_env _ _ _, launch0.least_env, fairChoices_fair.cas, fairChoices_fair.clock, w_frames, w_args, w_heap, w_applies, trivial, w_rest, w_case⟩
end start1
theorem witness_1 : WitnessClaimed_1 := ⟨start1.p0, start1.e0, start1.about1, start1.theMethod, start1.args0, start1.below0, start1.atStart⟩
end Jvm.Pilot.@@N@@
