import JvmDerived
import JvmDerived.Pilot.@@N@@Statement
import JvmDerived.Pilot.@@N@@Code
set_option linter.unusedVariables false
set_option linter.unusedSimpArgs false
/- laws to paste: Road.backV, Road.eqW, Road.codOf (cut by pick.py; bodies as the Statement names them) -/
namespace Jvm.Pilot.@@N@@
namespace StrChars
open Jvm Sem ClassFile Op Lib Jvm.Stand Jvm.Free.XT Jvm.Free.ALB Jvm.Free.JM Jvm.Free
open Jvm.Lib.Cold (StaticIs)
/-- a char array whose places are chars -/
def Ch (a : Addr) (A : Cell) (U : State) : Prop := Arr .char a A U ∧ Typed .char A
theorem Ch.mv {a : Addr} {A : Cell} {U U' : State} (h : Ch a A U) (hal : U.vm.Alike U'.vm) (hh : U'.heap = U.heap) : Ch a A U' := ⟨h.1.mv hal hh, h.2⟩
theorem Ch.keep {a : Addr} {A : Cell} {U U' : State} (h : Ch a A U) (hal : U.vm.Alike U'.vm) (hk : U'.heap[a]? = some A) : Ch a A U' := ⟨h.1.keep hal hk, h.2⟩
/-- what place i of a char[]'s cell holds -/
def cv (A : Cell) (i : Nat) : Int32 := match A.slots[i]? with | some (.int x) => x | _ => 0
theorem Ch.get {a : Addr} {A : Cell} {U : State} (h : Ch a A U) {i : Nat} (hi : i < A.slots.size) : A.slots[i]? = some (.int (cv A i)) := by
  have e := Array.getElem?_eq_getElem hi
  have f := h.2 i _ e
  unfold cv; rw [e]
  generalize A.slots[i] = v at f
  cases v <;> simp [fits] at f ⊢
/-- the byte that i2b leaves of a char -/
def lo8 (x : Int32) : Int32 := x.toInt8.toInt32
theorem fits_lo8 (y : Int32) : fits .byte (.int (lo8 y)) = true := by
  have h1 := y.toInt8.le_toInt
  have h2 := y.toInt8.toInt_lt
  simp only [lo8, fits, Bool.and_eq_true, decide_eq_true_eq, Int32.le_iff_toInt_le, Int8.toInt_toInt32, show (-128 : Int32).toInt = -128 from by decide, show (127 : Int32).toInt = 127 from by decide]
  omega
/-- A' is A but that each place j of lo .. hi - 1 holds f j -/
def Laid (A A' : Cell) (lo hi : Nat) (f : Nat → Value) : Prop := A'.cls = A.cls ∧ A'.vm = A.vm ∧ A'.slots.size = A.slots.size ∧ ∀ i, A'.slots[i]? = if lo ≤ i ∧ i < hi then some (f i) else A.slots[i]?
theorem Laid.zero (A : Cell) (lo : Nat) (f : Nat → Value) : Laid A A lo (lo + 0) f := ⟨rfl, rfl, rfl, fun i => by rw [if_neg (by omega)]⟩
theorem Laid.step {A Ak : Cell} {lo k : Nat} {f : Nat → Value} {v : Value} (h : Laid A Ak lo k f) (hlo : lo ≤ k) (hk : k < Ak.slots.size) (hv : v = f k) : Laid A (Ak.setSlot k v) lo (k + 1) f := by
  refine ⟨h.1, h.2.1, by simpa [Cell.setSlot] using h.2.2.1, fun i => ?_⟩
  by_cases e : k = i
  · subst e; rw [Cell.slots_setSlot_self v hk, if_pos (by omega), hv]
  · rw [Cell.slots_setSlot_ne v e, h.2.2.2 i]
    by_cases q : lo ≤ i ∧ i < k
    · rw [if_pos q, if_pos (by omega)]
    · rw [if_neg q, if_neg (by omega)]
def U16 : String := "java/lang/StringUTF16"
namespace Cmp5
def yN : MethodName := ⟨"java/lang/StringUTF16", "compress", "([CI[BII)I"⟩
abbrev yB : ByteArray := jdk_52_method_21_code
theorem d0 : decode yB 0 = .ok (.iconst 0, 1) := by decide +kernel
theorem d1 : decode yB 1 = .ok (.istore 5, 2) := by decide +kernel
theorem d3 : decode yB 3 = .ok (.iload 5, 2) := by decide +kernel
theorem d5 : decode yB 5 = .ok (.iload 4, 2) := by decide +kernel
theorem d7 : decode yB 7 = .ok (.if_icmp (.ge) 37, 3) := by decide +kernel
theorem d10 : decode yB 10 = .ok (.aload_n 0, 1) := by decide +kernel
theorem d11 : decode yB 11 = .ok (.iload_n 1, 1) := by decide +kernel
theorem d12 : decode yB 12 = .ok (.caload, 1) := by decide +kernel
theorem d13 : decode yB 13 = .ok (.istore 6, 2) := by decide +kernel
theorem d15 : decode yB 15 = .ok (.iload 6, 2) := by decide +kernel
theorem d17 : decode yB 17 = .ok (.sipush 255, 3) := by decide +kernel
theorem d20 : decode yB 20 = .ok (.if_icmp (.le) 6, 3) := by decide +kernel
theorem d26 : decode yB 26 = .ok (.aload_n 2, 1) := by decide +kernel
theorem d27 : decode yB 27 = .ok (.iload_n 3, 1) := by decide +kernel
theorem d28 : decode yB 28 = .ok (.iload 6, 2) := by decide +kernel
theorem d30 : decode yB 30 = .ok (.i2b, 1) := by decide +kernel
theorem d31 : decode yB 31 = .ok (.bastore, 1) := by decide +kernel
theorem d32 : decode yB 32 = .ok (.iinc 1 1, 3) := by decide +kernel
theorem d35 : decode yB 35 = .ok (.iinc 3 1, 3) := by decide +kernel
theorem d38 : decode yB 38 = .ok (.iinc 5 1, 3) := by decide +kernel
theorem d41 : decode yB 41 = .ok (.goto (-38), 3) := by decide +kernel
theorem d44 : decode yB 44 = .ok (.iload 4, 2) := by decide +kernel
theorem d46 : decode yB 46 = .ok (.ireturn, 1) := by decide +kernel
def site : List Cond := []
def tab : Cond := tabOf yN yB 7 (some .int) site
def P (b : Addr) (A : Cell) (d : Addr) (B : Cell) (o q len : Nat) (args : Array Value) (s : State) : Prop := args = #[.ref b, .int (Int32.ofNat o), .ref d, .int (Int32.ofNat q), .int (Int32.ofNat len)] ∧ Ch b A s ∧ Arr .byte d B s ∧ b ≠ d ∧ o + len ≤ A.slots.size ∧ q + len ≤ B.slots.size ∧ ∀ i, i < len → ¬ 255 < cv A (o + i)
def E (b : Addr) (A : Cell) (d : Addr) (B : Cell) (o q len : Nat) (r : Option Value) (s u : State) : Prop := r = some (.int (Int32.ofNat len)) ∧ ∃ B', Put d B' s u ∧ Laid B B' q (q + len) (fun j => Value.int (lo8 (cv A (o + (j - q)))))
/-- no char of the range above 255: len; the places written hold each char's low byte -/
theorem law (l : Launch) (b : Addr) (A : Cell) (d : Addr) (B : Cell) (o q len : Nat) : Law l yN 5 5 0 0 yB 7 (some .int) site (P b A d B o q len) (E b A d B o q len) (copyLocs d q len) 0 0 := by
  refine Law.of_walk (plainFor_of_name (by decide +kernel)) (by decide +kernel) (by decide +kernel) (by decide) (fun _ _ h => by rw [h.1]; rfl) (fun _ U U' hal hh h => ⟨h.1, h.2.1.mv hal hh, h.2.2.1.mv hal hh, h.2.2.2⟩) (fun r U U' V V' h1 hal h2 h => ⟨h.1, h.2.elim fun B' q => ⟨B', q.1.mv h1 h2, q.2⟩⟩) ?_
  intro p e s m args below meth c s₁ X0 hexec hbytes hml hret hlk hnm hown hh0 W hP
  obtain ⟨rfl, hA, hB, hne, l1, l2, hp⟩ := hP
  have c1 : Steps p.tables e below (s₁.setTop (entryFrame m #[.ref b, .int (Int32.ofNat o), .ref d, .int (Int32.ofNat q), .int (Int32.ofNat len)] 7)) (s₁.setTop (mkF m 0 #[.val (.ref b), .val (.int (Int32.ofNat o)), .val (.ref d), .val (.int (Int32.ofNat q)), .val (.int (Int32.ofNat len)), .unset, .unset] [])) := entry rfl
  have hA0 := hA.1.mv X0.warmed.alike hh0
  have hB0 := hB.mv X0.warmed.alike hh0
  have a31 := hA.1.2.2.2
  have c2 : Steps p.tables e below (s₁.setTop (entryFrame m #[.ref b, .int (Int32.ofNat o), .ref d, .int (Int32.ofNat q), .int (Int32.ofNat len)] 7)) (s₁.setTop (mkF m 3 #[.val (.ref b), .val (.int (Int32.ofNat o)), .val (.ref d), .val (.int (Int32.ofNat q)), .val (.int (Int32.ofNat len)), .val (.int 0), .unset] [])) := c1.trans (by
    refine iconstV X0.here hexec rfl 0 (hb hbytes d0) (by decide) ?_
    refine XS.istore X0.here hexec rfl (hb hbytes d1) rfl rfl ?_
    exact Steps.refl _)
  have loop : ∀ (r i : Nat), i + r = len → ∀ (z : Slot), (z = .unset ∨ ∃ w, z = .val w ∧ w.category = 1) → ∀ (Tl : State) (Bk : Cell), Stand p l e { frames := 0, locals := 0, cells := 0, slots := 0 } s m #[.ref b, .int (Int32.ofNat o), .ref d, .int (Int32.ofNat q), .int (Int32.ofNat len)] below meth c Tl ([] ++ copyLocs d q i) 0 0 → Put d Bk s₁ Tl → Laid B Bk q (q + i) (fun j => Value.int (lo8 (cv A (o + (j - q))))) →
      Steps p.tables e below (s₁.setTop (entryFrame m #[.ref b, .int (Int32.ofNat o), .ref d, .int (Int32.ofNat q), .int (Int32.ofNat len)] 7)) (Tl.setTop (mkF m 3 #[.val (.ref b), .val (.int (Int32.ofNat (o + i))), .val (.ref d), .val (.int (Int32.ofNat (q + i))), .val (.int (Int32.ofNat len)), .val (.int (Int32.ofNat i)), z] [])) → ∃ (T' : State) (B' : Cell) (z' : Slot), Stand p l e { frames := 0, locals := 0, cells := 0, slots := 0 } s m #[.ref b, .int (Int32.ofNat o), .ref d, .int (Int32.ofNat q), .int (Int32.ofNat len)] below meth c T' ([] ++ copyLocs d q len) 0 0 ∧ Put d B' s₁ T' ∧ Laid B B' q (q + len) (fun j => Value.int (lo8 (cv A (o + (j - q))))) ∧
      Steps p.tables e below (s₁.setTop (entryFrame m #[.ref b, .int (Int32.ofNat o), .ref d, .int (Int32.ofNat q), .int (Int32.ofNat len)] 7)) (T'.setTop (mkF m 3 #[.val (.ref b), .val (.int (Int32.ofNat (o + len))), .val (.ref d), .val (.int (Int32.ofNat (q + len))), .val (.int (Int32.ofNat len)), .val (.int (Int32.ofNat len)), z'] [])) := by
    intro r
    induction r with
    | zero =>
      intro i hi z hz Tl Bk Xl pl fl cl
      have hil : i = len := by omega
      rw [hil] at Xl fl cl
      exact ⟨Tl, Bk, z, Xl, pl, fl, cl⟩
    | succ r ih =>
      intro i hi z hz Tl Bk Xl pl fl cl
      have all := X0.warmed.alike.symm.trans Xl.warmed.alike
      have hAl := hA0.keep all (pl.other hne hA0.1)
      have hBk := hB0.like all pl.1 fl.1 fl.2.1 fl.2.2.1
      have hlt : q + i < Bk.slots.size := by rw [fl.2.2.1]; omega
      have c3 : Steps p.tables e below (s₁.setTop (entryFrame m #[.ref b, .int (Int32.ofNat o), .ref d, .int (Int32.ofNat q), .int (Int32.ofNat len)] 7)) (Tl.setTop (mkF m 12 #[.val (.ref b), .val (.int (Int32.ofNat (o + i))), .val (.ref d), .val (.int (Int32.ofNat (q + i))), .val (.int (Int32.ofNat len)), .val (.int (Int32.ofNat i)), z] [.int (Int32.ofNat (o + i)), .ref b])) := cl.trans (by
        refine XS.iload Xl.here hexec rfl (hb hbytes d3) rfl ?_
        refine XS.iload Xl.here hexec rfl (hb hbytes d5) rfl ?_
        refine XS.icmpNo Xl.here hexec rfl (hb hbytes d7) rfl (ii_ge_f (lt32 (by omega) (by omega))) ?_
        refine XS.aloadN Xl.here hexec rfl (hb hbytes d10) rfl rfl ?_
        refine XS.iloadN Xl.here hexec rfl (hb hbytes d11) rfl ?_
        exact Steps.refl _)
      have c4 : Steps p.tables e below (s₁.setTop (entryFrame m #[.ref b, .int (Int32.ofNat o), .ref d, .int (Int32.ofNat q), .int (Int32.ofNat len)] 7)) (Tl.setTop (mkF m 13 #[.val (.ref b), .val (.int (Int32.ofNat (o + i))), .val (.ref d), .val (.int (Int32.ofNat (q + i))), .val (.int (Int32.ofNat len)), .val (.int (Int32.ofNat i)), z] [.int (cv A (o + i))])) := c3.trans (by
        refine Xl.aget hexec hAl rfl (hA.get (i := o + i) (by omega)) rfl rfl (hb hbytes d12) ?_
        exact Steps.refl _)
      have c5 : Steps p.tables e below (s₁.setTop (entryFrame m #[.ref b, .int (Int32.ofNat o), .ref d, .int (Int32.ofNat q), .int (Int32.ofNat len)] 7)) (Tl.setTop (mkF m 15 #[.val (.ref b), .val (.int (Int32.ofNat (o + i))), .val (.ref d), .val (.int (Int32.ofNat (q + i))), .val (.int (Int32.ofNat len)), .val (.int (Int32.ofNat i)), .val (.int (cv A (o + i)))] [])) := c4.trans (by
        refine XS.istoreS Xl.here hexec rfl (hb hbytes d13) rfl rfl hz ?_
        exact Steps.refl _)
      have c6 : Steps p.tables e below (s₁.setTop (entryFrame m #[.ref b, .int (Int32.ofNat o), .ref d, .int (Int32.ofNat q), .int (Int32.ofNat len)] 7)) (Tl.setTop (mkF m 31 #[.val (.ref b), .val (.int (Int32.ofNat (o + i))), .val (.ref d), .val (.int (Int32.ofNat (q + i))), .val (.int (Int32.ofNat len)), .val (.int (Int32.ofNat i)), .val (.int (cv A (o + i)))] [.int (lo8 (cv A (o + i))), .int (Int32.ofNat (q + i)), .ref d])) := c5.trans (by
        refine XS.iload Xl.here hexec rfl (hb hbytes d15) rfl ?_
        refine sipushV Xl.here hexec rfl 255 (hb hbytes d17) (by decide) ?_
        refine XS.icmpYes Xl.here hexec rfl (pc0 := 20) rfl (hb hbytes d20) rfl (ii_le_t (hp i (by omega))) (by decide) rfl ?_
        refine XS.aloadN Xl.here hexec rfl (hb hbytes d26) rfl rfl ?_
        refine XS.iloadN Xl.here hexec rfl (hb hbytes d27) rfl ?_
        refine XS.iload Xl.here hexec rfl (hb hbytes d28) rfl ?_
        refine i2b Xl.here hexec rfl (hb hbytes d30) rfl ?_
        exact Steps.refl _)
      obtain ⟨T7, X7, p7, st7⟩ := Xl.aput hexec hBk rfl hlt rfl (fits_lo8 (cv A (o + i))) (g := (mkF m 31 #[.val (.ref b), .val (.int (Int32.ofNat (o + i))), .val (.ref d), .val (.int (Int32.ofNat (q + i))), .val (.int (Int32.ofNat len)), .val (.int (Int32.ofNat i)), .val (.int (cv A (o + i)))] [.int (lo8 (cv A (o + i))), .int (Int32.ofNat (q + i)), .ref d])) rfl (rest := []) rfl (hb hbytes d31)
      have c8 : Steps p.tables e below (s₁.setTop (entryFrame m #[.ref b, .int (Int32.ofNat o), .ref d, .int (Int32.ofNat q), .int (Int32.ofNat len)] 7)) (T7.setTop (mkF m 32 #[.val (.ref b), .val (.int (Int32.ofNat (o + i))), .val (.ref d), .val (.int (Int32.ofNat (q + i))), .val (.int (Int32.ofNat len)), .val (.int (Int32.ofNat i)), .val (.int (cv A (o + i)))] [])) := c6.trans (st7 _ (Steps.refl _))
      have c9 : Steps p.tables e below (s₁.setTop (entryFrame m #[.ref b, .int (Int32.ofNat o), .ref d, .int (Int32.ofNat q), .int (Int32.ofNat len)] 7)) (T7.setTop (mkF m 3 #[.val (.ref b), .val (.int (Int32.ofNat (o + i) + 1)), .val (.ref d), .val (.int (Int32.ofNat (q + i) + 1)), .val (.int (Int32.ofNat len)), .val (.int (Int32.ofNat i + 1)), .val (.int (cv A (o + i)))] [])) := c8.trans (by
        refine iincV X7.here hexec rfl 1 (hb hbytes d32) (by decide) rfl rfl ?_
        refine iincV X7.here hexec rfl 1 (hb hbytes d35) (by decide) rfl rfl ?_
        refine iincV X7.here hexec rfl 1 (hb hbytes d38) (by decide) rfl rfl ?_
        refine XS.goto X7.here hexec rfl (pc0 := 41) rfl (hb hbytes d41) (by decide) rfl ?_
        exact Steps.refl _)
      have c10 : Steps p.tables e below (s₁.setTop (entryFrame m #[.ref b, .int (Int32.ofNat o), .ref d, .int (Int32.ofNat q), .int (Int32.ofNat len)] 7)) (T7.setTop (mkF m 3 #[.val (.ref b), .val (.int (Int32.ofNat (o + (i + 1)))), .val (.ref d), .val (.int (Int32.ofNat (q + (i + 1)))), .val (.int (Int32.ofNat len)), .val (.int (Int32.ofNat (i + 1))), .val (.int (cv A (o + i)))] [])) := by
        have := c9
        rw [succ32, succ32, succ32] at this
        exact this
      exact ih (i + 1) (by omega) _ (Or.inr ⟨_, rfl, rfl⟩) T7 _ (by rw [copyLocs_step, ← List.append_assoc]; exact X7) (pl.trans p7) (fl.step (by omega) hlt (by simp)) c10
  obtain ⟨T9, B9, z9, X9, p9, f9, g9⟩ := loop len 0 (by omega) .unset (Or.inl rfl) s₁ B (by simpa [copyLocs] using X0) ⟨hB0.1, fun _ _ => rfl, rfl⟩ (Laid.zero _ _ _) c2
  have c11 : Steps p.tables e below (s₁.setTop (entryFrame m #[.ref b, .int (Int32.ofNat o), .ref d, .int (Int32.ofNat q), .int (Int32.ofNat len)] 7)) (T9.setTop (mkF m 46 #[.val (.ref b), .val (.int (Int32.ofNat (o + len))), .val (.ref d), .val (.int (Int32.ofNat (q + len))), .val (.int (Int32.ofNat len)), .val (.int (Int32.ofNat len)), z9] [.int (Int32.ofNat len)])) := g9.trans (by
    refine XS.iload X9.here hexec rfl (hb hbytes d3) rfl ?_
    refine XS.iload X9.here hexec rfl (hb hbytes d5) rfl ?_
    refine XS.icmpYes X9.here hexec rfl (pc0 := 7) rfl (hb hbytes d7) rfl (ii_ge_t (nlt32 (by omega) (Nat.le_refl _))) (by decide) rfl ?_
    refine XS.iload X9.here hexec rfl (hb hbytes d44) rfl ?_
    exact Steps.refl _)
  exact ⟨T9, some (.int (Int32.ofNat len)), _, _, _, X9, by simp, rfl, rfl, (fun h => by cases h), ⟨rfl, B9, p9.from hh0, f9⟩, fun fs hl => c11.trans (X9.ireturnOut hexec hret rfl (Or.inl rfl) (hb hbytes d46) hl)⟩
end Cmp5
namespace Cmp3
def yN : MethodName := ⟨"java/lang/StringUTF16", "compress", "([CII)[B"⟩
abbrev yB : ByteArray := jdk_52_method_16_code
theorem d0 : decode yB 0 = .ok (.iload_n 2, 1) := by decide +kernel
theorem d1 : decode yB 1 = .ok (.newarray .byte, 2) := by decide +kernel
theorem d3 : decode yB 3 = .ok (.astore_n 3, 1) := by decide +kernel
theorem d4 : decode yB 4 = .ok (.aload_n 0, 1) := by decide +kernel
theorem d5 : decode yB 5 = .ok (.iload_n 1, 1) := by decide +kernel
theorem d6 : decode yB 6 = .ok (.aload_n 3, 1) := by decide +kernel
theorem d7 : decode yB 7 = .ok (.iconst 0, 1) := by decide +kernel
theorem d8 : decode yB 8 = .ok (.iload_n 2, 1) := by decide +kernel
theorem d9 : decode yB 9 = .ok (.invokestatic 115, 3) := by decide +kernel
theorem d12 : decode yB 12 = .ok (.istore 4, 2) := by decide +kernel
theorem d14 : decode yB 14 = .ok (.iload 4, 2) := by decide +kernel
theorem d16 : decode yB 16 = .ok (.iload_n 2, 1) := by decide +kernel
theorem d17 : decode yB 17 = .ok (.if_icmp (.eq) 40, 3) := by decide +kernel
theorem d57 : decode yB 57 = .ok (.aload_n 3, 1) := by decide +kernel
theorem d58 : decode yB 58 = .ok (.areturn, 1) := by decide +kernel
def site : List Cond := [.arrayClass .byte, Cmp5.tab] ++ staticW U16 115 Cmp5.yN
def tab : Cond := tabOf yN yB 6 (some (.array .byte)) site
def P (b : Addr) (A : Cell) (o len : Nat) (args : Array Value) (s : State) : Prop := args = #[.ref b, .int (Int32.ofNat o), .int (Int32.ofNat len)] ∧ Ch b A s ∧ o + len ≤ A.slots.size ∧ len ≤ 536870912 ∧ ∀ i, i < len → ¬ 255 < cv A (o + i)
def E (b : Addr) (A : Cell) (o len : Nat) (r : Option Value) (s u : State) : Prop := NewArr .byte "[B" len (fun j => .int (lo8 (cv A (o + j)))) r s u ∧ u.heap.size = s.heap.size + 1
/-- no char of the range above 255: a new byte[] of their low bytes -/
theorem law (l : Launch) (b : Addr) (A : Cell) (o len : Nat) : Law l yN 3 3 1 18 yB 6 (some (.array .byte)) site (P b A o len) (E b A o len) [] 1 len := by
  refine Law.of_walk (plainFor_of_name (by decide +kernel)) (by decide +kernel) (by decide +kernel) (by decide) (fun _ _ h => by rw [h.1]; rfl) (fun _ U U' hal hh h => ⟨h.1, h.2.1.mv hal hh, h.2.2⟩) (fun r U U' V V' h1 hal h2 h => ⟨NewArr.mv r U U' V V' h1 hal h2 h.1, by rw [h1, h2]; exact h.2⟩) ?_
  intro p e s m args below meth c s₁ X0 hexec hbytes hml hret hlk hnm hown hh0 W hP
  obtain ⟨rfl, hA, l1, l2, hp⟩ := hP
  have a31 := hA.1.2.2.2
  have c1 : Steps p.tables e below (s₁.setTop (entryFrame m #[.ref b, .int (Int32.ofNat o), .int (Int32.ofNat len)] 6)) (s₁.setTop (mkF m 0 #[.val (.ref b), .val (.int (Int32.ofNat o)), .val (.int (Int32.ofNat len)), .unset, .unset, .unset] [])) := entry rfl
  have c2 : Steps p.tables e below (s₁.setTop (entryFrame m #[.ref b, .int (Int32.ofNat o), .int (Int32.ofNat len)] 6)) (s₁.setTop (mkF m 1 #[.val (.ref b), .val (.int (Int32.ofNat o)), .val (.int (Int32.ofNat len)), .unset, .unset, .unset] [.int (Int32.ofNat len)])) := c1.trans (by
    refine XS.iloadN X0.here hexec rfl (hb hbytes d0) rfl ?_
    exact Steps.refl _)
  obtain ⟨T3, B3, X3, ba3, bs3, bv3, bh3, bf3, st3⟩ := X0.anew hexec (atype := .byte) (wk W (.arrayClass .byte)) rfl (by show len * 1 ≤ _; omega) (by omega) (g := (mkF m 1 #[.val (.ref b), .val (.int (Int32.ofNat o)), .val (.int (Int32.ofNat len)), .unset, .unset, .unset] [.int (Int32.ofNat len)])) rfl (hb hbytes d1) (rest := []) rfl (Nat.le_refl _) (by show 0 + len ≤ len; omega)
  rw [hh0] at ba3 st3
  have kp3 : XT.Kept s T3 := (XT.Kept.of_eq hh0).push bh3
  have hA3 := hA.keep X3.warmed.alike (kp3 _ _ hA.1.1)
  have hne : b ≠ s.heap.size := hA.1.ne
  have c4 : Steps p.tables e below (s₁.setTop (entryFrame m #[.ref b, .int (Int32.ofNat o), .int (Int32.ofNat len)] 6)) (T3.setTop (mkF m 3 #[.val (.ref b), .val (.int (Int32.ofNat o)), .val (.int (Int32.ofNat len)), .unset, .unset, .unset] [.ref s.heap.size])) := c2.trans (st3 _ (Steps.refl _))
  have c5 : Steps p.tables e below (s₁.setTop (entryFrame m #[.ref b, .int (Int32.ofNat o), .int (Int32.ofNat len)] 6)) (T3.setTop (mkF m 9 #[.val (.ref b), .val (.int (Int32.ofNat o)), .val (.int (Int32.ofNat len)), .val (.ref s.heap.size), .unset, .unset] [.int (Int32.ofNat len), .int 0, .ref s.heap.size, .int (Int32.ofNat o), .ref b])) := c4.trans (by
    refine XS.astoreN X3.here hexec rfl (hb hbytes d3) rfl rfl rfl ?_
    refine XS.aloadN X3.here hexec rfl (hb hbytes d4) rfl rfl ?_
    refine XS.iloadN X3.here hexec rfl (hb hbytes d5) rfl ?_
    refine XS.aloadN X3.here hexec rfl (hb hbytes d6) rfl rfl ?_
    refine iconstV X3.here hexec rfl 0 (hb hbytes d7) (by decide) ?_
    refine XS.iloadN X3.here hexec rfl (hb hbytes d8) rfl ?_
    exact Steps.refl _)
  obtain ⟨v6, T6, X6, E6, g6⟩ := X3.callS hexec (Cmp5.law l b A s.heap.size B3 o 0 len) hown (wks W (staticW U16 115 Cmp5.yN)) (wk W Cmp5.tab) (W := 0) (Nat.le_of_ble_eq_true rfl) (Nat.le_of_ble_eq_true rfl) (Nat.le_refl _) (by show 0 + len + 0 ≤ len; omega) (g := (mkF m 9 #[.val (.ref b), .val (.int (Int32.ofNat o)), .val (.int (Int32.ofNat len)), .val (.ref s.heap.size), .unset, .unset] [.int (Int32.ofNat len), .int (Int32.ofNat 0), .ref s.heap.size, .int (Int32.ofNat o), .ref b])) rfl (by rw [hml]; rfl) c5 (argsL := [.ref b, .int (Int32.ofNat o), .ref s.heap.size, .int (Int32.ofNat 0), .int (Int32.ofNat len)]) (rest := []) rfl rfl (by show 2 * 0 + 0 ≤ _; decide) (hb hbytes d9) (⟨rfl, hA3, ba3, hne, l1, by rw [bs3]; simp, hp⟩)
  obtain ⟨rfl, B6, p6, f6⟩ := E6
  have c7 : Steps p.tables e below (s₁.setTop (entryFrame m #[.ref b, .int (Int32.ofNat o), .int (Int32.ofNat len)] 6)) (T6.setTop (mkF m 12 #[.val (.ref b), .val (.int (Int32.ofNat o)), .val (.int (Int32.ofNat len)), .val (.ref s.heap.size), .unset, .unset] [.int (Int32.ofNat len)])) := g6
  have c8 : Steps p.tables e below (s₁.setTop (entryFrame m #[.ref b, .int (Int32.ofNat o), .int (Int32.ofNat len)] 6)) (T6.setTop (mkF m 58 #[.val (.ref b), .val (.int (Int32.ofNat o)), .val (.int (Int32.ofNat len)), .val (.ref s.heap.size), .val (.int (Int32.ofNat len)), .unset] [.ref s.heap.size])) := c7.trans (by
    refine XS.istore X6.here hexec rfl (hb hbytes d12) rfl rfl ?_
    refine XS.iload X6.here hexec rfl (hb hbytes d14) rfl ?_
    refine XS.iloadN X6.here hexec rfl (hb hbytes d16) rfl ?_
    refine XS.icmpYes X6.here hexec rfl (pc0 := 17) rfl (hb hbytes d17) rfl (ii_eq_t rfl) (by decide) rfl ?_
    refine XS.aloadN X6.here hexec rfl (hb hbytes d57) rfl rfl ?_
    exact Steps.refl _)
  have X8 := X6.wide (L' := []) (cells' := 1) (slots' := len) (fun x hx hlt => by
    simp only [List.nil_append, copyLocs, List.mem_map, List.mem_range] at hx
    obtain ⟨i, -, rfl⟩ := hx
    exact absurd hlt (Nat.lt_irrefl _)) (Nat.le_refl _) (by omega)
  exact ⟨T6, some (.ref s.heap.size), _, _, _, X8, rfl, rfl, rfl, (fun h => by cases h), ⟨⟨rfl, B6, ba3.like (X3.warmed.alike.symm.trans X6.warmed.alike) p6.1 f6.1 f6.2.1 f6.2.2.1, f6.2.1.trans bv3, by rw [X6.warmed.alike.findClass, f6.1]; exact bf3, by rw [f6.2.2.1, bs3]; simp, fun j hj => by rw [f6.2.2.2 j, if_pos (by omega)]; rfl, kp3.put p6 (Nat.le_refl _)⟩, by rw [p6.2.2, bh3, hh0]; simp⟩, fun fs hl => c8.trans (X8.areturnOut hexec rfl hret rfl (hb hbytes d58) hl)⟩
end Cmp3
namespace CodL
def yN : MethodName := ⟨"java/lang/StringUTF16", "coderFromArrayLen", "([BI)B"⟩
abbrev yB : ByteArray := jdk_52_method_15_code
theorem d0 : decode yB 0 = .ok (.iload_n 1, 1) := by decide +kernel
theorem d1 : decode yB 1 = .ok (.aload_n 0, 1) := by decide +kernel
theorem d2 : decode yB 2 = .ok (.arraylength, 1) := by decide +kernel
theorem d3 : decode yB 3 = .ok (.isub, 1) := by decide +kernel
theorem d4 : decode yB 4 = .ok (.bipush 31, 2) := by decide +kernel
theorem d6 : decode yB 6 = .ok (.iushr, 1) := by decide +kernel
theorem d7 : decode yB 7 = .ok (.i2b, 1) := by decide +kernel
theorem d8 : decode yB 8 = .ok (.ireturn, 1) := by decide +kernel
def site : List Cond := []
def tab : Cond := tabOf yN yB 2 (some .byte) site
def P (d : Addr) (B : Cell) (args : Array Value) (s : State) : Prop := args = #[.ref d, .int (Int32.ofNat B.slots.size)] ∧ Arr .byte d B s
def E (r : Option Value) (s u : State) : Prop := XT.PureE (some (.int 0)) r s u
/-- an array as long as the number of chars: LATIN1 -/
theorem law (l : Launch) (d : Addr) (B : Cell) : Law l yN 2 2 0 0 yB 2 (some .byte) site (P d B) E [] 0 0 := by
  refine Law.of_walk (plainFor_of_name (by decide +kernel)) (by decide +kernel) (by decide +kernel) (by decide) (fun _ _ h => by rw [h.1]; rfl) (fun _ U U' hal hh h => ⟨h.1, h.2.mv hal hh⟩) (fun r U U' V V' h1 hal h2 h => XT.PureE.mv r U U' V V' h1 hal h2 h) ?_
  intro p e s m args below meth c s₁ X0 hexec hbytes hml hret hlk hnm hown hh0 W hP
  obtain ⟨rfl, hB⟩ := hP
  have hB0 := hB.mv X0.warmed.alike hh0
  have c1 : Steps p.tables e below (s₁.setTop (entryFrame m #[.ref d, .int (Int32.ofNat B.slots.size)] 2)) (s₁.setTop (mkF m 0 #[.val (.ref d), .val (.int (Int32.ofNat B.slots.size))] [])) := entry rfl
  have c2 : Steps p.tables e below (s₁.setTop (entryFrame m #[.ref d, .int (Int32.ofNat B.slots.size)] 2)) (s₁.setTop (mkF m 2 #[.val (.ref d), .val (.int (Int32.ofNat B.slots.size))] [.ref d, .int (Int32.ofNat B.slots.size)])) := c1.trans (by
    refine XS.iloadN X0.here hexec rfl (hb hbytes d0) rfl ?_
    refine XS.aloadN X0.here hexec rfl (hb hbytes d1) rfl rfl ?_
    exact Steps.refl _)
  have c3 : Steps p.tables e below (s₁.setTop (entryFrame m #[.ref d, .int (Int32.ofNat B.slots.size)] 2)) (s₁.setTop (mkF m 8 #[.val (.ref d), .val (.int (Int32.ofNat B.slots.size))] [.int (lo8 (ushr (Int32.ofNat B.slots.size - Int32.ofNat B.slots.size) 31))])) := c2.trans (by
    refine X0.alen hexec hB0 rfl rfl (hb hbytes d2) ?_
    refine XS.isub X0.here hexec rfl (hb hbytes d3) rfl ?_
    refine bipushV X0.here hexec rfl 31 (hb hbytes d4) (by decide) ?_
    refine iushr X0.here hexec rfl (hb hbytes d6) rfl ?_
    refine i2b X0.here hexec rfl (hb hbytes d7) rfl ?_
    exact Steps.refl _)
  have e0 : lo8 (ushr (Int32.ofNat B.slots.size - Int32.ofNat B.slots.size) 31) = 0 := by rw [Int32.sub_self]; decide
  rw [e0] at c3
  exact ⟨s₁, some (.int 0), _, _, _, X0, rfl, rfl, rfl, (fun h => by cases h), ⟨rfl, hh0⟩, fun fs hl => c3.trans (X0.ireturnOut hexec hret rfl (Or.inr (Or.inr (Or.inl rfl))) (hb hbytes d8) hl)⟩
end CodL
/-- the String at a is Latin-1 over a new byte[] (the heap's one new cell): the low bytes of the len chars of A from o on; every cell but a is kept -/
def Got (a : Addr) (D : Cell) (fV fC : Field) (A : Cell) (o len : Nat) (r : Option Value) (s u : State) : Prop := r = none ∧ ∃ D' V : Cell, Blank "java/lang/String" a D' u ∧ Same D D' [fV.slot, fC.slot] ∧ D'.slots[fV.slot]? = some (.ref s.heap.size) ∧ D'.slots[fC.slot]? = some (.int 0) ∧ Arr .byte s.heap.size V u ∧ V.vm = .none ∧ u.vm.findClass "[B" = some V.cls ∧ V.slots.size = len ∧ (∀ j, j < len → V.slots[j]? = some (.int (lo8 (cv A (o + j))))) ∧ (∀ (y : Addr) (c : Cell), y ≠ a → s.heap[y]? = some c → u.heap[y]? = some c) ∧ u.heap.size = s.heap.size + 1
theorem Got.mv {a : Addr} {D A : Cell} {fV fC : Field} {o len : Nat} : ∀ r (U U' V V' : State), U'.heap = U.heap → V.vm.Alike V'.vm → V'.heap = V.heap → Got a D fV fC A o len r U V → Got a D fV fC A o len r U' V' :=
  fun r U U' V V' h1 hal h2 ⟨e0, D', X, a1, a2, a3, a4, a5, a6, a7, a8, a9, a10, a11⟩ => ⟨e0, D', X, a1.mv hal h2, a2, by rw [h1]; exact a3, a4, by rw [h1]; exact a5.mv hal h2, a6, by rw [hal.findClass]; exact a7, a8, a9, by rw [h1, h2]; exact a10, by rw [h1, h2]; exact a11⟩
namespace New4
def yN : MethodName := ⟨"java/lang/String", "<init>", "([CIILjava/lang/Void;)V"⟩
abbrev yB : ByteArray := jdk_42_method_149_code
theorem d0 : decode yB 0 = .ok (.aload_n 0, 1) := by decide +kernel
theorem d1 : decode yB 1 = .ok (.invokespecial 1, 3) := by decide +kernel
theorem d4 : decode yB 4 = .ok (.iload_n 3, 1) := by decide +kernel
theorem d5 : decode yB 5 = .ok (.ifCond (.ne) 22, 3) := by decide +kernel
theorem d27 : decode yB 27 = .ok (.getstatic 38, 3) := by decide +kernel
theorem d30 : decode yB 30 = .ok (.ifCond (.eq) 28, 3) := by decide +kernel
theorem d33 : decode yB 33 = .ok (.aload_n 1, 1) := by decide +kernel
theorem d34 : decode yB 34 = .ok (.iload_n 2, 1) := by decide +kernel
theorem d35 : decode yB 35 = .ok (.iload_n 3, 1) := by decide +kernel
theorem d36 : decode yB 36 = .ok (.invokestatic 177, 3) := by decide +kernel
theorem d39 : decode yB 39 = .ok (.astore 5, 2) := by decide +kernel
theorem d41 : decode yB 41 = .ok (.aload_n 0, 1) := by decide +kernel
theorem d42 : decode yB 42 = .ok (.aload 5, 2) := by decide +kernel
theorem d44 : decode yB 44 = .ok (.iload_n 3, 1) := by decide +kernel
theorem d45 : decode yB 45 = .ok (.invokestatic 47, 3) := by decide +kernel
theorem d48 : decode yB 48 = .ok (.putfield 15, 3) := by decide +kernel
theorem d51 : decode yB 51 = .ok (.aload_n 0, 1) := by decide +kernel
theorem d52 : decode yB 52 = .ok (.aload 5, 2) := by decide +kernel
theorem d54 : decode yB 54 = .ok (.putfield 9, 3) := by decide +kernel
theorem d57 : decode yB 57 = .ok (.return_, 1) := by decide +kernel
def site : List Cond := [.fieldLink "java/lang/String" 38 "java/lang/String" "COMPACT_STRINGS" "Z", Cmp3.tab, CodL.tab, .laysFinal "java/lang/String" "java/lang/String" "value" "[B", .fieldLink "java/lang/String" 9 "java/lang/String" "value" "[B", .laysFinal "java/lang/String" "java/lang/String" "coder" "B", .fieldLink "java/lang/String" 15 "java/lang/String" "coder" "B"] ++ objW "java/lang/String" 1 ++ staticW "java/lang/String" 177 Cmp3.yN ++ staticW "java/lang/String" 47 CodL.yN
def tab : Cond := tabOf yN yB 6 none site
def P (a : Addr) (D : Cell) (fV fC : Field) (b : Addr) (A : Cell) (z : Int32) (o len : Nat) (args : Array Value) (s : State) : Prop := args = #[.ref a, .ref b, .int (Int32.ofNat o), .int (Int32.ofNat len), .null] ∧ Blank "java/lang/String" a D s ∧ Found "java/lang/String" "value" "[B" fV s ∧ Found "java/lang/String" "coder" "B" fC s ∧ Ch b A s ∧ StaticIs s "java/lang/String" "COMPACT_STRINGS" "Z" (.int z) ∧ ¬ z = 0 ∧ 0 < len ∧ o + len ≤ A.slots.size ∧ len ≤ 536870912 ∧ ∀ i, i < len → ¬ 255 < cv A (o + i)
def E (a : Addr) (D : Cell) (fV fC : Field) (A : Cell) (o len : Nat) (r : Option Value) (s u : State) : Prop := Got a D fV fC A o len r s u
/-- len > 0, no char of the range above 255: a Latin-1 String of their low bytes -/
theorem law (l : Launch) (a : Addr) (D : Cell) (fV fC : Field) (b : Addr) (A : Cell) (z : Int32) (o len : Nat) : Law l yN 5 4 2 35 yB 6 none site (P a D fV fC b A z o len) (E a D fV fC A o len) [⟨a, fC.slot⟩, ⟨a, fV.slot⟩] 1 len := by
  refine Law.of_walk (plainFor_of_name (by decide +kernel)) (by decide +kernel) (by decide +kernel) (by decide) (fun _ _ h => by rw [h.1]; rfl) (fun _ U U' hal hh h => ⟨h.1, h.2.1.mv hal hh, h.2.2.1.al hal, h.2.2.2.1.al hal, h.2.2.2.2.1.mv hal hh, h.2.2.2.2.2.1.there hal hh, h.2.2.2.2.2.2⟩) (fun r U U' V V' h1 hal h2 h => Got.mv r U U' V V' h1 hal h2 h) ?_
  intro p e s m args below meth c s₁ X0 hexec hbytes hml hret hlk hnm hown hh0 W hP
  obtain ⟨rfl, hB, f1, f2, hA, s1, hz, l0, l1, l2, hp⟩ := hP
  have a31 := hA.1.2.2.2
  have c1 : Steps p.tables e below (s₁.setTop (entryFrame m #[.ref a, .ref b, .int (Int32.ofNat o), .int (Int32.ofNat len), .null] 6)) (s₁.setTop (mkF m 0 #[.val (.ref a), .val (.ref b), .val (.int (Int32.ofNat o)), .val (.int (Int32.ofNat len)), .val .null, .unset] [])) := entry rfl
  have c2 : Steps p.tables e below (s₁.setTop (entryFrame m #[.ref a, .ref b, .int (Int32.ofNat o), .int (Int32.ofNat len), .null] 6)) (s₁.setTop (mkF m 1 #[.val (.ref a), .val (.ref b), .val (.int (Int32.ofNat o)), .val (.int (Int32.ofNat len)), .val .null, .unset] [.ref a])) := c1.trans (by
    refine XS.aloadN X0.here hexec rfl (hb hbytes d0) rfl rfl ?_
    exact Steps.refl _)
  obtain ⟨T3, X3, q3, st3⟩ := X0.oinit hexec hown (wks W (objW "java/lang/String" 1)) (g := (mkF m 1 #[.val (.ref a), .val (.ref b), .val (.int (Int32.ofNat o)), .val (.int (Int32.ofNat len)), .val .null, .unset] [.ref a])) rfl (by rw [hml]; rfl) (rest := []) rfl (hb hbytes d1) (W := 0) (by show 2 * 0 + 0 ≤ _; decide) (Nat.le_of_ble_eq_true rfl) (Nat.le_of_ble_eq_true rfl)
  have hh3 := q3.trans hh0
  have c4 : Steps p.tables e below (s₁.setTop (entryFrame m #[.ref a, .ref b, .int (Int32.ofNat o), .int (Int32.ofNat len), .null] 6)) (T3.setTop (mkF m 27 #[.val (.ref a), .val (.ref b), .val (.int (Int32.ofNat o)), .val (.int (Int32.ofNat len)), .val .null, .unset] [])) := (c2.trans (st3 _ (Steps.refl _))).trans (by
    refine XS.iloadN X3.here hexec rfl (hb hbytes d4) rfl ?_
    refine XS.ifYes X3.here hexec rfl (pc0 := 5) rfl (hb hbytes d5) rfl (i0_ne_t (nz32 (by omega) l0)) (by decide) rfl ?_
    exact Steps.refl _)
  obtain ⟨T5, X5, q5, st5⟩ := X3.sget hexec hown (wk W (.fieldLink "java/lang/String" 38 "java/lang/String" "COMPACT_STRINGS" "Z")) s1 (fun _ _ h => by rw [hh3]; exact h) (g := (mkF m 27 #[.val (.ref a), .val (.ref b), .val (.int (Int32.ofNat o)), .val (.int (Int32.ofNat len)), .val .null, .unset] [])) rfl (hb hbytes d27)
  have hh5 := q5.trans hh3
  have c6 : Steps p.tables e below (s₁.setTop (entryFrame m #[.ref a, .ref b, .int (Int32.ofNat o), .int (Int32.ofNat len), .null] 6)) (T5.setTop (mkF m 30 #[.val (.ref a), .val (.ref b), .val (.int (Int32.ofNat o)), .val (.int (Int32.ofNat len)), .val .null, .unset] [.int z])) := c4.trans (st5 _ (Steps.refl _))
  have c7 : Steps p.tables e below (s₁.setTop (entryFrame m #[.ref a, .ref b, .int (Int32.ofNat o), .int (Int32.ofNat len), .null] 6)) (T5.setTop (mkF m 36 #[.val (.ref a), .val (.ref b), .val (.int (Int32.ofNat o)), .val (.int (Int32.ofNat len)), .val .null, .unset] [.int (Int32.ofNat len), .int (Int32.ofNat o), .ref b])) := c6.trans (by
    refine XS.ifNo X5.here hexec rfl (hb hbytes d30) rfl (i0_eq_f hz) ?_
    refine XS.aloadN X5.here hexec rfl (hb hbytes d33) rfl rfl ?_
    refine XS.iloadN X5.here hexec rfl (hb hbytes d34) rfl ?_
    refine XS.iloadN X5.here hexec rfl (hb hbytes d35) rfl ?_
    exact Steps.refl _)
  obtain ⟨v8, T8, X8, E8, g8⟩ := X5.callS hexec (Cmp3.law l b A o len) hown (wks W (staticW "java/lang/String" 177 Cmp3.yN)) (wk W Cmp3.tab) (W := 0) (Nat.le_of_ble_eq_true rfl) (Nat.le_of_ble_eq_true rfl) (Nat.le_refl _) (by show 0 + len ≤ len; omega) (g := (mkF m 36 #[.val (.ref a), .val (.ref b), .val (.int (Int32.ofNat o)), .val (.int (Int32.ofNat len)), .val .null, .unset] [.int (Int32.ofNat len), .int (Int32.ofNat o), .ref b])) rfl (by rw [hml]; rfl) c7 (argsL := [.ref b, .int (Int32.ofNat o), .int (Int32.ofNat len)]) (rest := []) rfl rfl (by show 2 * 0 + 0 ≤ _; decide) (hb hbytes d36) (⟨rfl, hA.mv X5.warmed.alike hh5, l1, l2, hp⟩)
  obtain ⟨e8, z8⟩ := E8
  obtain ⟨rfl, N, n1, n2, n3, n4, n5, n6⟩ := NewArr.mv _ T5 s _ _ hh5.symm (Vm.Alike.refl _) rfl e8
  rw [hh5] at z8
  have hB1 := hB.keep X8.warmed.alike (n6 _ _ hB.1)
  have hne : s.heap.size ≠ a := (Nat.ne_of_lt (Array.getElem?_eq_some_iff.mp hB.1).1).symm
  have c9 : Steps p.tables e below (s₁.setTop (entryFrame m #[.ref a, .ref b, .int (Int32.ofNat o), .int (Int32.ofNat len), .null] 6)) (T8.setTop (mkF m 39 #[.val (.ref a), .val (.ref b), .val (.int (Int32.ofNat o)), .val (.int (Int32.ofNat len)), .val .null, .unset] [.ref s.heap.size])) := g8
  have c10 : Steps p.tables e below (s₁.setTop (entryFrame m #[.ref a, .ref b, .int (Int32.ofNat o), .int (Int32.ofNat len), .null] 6)) (T8.setTop (mkF m 45 #[.val (.ref a), .val (.ref b), .val (.int (Int32.ofNat o)), .val (.int (Int32.ofNat len)), .val .null, .val (.ref s.heap.size)] [.int (Int32.ofNat N.slots.size), .ref s.heap.size, .ref a])) := by
    have hc : Steps p.tables e below (s₁.setTop (entryFrame m #[.ref a, .ref b, .int (Int32.ofNat o), .int (Int32.ofNat len), .null] 6)) (T8.setTop (mkF m 45 #[.val (.ref a), .val (.ref b), .val (.int (Int32.ofNat o)), .val (.int (Int32.ofNat len)), .val .null, .val (.ref s.heap.size)] [.int (Int32.ofNat len), .ref s.heap.size, .ref a])) := c9.trans (by
      refine XS.astore X8.here hexec rfl (hb hbytes d39) rfl rfl rfl ?_
      refine XS.aloadN X8.here hexec rfl (hb hbytes d41) rfl rfl ?_
      refine XS.aload X8.here hexec rfl (hb hbytes d42) rfl rfl ?_
      refine XS.iloadN X8.here hexec rfl (hb hbytes d44) rfl ?_
      exact Steps.refl _)
    rw [n4]; exact hc
  obtain ⟨v11, T11, X11, E11, g11⟩ := X8.callS hexec (CodL.law l s.heap.size N) hown (wks W (staticW "java/lang/String" 47 CodL.yN)) (wk W CodL.tab) (W := 1) (Nat.le_of_ble_eq_true rfl) (Nat.le_of_ble_eq_true rfl) (Nat.le_refl _) (by show 0 + len + 0 ≤ len; omega) (g := (mkF m 45 #[.val (.ref a), .val (.ref b), .val (.int (Int32.ofNat o)), .val (.int (Int32.ofNat len)), .val .null, .val (.ref s.heap.size)] [.int (Int32.ofNat N.slots.size), .ref s.heap.size, .ref a])) rfl (by rw [hml]; rfl) c10 (argsL := [.ref s.heap.size, .int (Int32.ofNat N.slots.size)]) (rest := [.ref a]) rfl rfl (by show 2 * 0 + (1 + 0) ≤ _; decide) (hb hbytes d45) (⟨rfl, n1⟩)
  obtain ⟨rfl, q11⟩ := E11
  have hB11 := hB1.mv (X8.warmed.alike.symm.trans X11.warmed.alike) q11
  have c12 : Steps p.tables e below (s₁.setTop (entryFrame m #[.ref a, .ref b, .int (Int32.ofNat o), .int (Int32.ofNat len), .null] 6)) (T11.setTop (mkF m 48 #[.val (.ref a), .val (.ref b), .val (.int (Int32.ofNat o)), .val (.int (Int32.ofNat len)), .val .null, .val (.ref s.heap.size)] [.int 0, .ref a])) := g11
  obtain ⟨T13, X13, p13, bl13, sl13, st13⟩ := X11.finit hexec hown (wk W (.fieldLink "java/lang/String" 15 "java/lang/String" "coder" "B")) (Or.inr ⟨_, (wk W (.laysFinal "java/lang/String" "java/lang/String" "coder" "B"))⟩) (Or.inl ⟨rfl, hnm⟩) f2 (Or.inl rfl) hB11 (t := .byte) (by decide +kernel) rfl (g := (mkF m 48 #[.val (.ref a), .val (.ref b), .val (.int (Int32.ofNat o)), .val (.int (Int32.ofNat len)), .val .null, .val (.ref s.heap.size)] [.int 0, .ref a])) rfl (rest := []) rfl (hb hbytes d48)
  have c14 : Steps p.tables e below (s₁.setTop (entryFrame m #[.ref a, .ref b, .int (Int32.ofNat o), .int (Int32.ofNat len), .null] 6)) (T13.setTop (mkF m 54 #[.val (.ref a), .val (.ref b), .val (.int (Int32.ofNat o)), .val (.int (Int32.ofNat len)), .val .null, .val (.ref s.heap.size)] [.ref s.heap.size, .ref a])) := (c12.trans (st13 _ (Steps.refl _))).trans (by
    refine XS.aloadN X13.here hexec rfl (hb hbytes d51) rfl rfl ?_
    refine XS.aload X13.here hexec rfl (hb hbytes d52) rfl rfl ?_
    exact Steps.refl _)
  obtain ⟨T15, X15, p15, bl15, sl15, st15⟩ := X13.finit hexec hown (wk W (.fieldLink "java/lang/String" 9 "java/lang/String" "value" "[B")) (Or.inr ⟨_, (wk W (.laysFinal "java/lang/String" "java/lang/String" "value" "[B"))⟩) (Or.inl ⟨rfl, hnm⟩) f1 (Or.inl rfl) bl13 (t := (.array .byte)) (by decide +kernel) rfl (g := (mkF m 54 #[.val (.ref a), .val (.ref b), .val (.int (Int32.ofNat o)), .val (.int (Int32.ofNat len)), .val .null, .val (.ref s.heap.size)] [.ref s.heap.size, .ref a])) rfl (rest := []) rfl (hb hbytes d54)
  have c16 : Steps p.tables e below (s₁.setTop (entryFrame m #[.ref a, .ref b, .int (Int32.ofNat o), .int (Int32.ofNat len), .null] 6)) (T15.setTop (mkF m 57 #[.val (.ref a), .val (.ref b), .val (.int (Int32.ofNat o)), .val (.int (Int32.ofNat len)), .val .null, .val (.ref s.heap.size)] [])) := c14.trans (st15 _ (Steps.refl _))
  have ap := apart (Or.inr ⟨_, (wk W (.laysFinal "java/lang/String" "java/lang/String" "value" "[B"))⟩) (Or.inr ⟨_, (wk W (.laysFinal "java/lang/String" "java/lang/String" "coder" "B"))⟩) f1 f2 (t₁ := .array .byte) (t₂ := .byte) (by decide +kernel) (by decide +kernel) (by decide)
  have al := X8.warmed.alike.symm.trans X15.warmed.alike
  have n7 : T11.heap[s.heap.size]? = some N := by rw [q11]; exact n1.1
  exact ⟨T15, none, _, _, _, X15, by simp, rfl, by omega, (fun _ => rfl), ⟨rfl, _, N, bl15, ((Same.refl D _).set _ (by simp)).set _ (by simp), sl15, (Cell.slots_setSlot_ne _ ap).trans sl13, n1.keep al (p15.other hne (p13.other hne n7)), n2, by rw [al.findClass]; exact n3, n4, n5, fun y c h1 h2 => p15.other h1 (p13.other h1 (by rw [q11]; exact n6 y c h2)), by rw [p15.2.2, p13.2.2, q11]; exact z8⟩, fun fs hl => c16.trans (X15.returnOut hexec hret (hb hbytes d57) hl)⟩
end New4
namespace New1
def yN : MethodName := ⟨"java/lang/String", "<init>", "([C)V"⟩
abbrev yB : ByteArray := jdk_42_method_3_code
theorem d0 : decode yB 0 = .ok (.aload_n 0, 1) := by decide +kernel
theorem d1 : decode yB 1 = .ok (.aload_n 1, 1) := by decide +kernel
theorem d2 : decode yB 2 = .ok (.iconst 0, 1) := by decide +kernel
theorem d3 : decode yB 3 = .ok (.aload_n 1, 1) := by decide +kernel
theorem d4 : decode yB 4 = .ok (.arraylength, 1) := by decide +kernel
theorem d5 : decode yB 5 = .ok (.aconst_null, 1) := by decide +kernel
theorem d6 : decode yB 6 = .ok (.invokespecial 27, 3) := by decide +kernel
theorem d9 : decode yB 9 = .ok (.return_, 1) := by decide +kernel
def site : List Cond := [New4.tab] ++ initW "java/lang/String" 27 New4.yN
def tab : Cond := tabOf yN yB 2 none site
def P (a : Addr) (D : Cell) (fV fC : Field) (b : Addr) (A : Cell) (z : Int32) (args : Array Value) (s : State) : Prop := args = #[.ref a, .ref b] ∧ Blank "java/lang/String" a D s ∧ Found "java/lang/String" "value" "[B" fV s ∧ Found "java/lang/String" "coder" "B" fC s ∧ Ch b A s ∧ StaticIs s "java/lang/String" "COMPACT_STRINGS" "Z" (.int z) ∧ ¬ z = 0 ∧ 0 < A.slots.size ∧ A.slots.size ≤ 536870912 ∧ ∀ i, i < A.slots.size → ¬ 255 < cv A i
def E (a : Addr) (D : Cell) (fV fC : Field) (A : Cell) (r : Option Value) (s u : State) : Prop := Got a D fV fC A 0 A.slots.size r s u
/-- new String(chars), not empty, no char above 255: a Latin-1 String of their low bytes -/
theorem law (l : Launch) (a : Addr) (D : Cell) (fV fC : Field) (b : Addr) (A : Cell) (z : Int32) : Law l yN 2 1 3 52 yB 2 none site (P a D fV fC b A z) (E a D fV fC A) [⟨a, fC.slot⟩, ⟨a, fV.slot⟩] 1 A.slots.size := by
  refine Law.of_walk (plainFor_of_name (by decide +kernel)) (by decide +kernel) (by decide +kernel) (by decide) (fun _ _ h => by rw [h.1]; rfl) (fun _ U U' hal hh h => ⟨h.1, h.2.1.mv hal hh, h.2.2.1.al hal, h.2.2.2.1.al hal, h.2.2.2.2.1.mv hal hh, h.2.2.2.2.2.1.there hal hh, h.2.2.2.2.2.2⟩) (fun r U U' V V' h1 hal h2 h => Got.mv r U U' V V' h1 hal h2 h) ?_
  intro p e s m args below meth c s₁ X0 hexec hbytes hml hret hlk hnm hown hh0 W hP
  obtain ⟨rfl, hB, f1, f2, hA, s1, hz, l0, l2, hp⟩ := hP
  have c1 : Steps p.tables e below (s₁.setTop (entryFrame m #[.ref a, .ref b] 2)) (s₁.setTop (mkF m 0 #[.val (.ref a), .val (.ref b)] [])) := entry rfl
  have c2 : Steps p.tables e below (s₁.setTop (entryFrame m #[.ref a, .ref b] 2)) (s₁.setTop (mkF m 6 #[.val (.ref a), .val (.ref b)] [.null, .int (Int32.ofNat A.slots.size), .int 0, .ref b, .ref a])) := c1.trans (by
    refine XS.aloadN X0.here hexec rfl (hb hbytes d0) rfl rfl ?_
    refine XS.aloadN X0.here hexec rfl (hb hbytes d1) rfl rfl ?_
    refine iconstV X0.here hexec rfl 0 (hb hbytes d2) (by decide) ?_
    refine XS.aloadN X0.here hexec rfl (hb hbytes d3) rfl rfl ?_
    refine X0.alen hexec (hA.1.mv X0.warmed.alike hh0) rfl rfl (hb hbytes d4) ?_
    refine XS.aconstNull X0.here hexec rfl (hb hbytes d5) ?_
    exact Steps.refl _)
  obtain ⟨v3, T3, X3, E3, g3⟩ := X0.callN hexec (New4.law l a D fV fC b A z 0 A.slots.size) rfl hown (wks W (initW "java/lang/String" 27 New4.yN)) (W New4.tab (by simp only [site, List.mem_cons, List.mem_append, true_or, or_true])) (W := 0) (Nat.le_of_ble_eq_true rfl) (Nat.le_of_ble_eq_true rfl) (Nat.le_refl _) (by show 0 + A.slots.size ≤ A.slots.size; omega) (g := (mkF m 6 #[.val (.ref a), .val (.ref b)] [.null, .int (Int32.ofNat A.slots.size), .int (Int32.ofNat 0), .ref b, .ref a])) rfl (by rw [hml]; rfl) c2 (argsL := [.ref b, .int (Int32.ofNat 0), .int (Int32.ofNat A.slots.size), .null]) (rest := []) rfl rfl (by show 2 * 0 + 0 ≤ _; decide) (hb hbytes d6) (⟨rfl, hB.mv X0.warmed.alike hh0, f1.al X0.warmed.alike, f2.al X0.warmed.alike, hA.mv X0.warmed.alike hh0, s1.there X0.warmed.alike hh0, hz, l0, by omega, l2, fun i hi => by rw [Nat.zero_add]; exact hp i hi⟩)
  have e0 := Got.mv _ s₁ s _ _ hh0.symm (Vm.Alike.refl _) rfl E3
  obtain rfl := e0.1
  have c4 : Steps p.tables e below (s₁.setTop (entryFrame m #[.ref a, .ref b] 2)) (T3.setTop (mkF m 9 #[.val (.ref a), .val (.ref b)] [])) := g3
  exact ⟨T3, none, _, _, _, X3, by simp, rfl, by omega, (fun _ => rfl), e0, fun fs hl => c4.trans (X3.returnOut hexec hret (hb hbytes d9) hl)⟩
theorem pays {l : Launch} {R : Room} {p : Program} {e : Env} {below : List Frame} {s : State} {sargs : Array Value} {len W : Nat} (a : Addr) (D : Cell) (fV fC : Field) (b : Addr) (A : Cell) (z : Int32) (htab : tab.before sargs s = true) (hfr : 4 ≤ R.frames) (hlo : W + 65 ≤ R.locals) :
    Back l R p e below s sargs yN len W (fun A₁ a₁ => A₁.cells + 1 ≤ R.cells ∧ A₁.slots + A.slots.size ≤ R.slots ∧ P a D fV fC b A z a₁ A₁.U) (fun A₁ _ v₁ B₁ => E a D fV fC A v₁ A₁.U B₁.U ∧ B₁.locs = A₁.locs ++ [⟨a, fC.slot⟩, ⟨a, fV.slot⟩] ∧ B₁.cells = A₁.cells + 1 ∧ B₁.slots = A₁.slots + A.slots.size) :=
  (law l a D fV fC b A z).pays htab hfr (by omega)
end New1
/-- the byte, read back as charAt reads it, is the char -/
theorem lo8_mask {x : Int32} (h0 : ¬ x < 0) (h1 : ¬ 255 < x) : lo8 x &&& 255 = x := by
  have t : ∀ k : Fin 256, lo8 (Int32.ofNat k.val) &&& 255 = Int32.ofNat k.val := by decide +kernel
  rw [Int32.lt_iff_toInt_lt] at h0 h1
  have e0 : (0 : Int32).toInt = 0 := rfl
  have e1 : (255 : Int32).toInt = 255 := rfl
  obtain ⟨k, hk⟩ : ∃ k : Nat, x.toInt = k := ⟨x.toInt.toNat, by omega⟩
  have hx : x = Int32.ofNat k := Int32.toInt_inj.mp (by rw [hk, Int32.toInt_ofNat_small (by omega)])
  rw [hx]
  exact t ⟨k, by omega⟩
end StrChars
namespace StrChars.Road
open Jvm Sem ClassFile Op Lib Jvm.Stand Jvm.Free Jvm.Free.XT
open Jvm.Lib.Cold (StaticIs)
abbrev ST : String := "java/lang/String"
/-- every table word that New1's law asks, flat -/
abbrev words : List Jvm.Cond := [.code New1.yN New1.yB 2 none, .initialized ST, .methodLink ST 27 New4.yN, .instanceMethod New4.yN,
  .code New4.yN New4.yB 6 none, .fieldLink ST 38 ST "COMPACT_STRINGS" "Z", .laysFinal ST ST "value" "[B", .fieldLink ST 9 ST "value" "[B", .laysFinal ST ST "coder" "B", .fieldLink ST 15 ST "coder" "B",
  .methodLink ST 1 Lib.objectInit, .instanceMethod Lib.objectInit, .code Lib.objectInit ⟨#[0xb1]⟩ 1 none, .methodLink ST 177 Cmp3.yN, .static Cmp3.yN, .methodLink ST 47 CodL.yN, .static CodL.yN,
  .code Cmp3.yN Cmp3.yB 6 (some (.array .byte)), .initialized U16, .arrayClass .byte, .methodLink U16 115 Cmp5.yN, .static Cmp5.yN, .code Cmp5.yN Cmp5.yB 7 (some .int), .code CodL.yN CodL.yB 2 (some .byte)]
theorem tab_of {a : Array Value} {s : State} (h : ∀ w ∈ words, w.before a s = true) : New1.tab.before a s = true := by
  have h5 : Cmp5.tab.before a s = true := unparts (wk h (.code Cmp5.yN Cmp5.yB 7 (some .int))) (wks h (.initialized Cmp5.yN.cls :: Cmp5.site))
  have hc : CodL.tab.before a s = true := unparts (wk h (.code CodL.yN CodL.yB 2 (some .byte))) (wks h (.initialized CodL.yN.cls :: CodL.site))
  have q5 : ∀ w ∈ Cmp5.tab :: words, w.before a s = true := fun w hw => (List.mem_cons.mp hw).elim (fun e => e ▸ h5) (h w)
  have h3 : Cmp3.tab.before a s = true := unparts (wk q5 (.code Cmp3.yN Cmp3.yB 6 (some (.array .byte)))) (wks q5 (.initialized Cmp3.yN.cls :: Cmp3.site))
  have q3 : ∀ w ∈ Cmp3.tab :: CodL.tab :: words, w.before a s = true := fun w hw => (List.mem_cons.mp hw).elim (fun e => e ▸ h3) fun hw => (List.mem_cons.mp hw).elim (fun e => e ▸ hc) (h w)
  have h4 : New4.tab.before a s = true := unparts (wk q3 (.code New4.yN New4.yB 6 none)) (wks q3 (.initialized New4.yN.cls :: New4.site))
  have q4 : ∀ w ∈ New4.tab :: words, w.before a s = true := fun w hw => (List.mem_cons.mp hw).elim (fun e => e ▸ h4) (h w)
  exact unparts (wk q4 (.code New1.yN New1.yB 2 none)) (wks q4 (.initialized New1.yN.cls :: New1.site))
/-- the words ride from the start Z to the walk's own state -/
theorem moved {Z s : State} {a0 args : Array Value} (hZ : Z.Warmed39 s.vm) (hw : ∀ d ∈ words, d.before a0 Z = true) : ∀ d ∈ words, d.before args s = true := fun d hd => by
  have q := hw d hd
  have t : ∀ d ∈ words, d = .arrayClass .byte ∨ (d.onTables && d.keepsFace) = true := by decide +kernel
  rcases t d hd with rfl | t
  · exact RoadKit.mvA hZ q
  · exact RoadKit.mv hZ q t
/-- WHAT COMES BACK, over the tables of the start Z: h the heap at the call, h' behind it -/
def Q (Z : State) (x : Addr) (A : Cell) (h : Heap) (v : Option Value) (h' : Heap) (L : List Loc) : Prop := v = none ∧ (∀ y ∈ L, y.base = x) ∧ RoadKit.Keep h h' [x] ∧ h'.size = h.size + 1 ∧ RoadKit.Exa Z h' x ST ∧ RoadKit.Fld Z h' x ST "value" "[B" (.ref h.size) ∧ RoadKit.Fld Z h' x ST "coder" "B" (.int 0) ∧
  (∃ V : Cell, RoadKit.Arr Z h' h.size V .byte ∧ V.vm = .none ∧ Z.vm.findClass "[B" = some V.cls ∧ V.slots.size = A.slots.size ∧ ∀ j, j < A.slots.size → V.slots[j]? = some (.int (lo8 (cv A j)))) ∧
  ∀ (O n d : String) (w : Value), RoadKit.Fld Z h x O n d w → RoadKit.slotOf Z O n d ≠ RoadKit.slotOf Z ST "value" "[B" → RoadKit.slotOf Z O n d ≠ RoadKit.slotOf Z ST "coder" "B" → RoadKit.Fld Z h' x O n d w
/-- **new String(chars) AT A CALL, IN THE ROAD'S FORM**: for specialBack behind newO: x the fresh String, b the char[] with the cell A -/
theorem back {p : Program} {l : Launch} {e : Env} {R : Room} {s : State} {args : Array Value} {below : List Frame} {len W : Nat} {Z : State} {a0 : Array Value} {h : Heap} (hZ : Z.Warmed39 s.vm) (hw : ∀ d ∈ words, d.before a0 Z = true) {kI : Nat} (wi : (Jvm.Cond.instantiable ST kI).before a0 Z = true)
    {x b : Addr} {A : Cell} {z : Int32} {v0 c0 : Value} (E : RoadKit.Exa Z h x ST) (V : RoadKit.Fld Z h x ST "value" "[B" v0) (C : RoadKit.Fld Z h x ST "coder" "B" c0) (K : RoadKit.Arr Z h b A .char) (hty : Typed .char A) (S : RoadKit.Sta Z h ST "COMPACT_STRINGS" "Z" (.int z)) (hz : ¬ z = 0)
    (l0 : 0 < A.slots.size) (l2 : A.slots.size ≤ 536870912) (hp : ∀ i, i < A.slots.size → ¬ 255 < cv A i) (hfr : 4 ≤ R.frames) (hlo : W + 65 ≤ R.locals) :
    Back l R p e below s args New1.yN len W (fun P a => a = #[.ref x, .ref b] ∧ P.U.heap = h ∧ P.cells + 1 ≤ R.cells ∧ P.slots + A.slots.size ≤ R.slots)
      (fun P _ v B => ∃ L, Q Z x A h v B.U.heap L ∧ B.locs = P.locs ++ L ∧ B.cells = P.cells + 1 ∧ B.slots = P.slots + A.slots.size) := by
  intro m meth c P g ig mk a X hg hsize hdg hW hn hp'
  obtain ⟨rfl, rfl, r1, r2⟩ := hp'
  have al : Z.vm.Alike P.U.vm := hZ.alike.trans X.warmed.alike
  obtain ⟨D, cfV, kV, iV, fV, hD, gV, stV, knV, obV, asV, slV⟩ := id V
  obtain ⟨D', cfC, kC, iC, fC, hD', gC, stC, -, -, asC, slC⟩ := id C
  cases hD.symm.trans hD'
  obtain ⟨D2, kD, e1, e2, e3, e4, e5⟩ := id E
  cases hD.symm.trans e1
  obtain ⟨c2, k2, i1, i2, i3, -⟩ := Cond.instantiable_spec wi
  cases e2.symm.trans i1
  cases e3.symm.trans i2
  obtain ⟨kU, u1, u2⟩ := al.2.2 _ _ e3
  have hB : Blank ST x D P.U := ⟨hD, ⟨knV, fun q hq => by rw [hq] at obV; cases obV⟩, by rw [al.findClass]; exact e2, kU, u1, by rw [u2]; exact i3, by rw [u2]; exact e5 i3⟩
  have F1 : Found ST "value" "[B" fV P.U := ⟨SBG.found_only al ⟨cfV, kV, iV, gV⟩, stV⟩
  have F2 : Found ST "coder" "B" fC P.U := ⟨SBG.found_only al ⟨cfC, kC, iC, gC⟩, stC⟩
  have hA : Ch b A P.U := ⟨⟨K.1, State.isArrayOf_alike al K.2.1, K.2.2, by omega⟩, hty⟩
  have hS : StaticIs P.U ST "COMPACT_STRINGS" "Z" (.int z) := by
    obtain ⟨cfS, iS, kS, fS, st, cS, t1, t2, t3, t4, t5, t6, t7⟩ := S
    exact StaticIs.there (s := { Z with heap := P.U.heap }) ⟨cfS, iS, kS, fS, st, cS, t1, t2, t3, t4, t5, (fun q => by rw [q] at t6; cases t6), t7⟩ al rfl
  obtain ⟨v, B, X', ⟨⟨hv, E', V', q1, q2, q3, q4, q5, q6, q7, q8, q9, q10, q11⟩, hl, hc, hs⟩, st⟩ := New1.pays x D fV fC b A z (tab_of (moved hZ hw)) hfr hlo m meth c P g ig mk _ X hg hsize hdg hW hn ⟨r1, r2, rfl, hB, F1, F2, hA, hS, hz, l0, l2, hp⟩
  have al' : Z.vm.Alike B.U.vm := hZ.alike.trans X'.warmed.alike
  have hsz : E'.slots.size = D.slots.size := by
    obtain ⟨-, -, -, kB, w1, w2, w3⟩ := q1
    obtain ⟨kB', y1, y2⟩ := al'.2.2 _ _ e3
    rw [q2.2.1] at w1
    cases w1.symm.trans y1
    rw [w3, e5 i3, y2]
  refine ⟨v, B, X', ⟨_, ⟨hv, ?_, ⟨by omega, fun y cy hy hn' => q10 y cy (by simpa using hn') hy, fun y cy hy => ?_⟩, q11, ⟨E', _, q1.1, by rw [q2.2.1]; exact e2, by rw [q2.2.1]; exact e3, by rw [q2.1]; exact obV, fun _ => by rw [hsz]; exact e5 i3⟩,
    ⟨E', cfV, kV, iV, fV, q1.1, gV, stV, by rw [q2.1]; exact knV, by rw [q2.1]; exact obV, by rw [q2.2.1]; exact asV, q3⟩, ⟨E', cfC, kC, iC, fC, q1.1, gC, stC, by rw [q2.1]; exact knV, by rw [q2.1]; exact obV, by rw [q2.2.1]; exact asC, q4⟩,
    ⟨V', ⟨q5.1, State.isArrayOf_alike al'.symm q5.2.1, q5.2.2.1⟩, q6, by rw [← al'.findClass]; exact q7, q8, fun j hj => by have := q9 j hj; rwa [Nat.zero_add] at this⟩, fun O n d w F n1 n2 => ?_⟩, hl, hc, hs⟩, st⟩
  · intro y hy
    simp only [List.mem_cons, List.not_mem_nil, or_false] at hy
    rcases hy with rfl | rfl <;> rfl
  · by_cases q : y = x
    · subst q
      cases hD.symm.trans hy
      exact ⟨E', q1.1, q2.2.1, q2.1, hsz⟩
    · exact ⟨cy, q10 y cy q hy, rfl, rfl, rfl⟩
  · obtain ⟨D3, cf, k, i, f, g1, g2, g3, g4, g5, g6, g7⟩ := F
    cases hD.symm.trans g1
    simp only [RoadKit.slotOf, g2, gV, gC, Option.map_some, Option.getD_some] at n1 n2
    exact ⟨E', cf, k, i, f, q1.1, g2, g3, by rw [q2.1]; exact g4, by rw [q2.1]; exact g5, by rw [q2.2.1]; exact g6, by rw [q2.2.2 f.slot (by simp [n1, n2])]; exact g7⟩
end StrChars.Road
namespace StrChars.Road
open Jvm Sem ClassFile Op Lib Jvm.Stand Jvm.Free Jvm.Free.XT
/-- WHAT COMES BACK, the byte[] as a list of values -/
def QA (Z : State) (x : Addr) (zn : Int32) (cs : List Int32) (h : Heap) (v : Option Value) (h' : Heap) (L : List Loc) : Prop := v = none ∧ (∀ y ∈ L, y.base = x) ∧ RoadKit.Keep h h' [x] ∧ h'.size = h.size + 1 ∧ RoadKit.Exa Z h' x ST ∧ RoadKit.Fld Z h' x ST "value" "[B" (.ref h.size) ∧ RoadKit.Fld Z h' x ST "coder" "B" (.int 0) ∧
  (∃ kb, Z.vm.findClass "[B" = some kb ∧ RoadKit.Arv Z h' h.size kb .byte zn (cs.map fun c => .int (lo8 c)) (.int 0)) ∧
  ∀ (O n d : String) (w : Value), RoadKit.Fld Z h x O n d w → RoadKit.slotOf Z O n d ≠ RoadKit.slotOf Z ST "value" "[B" → RoadKit.slotOf Z O n d ≠ RoadKit.slotOf Z ST "coder" "B" → RoadKit.Fld Z h' x O n d w
/-- **new String(chars) AT A CALL, THE ARRAYS AS LISTS**: the char[] at b holds cs, not empty, no char above 255 -/
theorem backArv {p : Program} {l : Launch} {e : Env} {R : Room} {s : State} {args : Array Value} {below : List Frame} {len W : Nat} {Z : State} {a0 : Array Value} {h : Heap} (hZ : Z.Warmed39 s.vm) (hw : ∀ d ∈ words, d.before a0 Z = true) {kI : Nat} (wi : (Jvm.Cond.instantiable ST kI).before a0 Z = true)
    {x b : Addr} {k : ClassId} {zn z : Int32} {cs : List Int32} {dv v0 c0 : Value} (E : RoadKit.Exa Z h x ST) (V : RoadKit.Fld Z h x ST "value" "[B" v0) (C : RoadKit.Fld Z h x ST "coder" "B" c0) (K : RoadKit.Arv Z h b k .char zn (cs.map Value.int) dv) (S : RoadKit.Sta Z h ST "COMPACT_STRINGS" "Z" (.int z)) (hz : ¬ z = 0)
    (hlen : zn.toNatClampNeg = cs.length) (h0 : 0 < cs.length) (hbig : cs.length ≤ 536870912) (hall : ∀ c ∈ cs, ¬ 255 < c) (hfr : 4 ≤ R.frames) (hlo : W + 65 ≤ R.locals) :
    Back l R p e below s args New1.yN len W (fun P a => a = #[.ref x, .ref b] ∧ P.U.heap = h ∧ P.cells + 1 ≤ R.cells ∧ P.slots + cs.length ≤ R.slots)
      (fun P _ v B => ∃ L, QA Z x zn cs h v B.U.heap L ∧ B.locs = P.locs ++ L ∧ B.cells = P.cells + 1 ∧ B.slots = P.slots + cs.length) := by
  obtain ⟨A, K1, K2, K3, K4, K5, K6⟩ := K
  have e : A.slots.size = cs.length := K3.trans hlen
  have hat : ∀ (i : Nat) (hi : i < cs.length), A.slots[i]? = some (.int cs[i]) := fun i hi => by rw [K5 i (by omega)]; simp [List.getD_eq_getElem?_getD, hi]
  have hcv : ∀ (i : Nat) (hi : i < cs.length), cv A i = cs[i] := fun i hi => by unfold cv; rw [hat i hi]
  have hty : Typed .char A := fun i v hv => by
    have hi : i < A.slots.size := (Array.getElem?_eq_some_iff.mp hv).1
    have q := K5 i hi
    rw [hv] at q
    rw [Option.some.inj q]
    exact K6 i hi
  refine Back.mono (back hZ hw wi E V C K1 hty S hz (by omega) (by omega) (fun i hi => by rw [hcv i (by omega)]; exact hall _ (List.getElem_mem _)) hfr hlo) (fun P a hp => ⟨hp.1, hp.2.1, hp.2.2.1, by rw [e]; exact hp.2.2.2⟩) (fun P a v B hp hq => ?_)
  obtain ⟨L, ⟨q1, q2, q3, q4, q5, q6, q7, ⟨V', v1, v2, v3, v4, v5⟩, q9⟩, hl, hc, hs⟩ := hq
  refine ⟨L, ⟨q1, q2, q3, q4, q5, q6, q7, ⟨V'.cls, v3, V', v1, rfl, by rw [v4, e, hlen], K4, fun i hi => ?_, fun i hi => ?_⟩, q9⟩, hl, hc, by rw [hs, e]⟩
  · have hi' : i < cs.length := by omega
    rw [v5 i (by omega), hcv i hi']; simp [List.getD_eq_getElem?_getD, hi']
  · have hi' : i < cs.length := by omega
    simp only [List.getD_eq_getElem?_getD, List.getElem?_map, List.getElem?_eq_getElem hi', Option.map_some, Option.getD_some]
    exact fits_lo8 _
end StrChars.Road
namespace StrChars.Road
open Jvm Sem ClassFile Op Lib Jvm.Stand Jvm.Free Jvm.Free.XT
/-- WHAT COMES BACK, in the writer's own shape -/
def QV (Z : State) (x : Addr) (N : Int32) (bs : List Int32) (h : Heap) (n0 : Nat) (v : Option Value) (h' : Heap) (L : List Loc) : Prop := v = none ∧ RoadKit.Fr n0 L ∧ RoadKit.Keep h h' [x] ∧ RoadKit.Exa Z h' x ST ∧ RoadKit.Fld Z h' x ST "coder" "B" (.int 0) ∧
  ∃ (t : Addr) (kb : ClassId), n0 ≤ t ∧ h.size ≤ t ∧ ¬ t = x ∧ RoadKit.Fld Z h' x ST "value" "[B" (.ref t) ∧ RoadKit.Arv Z h' t kb .byte N (bs.map Value.int) (.int 0)
/-- **new String(chars) AT A CALL, FOR THE WRITER**: a char[] of n known ints, each 0 to 255 -/
theorem backV {p : Program} {l : Launch} {e : Env} {R : Room} {s : State} {args : Array Value} {below : List Frame} {len W : Nat} {Z : State} {a0 : Array Value} {h : Heap} (hZ : Z.Warmed39 s.vm) (hw : ∀ d ∈ words, d.before a0 Z = true) {kI : Nat} (wi : (Jvm.Cond.instantiable ST kI).before a0 Z = true)
    {x b : Addr} {kC : ClassId} {cs bs : List Int32} {d v0 c0 : Value} {z N : Int32} {n n0 : Nat} (hx0 : n0 ≤ x) (hh0 : n0 ≤ h.size) (E : RoadKit.Exa Z h x ST) (V : RoadKit.Fld Z h x ST "value" "[B" v0) (C : RoadKit.Fld Z h x ST "coder" "B" c0) (K : RoadKit.Arv Z h b kC .char N (cs.map Value.int) d) (S : RoadKit.Sta Z h ST "COMPACT_STRINGS" "Z" (.int z)) (hz : ¬ z = 0)
    (hn : cs.length = n) (hN : N = Int32.ofNat n) (l0 : 0 < n) (l2 : n ≤ 4000) (hp : ∀ c ∈ cs, ¬ c < 0 ∧ ¬ (255 : Int32) < c) (hb : bs = cs.map (fun c => c.toInt8.toInt32)) (hfr : 4 ≤ R.frames) (hlo : W + 65 ≤ R.locals) :
    Back l R p e below s args (⟨"java/lang/String", "<init>", "([C)V"⟩ : MethodName) len W (fun P a => a = #[.ref x, .ref b] ∧ P.U.heap = h ∧ P.cells + 1 ≤ R.cells ∧ P.slots + n ≤ R.slots)
      (fun P _ v B => ∃ L, QV Z x N bs h n0 v B.U.heap L ∧ B.locs = P.locs ++ L ∧ B.cells = P.cells + 1 ∧ B.slots = P.slots + n) := by
  subst hn hN hb
  refine Back.mono (backArv hZ hw wi E V C K S hz (n32 (by omega)) l0 (by omega) (fun c hc => (hp c hc).2) hfr hlo) (fun P a hp => hp) (fun P a v B hp hq => ?_)
  obtain ⟨L, ⟨q1, q2, q3, q4, q5, q6, q7, ⟨kb, v1, v2⟩, q9⟩, hl, hc, hs⟩ := hq
  exact ⟨L, ⟨q1, fun y hy => by rw [q2 y hy]; exact hx0, q3, q5, q7, h.size, kb, hh0, Nat.le_refl _, Nat.ne_of_gt E.lt, q6, by rw [List.map_map]; exact v2⟩, hl, hc, hs⟩
end StrChars.Road
namespace StrChars
open Jvm Sem ClassFile Op Lib Jvm.Stand Jvm.Free.XT Jvm.Free.ALB Jvm.Free.JM Jvm.Free
open Jvm.Lib.Cold (StaticIs)
def hi8 (x : Int32) : Int32 := lo8 (x >>> ((8 : Int32) &&& 31))
/-- what StringUTF16.getChar makes of two bytes -/
def pairCh (u v : Int32) : Int32 := (((u &&& 255) <<< ((0 : Int32) &&& 31)) ||| ((v &&& 255) <<< ((8 : Int32) &&& 31))).toUInt32.toUInt16.toUInt32.toInt32
theorem lo8_and (x : Int32) : (lo8 x &&& 255).toBitVec.toNat = x.toBitVec.toNat % 256 := by
  have h : (lo8 x).toBitVec = (x.toBitVec.signExtend 8).signExtend 32 := by rw [lo8, Int8.toBitVec_toInt32, Int32.toBitVec_toInt8]
  rw [Int32.toBitVec_and, BitVec.toNat_and, h]
  have e : ((x.toBitVec.signExtend 8).signExtend 32).toNat % 256 = x.toBitVec.toNat % 256 := by
    rw [BitVec.toNat_signExtend]
    have hlt := x.toBitVec.isLt
    simp only [BitVec.toNat_setWidth, BitVec.toNat_signExtend]
    split <;> split <;> omega
  rw [← e]
  exact Nat.and_two_pow_sub_one_eq_mod _ 8
theorem pair_says {c : Int32} (h0 : ¬ c < 0) (h1 : ¬ 65535 < c) : pairCh (lo8 c) (hi8 c) = c := by
  rw [Int32.lt_iff_toInt_lt] at h0 h1
  have e0 : (0 : Int32).toInt = 0 := rfl
  have e1 : (65535 : Int32).toInt = 65535 := rfl
  have hc : c.toInt = c.toBitVec.toNat := by
    have := c.toBitVec.isLt
    have e : c.toInt = c.toBitVec.toInt := rfl
    rw [e] at h0 h1
    rw [e]
    rw [BitVec.toInt_eq_toNat_cond] at h0 h1 ⊢
    split at h0 <;> split <;> omega
  have hn : c.toBitVec.toNat < 65536 := by omega
  have a1 := lo8_and c
  have a2 : (hi8 c &&& 255).toBitVec.toNat = c.toBitVec.toNat / 256 := by
    rw [hi8, lo8_and]
    have e : ((8 : Int32) &&& 31) = 8 := by decide
    rw [e, Int32.toBitVec_shiftRight]
    have e2 : ((8 : Int32).toBitVec.smod 32) = 8#32 := by decide
    rw [e2, BitVec.sshiftRight_eq', BitVec.toNat_sshiftRight_of_msb_false (by rw [BitVec.msb_eq_false_iff_two_mul_lt]; omega)]
    show c.toBitVec.toNat >>> 8 % 256 = _
    rw [Nat.shiftRight_eq_div_pow]
    omega
  unfold pairCh
  apply Int32.toBitVec_inj.mp
  apply BitVec.eq_of_toNat_eq
  have f0 : ((0 : Int32) &&& 31) = 0 := by decide
  have f8 : ((8 : Int32) &&& 31) = 8 := by decide
  rw [f0, f8]
  have g : (((lo8 c &&& 255) <<< (0 : Int32)) ||| ((hi8 c &&& 255) <<< (8 : Int32))).toBitVec.toNat = c.toBitVec.toNat := by
    rw [Int32.toBitVec_or, Int32.toBitVec_shiftLeft, Int32.toBitVec_shiftLeft]
    have s0 : ((0 : Int32).toBitVec.smod 32) = 0#32 := by decide
    have s8 : ((8 : Int32).toBitVec.smod 32) = 8#32 := by decide
    rw [s0, s8, BitVec.toNat_or]
    simp only [BitVec.shiftLeft_eq', BitVec.toNat_shiftLeft, a1, a2]
    show (c.toBitVec.toNat % 256) <<< 0 % 2 ^ 32 ||| (c.toBitVec.toNat / 256) <<< 8 % 2 ^ 32 = _
    rw [Nat.shiftLeft_zero, Nat.mod_eq_of_lt (show c.toBitVec.toNat % 256 < 2 ^ 32 by omega), Nat.mod_eq_of_lt (show (c.toBitVec.toNat / 256) <<< 8 < 2 ^ 32 by rw [Nat.shiftLeft_eq]; omega), Nat.or_comm, ← Nat.shiftLeft_add_eq_or_of_lt (by omega), Nat.shiftLeft_eq]
    omega
  show BitVec.toNat (((((lo8 c &&& 255) <<< (0 : Int32)) ||| ((hi8 c &&& 255) <<< (8 : Int32))).toBitVec.setWidth 16).setWidth 32) = _
  rw [BitVec.toNat_setWidth, BitVec.toNat_setWidth, g]
  omega
end StrChars
namespace StrChars
open Jvm Sem ClassFile Op Lib Jvm.Stand Jvm.Free.XT Jvm.Free.ALB Jvm.Free.JM Jvm.Free
open Jvm.Lib.Cold (StaticIs)
/-- the array's cell V codes the n chars f 0 .. f (n - 1) by the coder cd, as the JDK does: coder 1 just where some char is above 255 -/
def Cod (cd : Int32) (n : Nat) (f : Nat → Int32) (V : Cell) : Prop := (cd = 0 ∧ V.slots.size = n ∧ ∀ j, j < n → V.slots[j]? = some (.int (lo8 (f j))) ∧ ¬ 255 < f j) ∨ (cd = 1 ∧ V.slots.size = 2 * n ∧ (∀ j, j < n → V.slots[2 * j]? = some (.int (lo8 (f j))) ∧ V.slots[2 * j + 1]? = some (.int (hi8 (f j)))) ∧ ∃ j, j < n ∧ 255 < f j)
/-- **x is a String of the n chars f 0 .. f (n - 1)**, Latin-1 or UTF-16; its array at t has the cell V -/
def Txt (x t : Addr) (V : Cell) (cd : Int32) (n : Nat) (f : Nat → Int32) (U : State) : Prop := Exact "java/lang/String" x U ∧ Has x "java/lang/String" "value" "[B" (.ref t) U ∧ Has x "java/lang/String" "coder" "B" (.int cd) U ∧ XT.Arr .byte t V U ∧ Cod cd n f V ∧ ∀ j, j < n → ¬ f j < 0 ∧ ¬ 65535 < f j
theorem Txt.mv {x t : Addr} {V : Cell} {cd : Int32} {n : Nat} {f : Nat → Int32} {U U' : State} (h : Txt x t V cd n f U) (hal : U.vm.Alike U'.vm) (hh : U'.heap = U.heap) : Txt x t V cd n f U' := ⟨h.1.mv hal hh, h.2.1.mv hal hh, h.2.2.1.mv hal hh, h.2.2.2.1.mv hal hh, h.2.2.2.2⟩
end StrChars
namespace StrChars.Road
open Jvm Sem ClassFile Op Lib Jvm.Stand Jvm.Free Jvm.Free.XT
open Jvm.Lib.Cold (StaticIs)
theorem consq {a : Array Value} {s : State} {c : Jvm.Cond} {L : List Jvm.Cond} (h0 : c.before a s = true) (h : ∀ w ∈ L, w.before a s = true) : ∀ w ∈ c :: L, w.before a s = true := fun w hw => (List.mem_cons.mp hw).elim (fun e => e ▸ h0) (h w)
/-- the bytes of the chars cs, low before high -/
def wideBytes : List Int32 → List Value
  | [] => []
  | c :: cs => .int (lo8 c) :: .int (hi8 c) :: wideBytes cs
theorem wide_lo (d : Value) : ∀ (cs : List Int32) (j : Nat), j < cs.length → (wideBytes cs).getD (2 * j) d = .int (lo8 (cs.getD j 0))
  | [], j, h => absurd h (Nat.not_lt_zero j)
  | c :: cs, 0, _ => rfl
  | c :: cs, j + 1, h => by
    have q := wide_lo d cs j (by simpa using h)
    rw [show 2 * (j + 1) = 2 * j + 1 + 1 from by omega]
    simpa [wideBytes] using q
theorem wide_hi (d : Value) : ∀ (cs : List Int32) (j : Nat), j < cs.length → (wideBytes cs).getD (2 * j + 1) d = .int (hi8 (cs.getD j 0))
  | [], j, h => absurd h (Nat.not_lt_zero j)
  | c :: cs, 0, _ => rfl
  | c :: cs, j + 1, h => by
    have q := wide_hi d cs j (by simpa using h)
    rw [show 2 * (j + 1) + 1 = 2 * j + 1 + 1 + 1 from by omega]
    simpa [wideBytes] using q
theorem low_at (d : Value) (cs : List Int32) (j : Nat) (h : j < cs.length) : (cs.map fun c => Value.int (lo8 c)).getD j d = .int (lo8 (cs.getD j 0)) := by
  simp [List.getD_eq_getElem?_getD, h]
/-- an array of N2 bytes vs codes the chars cs by the coder cd -/
def CodA (cs : List Int32) (cd N2 : Int32) (vs : List Value) : Prop := (cd = 0 ∧ N2 = Int32.ofNat cs.length ∧ vs = (cs.map fun c => Value.int (lo8 c)) ∧ ∀ c ∈ cs, ¬ 255 < c) ∨ (cd = 1 ∧ N2 = Int32.ofNat (2 * cs.length) ∧ vs = wideBytes cs ∧ ∃ c ∈ cs, 255 < c)
theorem CodA.cod {cs : List Int32} {cd N2 : Int32} {vs : List Value} {V : Cell} (h : CodA cs cd N2 vs) (hn : 2 * cs.length < 2 ^ 31) (hs : V.slots.size = N2.toNatClampNeg) (hv : RoadKit.Has V vs (.int 0)) : Cod cd cs.length (fun j => cs.getD j 0) V := by
  rcases h with ⟨rfl, rfl, rfl, h⟩ | ⟨rfl, rfl, rfl, c, hc, hw⟩
  · rw [n32 (by omega)] at hs
    exact Or.inl ⟨rfl, hs, fun j hj => ⟨by rw [hv j (by omega), low_at _ _ _ hj], by
      have e : cs.getD j 0 = cs[j] := by simp [List.getD_eq_getElem?_getD, hj]
      show ¬ 255 < cs.getD j 0
      rw [e]; exact h _ (List.getElem_mem _)⟩⟩
  · rw [n32 (by omega)] at hs
    obtain ⟨j, hj, rfl⟩ := List.getElem_of_mem hc
    exact Or.inr ⟨rfl, hs, fun j hj => ⟨by rw [hv _ (by omega), wide_lo _ _ _ hj], by rw [hv _ (by omega), wide_hi _ _ _ hj]⟩, j, hj, by
      have e : cs.getD j 0 = cs[j] := by simp [List.getD_eq_getElem?_getD, hj]
      show 255 < cs.getD j 0
      rw [e]; exact hw⟩
/-- an object of exactly java/lang/String, its two fields found: as the laws ask it -/
theorem strObj {Z U : State} {a0 : Array Value} {kI : Nat} (wi : (Jvm.Cond.instantiable ST kI).before a0 Z = true) (al : Z.vm.Alike U.vm) {x : Addr} {v0 c0 : Value} (E : RoadKit.Exa Z U.heap x ST) (V : RoadKit.Fld Z U.heap x ST "value" "[B" v0) (C : RoadKit.Fld Z U.heap x ST "coder" "B" c0) :
    ∃ (D : Cell) (fV fC : Field), Blank ST x D U ∧ Found ST "value" "[B" fV U ∧ Found ST "coder" "B" fC U ∧ D.slots[fV.slot]? = some v0 ∧ D.slots[fC.slot]? = some c0 ∧ RoadKit.slotOf Z ST "value" "[B" = fV.slot ∧ RoadKit.slotOf Z ST "coder" "B" = fC.slot := by
  obtain ⟨D, cfV, kV, iV, fV, hD, gV, stV, knV, obV, asV, slV⟩ := V
  obtain ⟨D', cfC, kC, iC, fC, hD', gC, stC, -, -, asC, slC⟩ := C
  cases hD.symm.trans hD'
  obtain ⟨D2, kD, e1, e2, e3, e4, e5⟩ := E
  cases hD.symm.trans e1
  obtain ⟨c2, k2, i1, i2, i3, -⟩ := Cond.instantiable_spec wi
  cases e2.symm.trans i1
  cases e3.symm.trans i2
  obtain ⟨kU, u1, u2⟩ := al.2.2 _ _ e3
  exact ⟨D, fV, fC, ⟨hD, ⟨knV, fun q hq => by rw [hq] at obV; cases obV⟩, by rw [al.findClass]; exact e2, kU, u1, by rw [u2]; exact i3, by rw [u2]; exact e5 i3⟩, ⟨SBG.found_only al ⟨cfV, kV, iV, gV⟩, stV⟩, ⟨SBG.found_only al ⟨cfC, kC, iC, gC⟩, stC⟩, slV, slC, by simp [RoadKit.slotOf, gV], by simp [RoadKit.slotOf, gC]⟩
theorem sta_is {Z U : State} (al : Z.vm.Alike U.vm) {C n d : String} {v : Value} (S : RoadKit.Sta Z U.heap C n d v) : StaticIs U C n d v := by
  obtain ⟨cfS, iS, kS, fS, st, cS, t1, t2, t3, t4, t5, t6, t7⟩ := S
  exact StaticIs.there (s := { Z with heap := U.heap }) ⟨cfS, iS, kS, fS, st, cS, t1, t2, t3, t4, t5, (fun q => by rw [q] at t6; cases t6), t7⟩ al rfl
end StrChars.Road
namespace StrChars
open Jvm Sem ClassFile Op Lib Jvm.Stand Jvm.Free.XT Jvm.Free.ALB Jvm.Free.JM Jvm.Free
open Jvm.Lib.Cold (StaticIs)
/-- what place i of a byte[]'s cell holds -/
def yv (A : Cell) (i : Nat) : Int32 := match A.slots[i]? with | some (.int x) => x | _ => 0
theorem yv_get {a : Addr} {A : Cell} {U : State} (h : XT.Arr .byte a A U) (ht : Typed .byte A) {i : Nat} (hi : i < A.slots.size) : A.slots[i]? = some (.int (yv A i)) := by
  have e := Array.getElem?_eq_getElem hi
  have f := ht i _ e
  unfold yv; rw [e]
  generalize A.slots[i] = v at f
  cases v <;> simp [fits] at f ⊢
/-- the two arrays are equal, place for place -/
def EqC (A B : Cell) : Prop := A.slots.size = B.slots.size ∧ ∀ i, i < A.slots.size → yv A i = yv B i
/-- a boolean that says whether p -/
def Says01 (q : Prop) (r : Option Value) (s u : State) : Prop := ∃ v : Int32, r = some (.int v) ∧ u.heap = s.heap ∧ ((v = 1 ∧ q) ∨ (v = 0 ∧ ¬ q))
theorem Says01.mv {q : Prop} : ∀ r (U U' V V' : State), U'.heap = U.heap → V.vm.Alike V'.vm → V'.heap = V.heap → Says01 q r U V → Says01 q r U' V' :=
  fun r U U' V V' h1 _ h2 ⟨v, a, b, c⟩ => ⟨v, a, by rw [h1, h2]; exact b, c⟩
namespace LEq
def yN : MethodName := ⟨"java/lang/StringLatin1", "equals", "([B[B)Z"⟩
abbrev yB : ByteArray := jdk_43_method_13_code
theorem d0 : decode yB 0 = .ok (.aload_n 0, 1) := by decide +kernel
theorem d1 : decode yB 1 = .ok (.arraylength, 1) := by decide +kernel
theorem d2 : decode yB 2 = .ok (.aload_n 1, 1) := by decide +kernel
theorem d3 : decode yB 3 = .ok (.arraylength, 1) := by decide +kernel
theorem d4 : decode yB 4 = .ok (.if_icmp (.ne) 30, 3) := by decide +kernel
theorem d7 : decode yB 7 = .ok (.iconst 0, 1) := by decide +kernel
theorem d8 : decode yB 8 = .ok (.istore_n 2, 1) := by decide +kernel
theorem d9 : decode yB 9 = .ok (.iload_n 2, 1) := by decide +kernel
theorem d10 : decode yB 10 = .ok (.aload_n 0, 1) := by decide +kernel
theorem d11 : decode yB 11 = .ok (.arraylength, 1) := by decide +kernel
theorem d12 : decode yB 12 = .ok (.if_icmp (.ge) 20, 3) := by decide +kernel
theorem d15 : decode yB 15 = .ok (.aload_n 0, 1) := by decide +kernel
theorem d16 : decode yB 16 = .ok (.iload_n 2, 1) := by decide +kernel
theorem d17 : decode yB 17 = .ok (.baload, 1) := by decide +kernel
theorem d18 : decode yB 18 = .ok (.aload_n 1, 1) := by decide +kernel
theorem d19 : decode yB 19 = .ok (.iload_n 2, 1) := by decide +kernel
theorem d20 : decode yB 20 = .ok (.baload, 1) := by decide +kernel
theorem d21 : decode yB 21 = .ok (.if_icmp (.eq) 5, 3) := by decide +kernel
theorem d24 : decode yB 24 = .ok (.iconst 0, 1) := by decide +kernel
theorem d25 : decode yB 25 = .ok (.ireturn, 1) := by decide +kernel
theorem d26 : decode yB 26 = .ok (.iinc 2 1, 3) := by decide +kernel
theorem d29 : decode yB 29 = .ok (.goto (-20), 3) := by decide +kernel
theorem d32 : decode yB 32 = .ok (.iconst 1, 1) := by decide +kernel
theorem d33 : decode yB 33 = .ok (.ireturn, 1) := by decide +kernel
theorem d34 : decode yB 34 = .ok (.iconst 0, 1) := by decide +kernel
theorem d35 : decode yB 35 = .ok (.ireturn, 1) := by decide +kernel
def site : List Cond := []
def tab : Cond := tabOf yN yB 3 (some .boolean) site
def P (a : Addr) (A : Cell) (b : Addr) (B : Cell) (args : Array Value) (s : State) : Prop := args = #[.ref a, .ref b] ∧ XT.Arr .byte a A s ∧ Typed .byte A ∧ XT.Arr .byte b B s ∧ Typed .byte B
/-- whether two byte[] are equal, place for place -/
theorem law (l : Launch) (a : Addr) (A : Cell) (b : Addr) (B : Cell) : Law l yN 2 2 0 0 yB 3 (some .boolean) site (P a A b B) (Says01 (EqC A B)) [] 0 0 := by
  refine Law.of_walk (plainFor_of_name (by decide +kernel)) (by decide +kernel) (by decide +kernel) (by decide) (fun _ _ h => by rw [h.1]; rfl) (fun _ U U' hal hh h => ⟨h.1, h.2.1.mv hal hh, h.2.2.1, h.2.2.2.1.mv hal hh, h.2.2.2.2⟩) (fun r U U' V V' h1 hal h2 h => Says01.mv r U U' V V' h1 hal h2 h) ?_
  intro p e s m args below meth c s₁ X0 hexec hbytes hml hret hlk hnm hown hh0 W hP
  obtain ⟨rfl, hA, tA, hB, tB⟩ := hP
  have a31 := hA.2.2.2
  have b31 := hB.2.2.2
  have hA0 := hA.mv X0.warmed.alike hh0
  have hB0 := hB.mv X0.warmed.alike hh0
  have c1 : Steps p.tables e below (s₁.setTop (entryFrame m #[.ref a, .ref b] 3)) (s₁.setTop (mkF m 0 #[.val (.ref a), .val (.ref b), .unset] [])) := entry rfl
  have c2 : Steps p.tables e below (s₁.setTop (entryFrame m #[.ref a, .ref b] 3)) (s₁.setTop (mkF m 4 #[.val (.ref a), .val (.ref b), .unset] [.int (Int32.ofNat B.slots.size), .int (Int32.ofNat A.slots.size)])) := c1.trans (by
    refine XS.aloadN X0.here hexec rfl (hb hbytes d0) rfl rfl ?_
    refine X0.alen hexec hA0 rfl rfl (hb hbytes d1) ?_
    refine XS.aloadN X0.here hexec rfl (hb hbytes d2) rfl rfl ?_
    refine X0.alen hexec hB0 rfl rfl (hb hbytes d3) ?_
    exact Steps.refl _)
  by_cases hs : A.slots.size = B.slots.size
  · have c3 : Steps p.tables e below (s₁.setTop (entryFrame m #[.ref a, .ref b] 3)) (s₁.setTop (mkF m 9 #[.val (.ref a), .val (.ref b), .val (.int 0)] [])) := c2.trans (by
      refine XS.icmpNo X0.here hexec rfl (hb hbytes d4) rfl (ii_ne_f (by rw [hs])) ?_
      refine iconstV X0.here hexec rfl 0 (hb hbytes d7) (by decide) ?_
      refine XS.istoreN X0.here hexec rfl (hb hbytes d8) rfl rfl ?_
      exact Steps.refl _)
    have loop : ∀ (r i : Nat), i + r = A.slots.size → (∀ j, j < i → yv A j = yv B j) → Steps p.tables e below (s₁.setTop (entryFrame m #[.ref a, .ref b] 3)) (s₁.setTop (mkF m 9 #[.val (.ref a), .val (.ref b), .val (.int (Int32.ofNat i))] [])) → ∃ (pc : Nat) (Ls : Array Slot) (v : Int32), (pc = 25 ∨ pc = 33) ∧ ((v = 1 ∧ EqC A B) ∨ (v = 0 ∧ ¬ EqC A B)) ∧ Steps p.tables e below (s₁.setTop (entryFrame m #[.ref a, .ref b] 3)) (s₁.setTop (mkF m pc Ls [.int v])) := by
      intro r
      induction r with
      | zero =>
        intro i hi he cl
        exact ⟨33, _, 1, Or.inr rfl, Or.inl ⟨rfl, hs, fun j hj => he j (by omega)⟩, cl.trans (by
          refine XS.iloadN X0.here hexec rfl (hb hbytes d9) rfl ?_
          refine XS.aloadN X0.here hexec rfl (hb hbytes d10) rfl rfl ?_
          refine X0.alen hexec hA0 rfl rfl (hb hbytes d11) ?_
          refine XS.icmpYes X0.here hexec rfl (pc0 := 12) rfl (hb hbytes d12) rfl (ii_ge_t (nlt32 (by omega) (by omega))) (by decide) rfl ?_
          refine iconstV X0.here hexec rfl 1 (hb hbytes d32) (by decide) ?_
          exact Steps.refl _)⟩
      | succ r ih =>
        intro i hi he cl
        have c4 : Steps p.tables e below (s₁.setTop (entryFrame m #[.ref a, .ref b] 3)) (s₁.setTop (mkF m 21 #[.val (.ref a), .val (.ref b), .val (.int (Int32.ofNat i))] [.int (yv B i), .int (yv A i)])) := cl.trans (by
          refine XS.iloadN X0.here hexec rfl (hb hbytes d9) rfl ?_
          refine XS.aloadN X0.here hexec rfl (hb hbytes d10) rfl rfl ?_
          refine X0.alen hexec hA0 rfl rfl (hb hbytes d11) ?_
          refine XS.icmpNo X0.here hexec rfl (hb hbytes d12) rfl (ii_ge_f (lt32 (by omega) (by omega))) ?_
          refine XS.aloadN X0.here hexec rfl (hb hbytes d15) rfl rfl ?_
          refine XS.iloadN X0.here hexec rfl (hb hbytes d16) rfl ?_
          refine X0.aget hexec hA0 rfl (yv_get hA tA (i := i) (by omega)) rfl rfl (hb hbytes d17) ?_
          refine XS.aloadN X0.here hexec rfl (hb hbytes d18) rfl rfl ?_
          refine XS.iloadN X0.here hexec rfl (hb hbytes d19) rfl ?_
          refine X0.aget hexec hB0 rfl (yv_get hB tB (i := i) (by omega)) rfl rfl (hb hbytes d20) ?_
          exact Steps.refl _)
        by_cases hv : yv A i = yv B i
        · have c5 : Steps p.tables e below (s₁.setTop (entryFrame m #[.ref a, .ref b] 3)) (s₁.setTop (mkF m 9 #[.val (.ref a), .val (.ref b), .val (.int (Int32.ofNat i + 1))] [])) := c4.trans (by
            refine XS.icmpYes X0.here hexec rfl (pc0 := 21) rfl (hb hbytes d21) rfl (ii_eq_t hv) (by decide) rfl ?_
            refine iincV X0.here hexec rfl 1 (hb hbytes d26) (by decide) rfl rfl ?_
            refine XS.goto X0.here hexec rfl (pc0 := 29) rfl (hb hbytes d29) (by decide) rfl ?_
            exact Steps.refl _)
          rw [succ32] at c5
          exact ih (i + 1) (by omega) (fun j hj => by
            by_cases e : j = i
            · rw [e]; exact hv
            · exact he j (by omega)) c5
        · exact ⟨25, _, 0, Or.inl rfl, Or.inr ⟨rfl, fun q => hv (q.2 i (by omega))⟩, c4.trans (by
            refine XS.icmpNo X0.here hexec rfl (hb hbytes d21) rfl (ii_eq_f hv) ?_
            refine iconstV X0.here hexec rfl 0 (hb hbytes d24) (by decide) ?_
            exact Steps.refl _)⟩
    obtain ⟨pc, Ls, v, hpc, hv, cz⟩ := loop A.slots.size 0 (by omega) (fun j hj => absurd hj (Nat.not_lt_zero j)) c3
    have nv : narrow .boolean (.int v) = .int v := by rcases hv with ⟨rfl, -⟩ | ⟨rfl, -⟩ <;> rfl
    rcases hpc with rfl | rfl
    · exact ⟨s₁, some (.int v), _, _, _, X0, rfl, rfl, rfl, (fun h => by cases h), ⟨v, rfl, hh0, hv⟩, fun fs hl => cz.trans (X0.ireturnOut hexec hret nv (Or.inr (Or.inl rfl)) (hb hbytes d25) hl)⟩
    · exact ⟨s₁, some (.int v), _, _, _, X0, rfl, rfl, rfl, (fun h => by cases h), ⟨v, rfl, hh0, hv⟩, fun fs hl => cz.trans (X0.ireturnOut hexec hret nv (Or.inr (Or.inl rfl)) (hb hbytes d33) hl)⟩
  · have c3 : Steps p.tables e below (s₁.setTop (entryFrame m #[.ref a, .ref b] 3)) (s₁.setTop (mkF m 35 #[.val (.ref a), .val (.ref b), .unset] [.int 0])) := c2.trans (by
      refine XS.icmpYes X0.here hexec rfl (pc0 := 4) rfl (hb hbytes d4) rfl (ii_ne_t (ne32 a31 b31 hs)) (by decide) rfl ?_
      refine iconstV X0.here hexec rfl 0 (hb hbytes d34) (by decide) ?_
      exact Steps.refl _)
    exact ⟨s₁, some (.int 0), _, _, _, X0, rfl, rfl, rfl, (fun h => by cases h), ⟨0, rfl, hh0, Or.inr ⟨rfl, fun q => hs q.1⟩⟩, fun fs hl => c3.trans (X0.ireturnOut hexec hret rfl (Or.inr (Or.inl rfl)) (hb hbytes d35) hl)⟩
end LEq
theorem Cod.ty {cd : Int32} {n : Nat} {f : Nat → Int32} {V : Cell} (h : Cod cd n f V) : Typed .byte V := fun i v hv => by
  have hi : i < V.slots.size := (Array.getElem?_eq_some_iff.mp hv).1
  rcases h with ⟨-, k1, k2⟩ | ⟨-, k1, k2, -⟩
  · rw [(k2 i (by omega)).1] at hv; cases hv; exact fits_lo8 _
  · rcases Nat.mod_two_eq_zero_or_one i with e | e
    · obtain ⟨j, rfl⟩ : ∃ j, i = 2 * j := ⟨i / 2, by omega⟩
      rw [(k2 j (by omega)).1] at hv; cases hv; exact fits_lo8 _
    · obtain ⟨j, rfl⟩ : ∃ j, i = 2 * j + 1 := ⟨i / 2, by omega⟩
      rw [(k2 j (by omega)).2] at hv; cases hv; exact fits_lo8 _
/-- the same text -/
def SameT (n : Nat) (f : Nat → Int32) (k : Nat) (g : Nat → Int32) : Prop := n = k ∧ ∀ j, j < n → f j = g j
theorem lo8_inj {x y : Int32} (h0 : ¬ x < 0) (h1 : ¬ 255 < x) (k0 : ¬ y < 0) (k1 : ¬ 255 < y) (h : lo8 x = lo8 y) : x = y := by
  rw [← lo8_mask h0 h1, ← lo8_mask k0 k1, h]
/-- arrays coded by one coder are equal just where the texts are -/
theorem Cod.eqv {cd : Int32} {n k : Nat} {f g : Nat → Int32} {V V' : Cell} (h : Cod cd n f V) (h' : Cod cd k g V') (hf : ∀ j, j < n → ¬ f j < 0 ∧ ¬ 65535 < f j) (hg : ∀ j, j < k → ¬ g j < 0 ∧ ¬ 65535 < g j) : EqC V V' ↔ SameT n f k g := by
  have yvv : ∀ {W : Cell} {i : Nat} {x : Int32}, W.slots[i]? = some (.int x) → yv W i = x := fun q => by unfold yv; rw [q]
  rcases h with ⟨rfl, k1, k2⟩ | ⟨rfl, k1, k2, -⟩
  · rcases h' with ⟨-, m1, m2⟩ | ⟨e, -⟩
    · constructor
      · rintro ⟨e1, e2⟩
        refine ⟨by omega, fun j hj => ?_⟩
        have q := e2 j (by omega)
        rw [yvv (k2 j hj).1, yvv (m2 j (by omega)).1] at q
        exact lo8_inj (hf j hj).1 (k2 j hj).2 (hg j (by omega)).1 (m2 j (by omega)).2 q
      · rintro ⟨rfl, e2⟩
        refine ⟨by omega, fun j hj => ?_⟩
        rw [yvv (k2 j (by omega)).1, yvv (m2 j (by omega)).1, e2 j (by omega)]
    · exact absurd e (by decide)
  · rcases h' with ⟨e, -⟩ | ⟨-, m1, m2, -⟩
    · exact absurd e (by decide)
    · constructor
      · rintro ⟨e1, e2⟩
        refine ⟨by omega, fun j hj => ?_⟩
        have q1 := e2 (2 * j) (by omega)
        have q2 := e2 (2 * j + 1) (by omega)
        rw [yvv (k2 j hj).1, yvv (m2 j (by omega)).1] at q1
        rw [yvv (k2 j hj).2, yvv (m2 j (by omega)).2] at q2
        rw [← pair_says (hf j hj).1 (hf j hj).2, ← pair_says (hg j (by omega)).1 (hg j (by omega)).2, q1, q2]
      · rintro ⟨rfl, e2⟩
        refine ⟨by omega, fun i hi => ?_⟩
        rcases Nat.mod_two_eq_zero_or_one i with e | e
        · obtain ⟨j, rfl⟩ : ∃ j, i = 2 * j := ⟨i / 2, by omega⟩
          rw [yvv (k2 j (by omega)).1, yvv (m2 j (by omega)).1, e2 j (by omega)]
        · obtain ⟨j, rfl⟩ : ∃ j, i = 2 * j + 1 := ⟨i / 2, by omega⟩
          rw [yvv (k2 j (by omega)).2, yvv (m2 j (by omega)).2, e2 j (by omega)]
/-- two codings differ: so do the texts -/
theorem Cod.dif {cd cd' : Int32} {n k : Nat} {f g : Nat → Int32} {V V' : Cell} (h : Cod cd n f V) (h' : Cod cd' k g V') (hne : ¬ cd = cd') : ¬ SameT n f k g := by
  rintro ⟨rfl, e⟩
  rcases h with ⟨rfl, -, k2⟩ | ⟨rfl, -, -, j, hj, hw⟩
  · rcases h' with ⟨rfl, -⟩ | ⟨-, -, -, j, hj, hw⟩
    · exact hne rfl
    · exact (k2 j hj).2 (by rw [e j hj]; exact hw)
  · rcases h' with ⟨-, -, m2⟩ | ⟨rfl, -⟩
    · exact (m2 j hj).2 (by rw [← e j hj]; exact hw)
    · exact hne rfl
/-- an object of exactly C is an instance of C -/
theorem cinst {p : Program} {l : Launch} {e : Env} {R : Room} {s : State} {m : MethodId} {args : Array Value} {below : List Frame} {meth : Method} {c : Code} {T : State} {locs : List Loc} {cells slots : Nat} (X : Stand p l e R s m args below meth c T locs cells slots) (hexec : p.tables.exec = Jvm.exec) {own C : String} {index : Nat} (hown : s.vm.findClass own = some m.cls) (hlink : (Cond.classLink own index C).before args s = true) {a : Addr} (hE : Exact C a T)
    {g : JFrame} (hg : g.method = m) {rest : List Value} (hstack : g.stack = .ref a :: rest) (hdg : decode c.code g.pc = .ok (.instanceof index, 3)) :
    ∃ T', Stand p l e R s m args below meth c T' locs cells slots ∧ T'.heap = T.heap ∧ ∀ target, Steps p.tables e below (T'.setTop { g with pc := g.pc + 3, stack := .int 1 :: rest }) target → Steps p.tables e below (T.setTop g) target := by
  obtain ⟨cB, h1, D, h2, h3, h4⟩ := hE
  have h1' : s.vm.findClass C = some cB := by rw [← X.warmed.alike.findClass]; exact h1
  obtain ⟨vm', X', st⟩ := X.instanceofYes hexec hown hlink h2 h4 h1' (by rw [h3]; exact Jvm.Free.SB.assignable_self _ _) hg hstack hdg
  exact ⟨_, X', rfl, st⟩
theorem cself {p : Program} {l : Launch} {e : Env} {R : Room} {s : State} {m : MethodId} {args : Array Value} {below : List Frame} {meth : Method} {c : Code} {T : State} {locs : List Loc} {cells slots : Nat} (X : Stand p l e R s m args below meth c T locs cells slots) (hexec : p.tables.exec = Jvm.exec) {own C : String} {index : Nat} (hown : s.vm.findClass own = some m.cls) (hlink : (Cond.classLink own index C).before args s = true) {a : Addr} (hE : Exact C a T)
    {g : JFrame} (hg : g.method = m) {rest : List Value} (hstack : g.stack = .ref a :: rest) (hdg : decode c.code g.pc = .ok (.checkcast index, 3)) :
    ∃ T', Stand p l e R s m args below meth c T' locs cells slots ∧ T'.heap = T.heap ∧ ∀ target, Steps p.tables e below (T'.setTop { g with pc := g.pc + 3, stack := .ref a :: rest }) target → Steps p.tables e below (T.setTop g) target := by
  obtain ⟨cB, h1, D, h2, h3, h4⟩ := hE
  have h1' : s.vm.findClass C = some cB := by rw [← X.warmed.alike.findClass]; exact h1
  obtain ⟨vm', X', st⟩ := X.checkcastYes hexec hown hlink h2 h4 h1' (by rw [h3]; exact Jvm.Free.SB.assignable_self _ _) hg hstack hdg
  exact ⟨_, X', rfl, fun t h => st t (by rw [← hstack] at h; exact h)⟩
namespace SEq
def yN : MethodName := ⟨"java/lang/String", "equals", "(Ljava/lang/Object;)Z"⟩
abbrev yB : ByteArray := jdk_42_method_66_code
theorem d0 : decode yB 0 = .ok (.aload_n 0, 1) := by decide +kernel
theorem d1 : decode yB 1 = .ok (.aload_n 1, 1) := by decide +kernel
theorem d2 : decode yB 2 = .ok (.if_acmp (.ne) 5, 3) := by decide +kernel
theorem d5 : decode yB 5 = .ok (.iconst 1, 1) := by decide +kernel
theorem d6 : decode yB 6 = .ok (.ireturn, 1) := by decide +kernel
theorem d7 : decode yB 7 = .ok (.aload_n 1, 1) := by decide +kernel
theorem d8 : decode yB 8 = .ok (.instanceof 10, 3) := by decide +kernel
theorem d11 : decode yB 11 = .ok (.ifCond (.eq) 43, 3) := by decide +kernel
theorem d14 : decode yB 14 = .ok (.aload_n 1, 1) := by decide +kernel
theorem d15 : decode yB 15 = .ok (.checkcast 10, 3) := by decide +kernel
theorem d18 : decode yB 18 = .ok (.astore_n 2, 1) := by decide +kernel
theorem d19 : decode yB 19 = .ok (.getstatic 38, 3) := by decide +kernel
theorem d22 : decode yB 22 = .ok (.ifCond (.eq) 14, 3) := by decide +kernel
theorem d25 : decode yB 25 = .ok (.aload_n 0, 1) := by decide +kernel
theorem d26 : decode yB 26 = .ok (.getfield 15, 3) := by decide +kernel
theorem d29 : decode yB 29 = .ok (.aload_n 2, 1) := by decide +kernel
theorem d30 : decode yB 30 = .ok (.getfield 15, 3) := by decide +kernel
theorem d33 : decode yB 33 = .ok (.if_icmp (.ne) 21, 3) := by decide +kernel
theorem d36 : decode yB 36 = .ok (.aload_n 0, 1) := by decide +kernel
theorem d37 : decode yB 37 = .ok (.getfield 9, 3) := by decide +kernel
theorem d40 : decode yB 40 = .ok (.aload_n 2, 1) := by decide +kernel
theorem d41 : decode yB 41 = .ok (.getfield 9, 3) := by decide +kernel
theorem d44 : decode yB 44 = .ok (.invokestatic 541, 3) := by decide +kernel
theorem d47 : decode yB 47 = .ok (.ifCond (.eq) 7, 3) := by decide +kernel
theorem d50 : decode yB 50 = .ok (.iconst 1, 1) := by decide +kernel
theorem d51 : decode yB 51 = .ok (.goto 4, 3) := by decide +kernel
theorem d54 : decode yB 54 = .ok (.iconst 0, 1) := by decide +kernel
theorem d55 : decode yB 55 = .ok (.ireturn, 1) := by decide +kernel
def site : List Cond := [.classLink "java/lang/String" 10 "java/lang/String", .fieldLink "java/lang/String" 38 "java/lang/String" "COMPACT_STRINGS" "Z", .fieldLink "java/lang/String" 15 "java/lang/String" "coder" "B", .fieldLink "java/lang/String" 9 "java/lang/String" "value" "[B", LEq.tab] ++ staticW "java/lang/String" 541 LEq.yN
def tab : Cond := tabOf yN yB 3 (some .boolean) site
def P (x t : Addr) (V : Cell) (cd : Int32) (n : Nat) (f : Nat → Int32) (y t' : Addr) (V' : Cell) (cd' : Int32) (k : Nat) (g : Nat → Int32) (z : Int32) (args : Array Value) (s : State) : Prop := args = #[.ref x, .ref y] ∧ Txt x t V cd n f s ∧ Txt y t' V' cd' k g s ∧ StaticIs s "java/lang/String" "COMPACT_STRINGS" "Z" (.int z) ∧ ¬ z = 0
/-- equals(Object) of two Strings: whether the texts are the same -/
theorem law (l : Launch) (x t : Addr) (V : Cell) (cd : Int32) (n : Nat) (f : Nat → Int32) (y t' : Addr) (V' : Cell) (cd' : Int32) (k : Nat) (g : Nat → Int32) (z : Int32) : Law l yN 2 1 1 14 yB 3 (some .boolean) site (P x t V cd n f y t' V' cd' k g z) (Says01 (SameT n f k g)) [] 0 0 := by
  refine Law.of_walk (plainFor_of_name (by decide +kernel)) (by decide +kernel) (by decide +kernel) (by decide) (fun _ _ h => by rw [h.1]; rfl) (fun _ U U' hal hh h => ⟨h.1, h.2.1.mv hal hh, h.2.2.1.mv hal hh, h.2.2.2.1.there hal hh, h.2.2.2.2⟩) (fun r U U' V V' h1 hal h2 h => Says01.mv r U U' V V' h1 hal h2 h) ?_
  intro p e s m args below meth c s₁ X0 hexec hbytes hml hret hlk hnm hown hh0 W hP
  obtain ⟨rfl, hx, hy, s1, hz⟩ := hP
  have c1 : Steps p.tables e below (s₁.setTop (entryFrame m #[.ref x, .ref y] 3)) (s₁.setTop (mkF m 2 #[.val (.ref x), .val (.ref y), .unset] [.ref y, .ref x])) := Steps.trans (entry rfl) (by
    show Steps p.tables e below (s₁.setTop (mkF m 0 #[.val (.ref x), .val (.ref y), .unset] [])) _
    refine XS.aloadN X0.here hexec rfl (hb hbytes d0) rfl rfl ?_
    refine XS.aloadN X0.here hexec rfl (hb hbytes d1) rfl rfl ?_
    exact Steps.refl _)
  by_cases hxy : x = y
  · have c2 : Steps p.tables e below (s₁.setTop (entryFrame m #[.ref x, .ref y] 3)) (s₁.setTop (mkF m 6 #[.val (.ref x), .val (.ref y), .unset] [.int 1])) := c1.trans (by
      refine acmpNo X0.here hexec rfl (hb hbytes d2) rfl rfl rfl (by simp [acmp, hxy]) ?_
      refine iconstV X0.here hexec rfl 1 (hb hbytes d5) (by decide) ?_
      exact Steps.refl _)
    subst hxy
    have ec : cd = cd' := by
      obtain ⟨D, fd, a1, a2, a3⟩ := hx.2.2.1
      obtain ⟨D', fd', b1, b2, b3⟩ := hy.2.2.1
      cases a1.symm.trans b1
      obtain ⟨q1, q2, q3, q4⟩ := a2.1
      obtain ⟨r1, r2, r3, r4⟩ := b2.1
      cases q4.symm.trans r4
      cases a3.symm.trans b3; rfl
    have et : t = t' := by
      obtain ⟨D, fd, a1, a2, a3⟩ := hx.2.1
      obtain ⟨D', fd', b1, b2, b3⟩ := hy.2.1
      cases a1.symm.trans b1
      obtain ⟨q1, q2, q3, q4⟩ := a2.1
      obtain ⟨r1, r2, r3, r4⟩ := b2.1
      cases q4.symm.trans r4
      cases a3.symm.trans b3; rfl
    subst ec et
    have ev : V = V' := by cases hx.2.2.2.1.1.symm.trans hy.2.2.2.1.1; rfl
    subst ev
    have hs : SameT n f k g := (Cod.eqv hx.2.2.2.2.1 hy.2.2.2.2.1 hx.2.2.2.2.2 hy.2.2.2.2.2).mp ⟨rfl, fun _ _ => rfl⟩
    exact ⟨s₁, some (.int 1), _, _, _, X0, rfl, rfl, rfl, (fun h => by cases h), ⟨1, rfl, hh0, Or.inl ⟨rfl, hs⟩⟩, fun fs hl => c2.trans (X0.ireturnOut hexec hret rfl (Or.inr (Or.inl rfl)) (hb hbytes d6) hl)⟩
  · have c2 : Steps p.tables e below (s₁.setTop (entryFrame m #[.ref x, .ref y] 3)) (s₁.setTop (mkF m 8 #[.val (.ref x), .val (.ref y), .unset] [.ref y])) := c1.trans (by
      refine acmpYes X0.here hexec rfl (pc0 := 2) rfl (hb hbytes d2) rfl rfl rfl (by simp [acmp, hxy]) (by decide) rfl ?_
      refine XS.aloadN X0.here hexec rfl (hb hbytes d7) rfl rfl ?_
      exact Steps.refl _)
    obtain ⟨T3, X3, q3, st3⟩ := cinst X0 hexec hown (wk W (.classLink "java/lang/String" 10 "java/lang/String")) (hy.mv X0.warmed.alike hh0).1 (g := (mkF m 8 #[.val (.ref x), .val (.ref y), .unset] [.ref y])) rfl (rest := []) rfl (hb hbytes d8)
    have hh3 := q3.trans hh0
    have c4 : Steps p.tables e below (s₁.setTop (entryFrame m #[.ref x, .ref y] 3)) (T3.setTop (mkF m 15 #[.val (.ref x), .val (.ref y), .unset] [.ref y])) := (c2.trans (st3 _ (Steps.refl _))).trans (by
      refine XS.ifNo X3.here hexec rfl (hb hbytes d11) rfl (i0_eq_f (by decide)) ?_
      refine XS.aloadN X3.here hexec rfl (hb hbytes d14) rfl rfl ?_
      exact Steps.refl _)
    obtain ⟨T5, X5, q5, st5⟩ := cself X3 hexec hown (wk W (.classLink "java/lang/String" 10 "java/lang/String")) (hy.mv X3.warmed.alike hh3).1 (g := (mkF m 15 #[.val (.ref x), .val (.ref y), .unset] [.ref y])) rfl (rest := []) rfl (hb hbytes d15)
    have hh5 := q5.trans hh3
    have c6 : Steps p.tables e below (s₁.setTop (entryFrame m #[.ref x, .ref y] 3)) (T5.setTop (mkF m 19 #[.val (.ref x), .val (.ref y), .val (.ref y)] [])) := (c4.trans (st5 _ (Steps.refl _))).trans (by
      refine XS.astoreN X5.here hexec rfl (hb hbytes d18) rfl rfl rfl ?_
      exact Steps.refl _)
    obtain ⟨T7, X7, q7, st7⟩ := X5.sget hexec hown (wk W (.fieldLink "java/lang/String" 38 "java/lang/String" "COMPACT_STRINGS" "Z")) s1 (fun _ _ h => by rw [hh5]; exact h) (g := (mkF m 19 #[.val (.ref x), .val (.ref y), .val (.ref y)] [])) rfl (hb hbytes d19)
    have hh7 := q7.trans hh5
    have c8 : Steps p.tables e below (s₁.setTop (entryFrame m #[.ref x, .ref y] 3)) (T7.setTop (mkF m 26 #[.val (.ref x), .val (.ref y), .val (.ref y)] [.ref x])) := (c6.trans (st7 _ (Steps.refl _))).trans (by
      refine XS.ifNo X7.here hexec rfl (hb hbytes d22) rfl (i0_eq_f hz) ?_
      refine XS.aloadN X7.here hexec rfl (hb hbytes d25) rfl rfl ?_
      exact Steps.refl _)
    obtain ⟨T9, X9, q9, st9⟩ := X7.hget hexec hown (wk W (.fieldLink "java/lang/String" 15 "java/lang/String" "coder" "B")) (hx.mv X7.warmed.alike hh7).2.2.1 (g := (mkF m 26 #[.val (.ref x), .val (.ref y), .val (.ref y)] [.ref x])) rfl (rest := []) rfl (hb hbytes d26)
    have hh9 := q9.trans hh7
    have c10 : Steps p.tables e below (s₁.setTop (entryFrame m #[.ref x, .ref y] 3)) (T9.setTop (mkF m 30 #[.val (.ref x), .val (.ref y), .val (.ref y)] [.ref y, .int cd])) := (c8.trans (st9 _ (Steps.refl _))).trans (by
      refine XS.aloadN X9.here hexec rfl (hb hbytes d29) rfl rfl ?_
      exact Steps.refl _)
    obtain ⟨T11, X11, q11, st11⟩ := X9.hget hexec hown (wk W (.fieldLink "java/lang/String" 15 "java/lang/String" "coder" "B")) (hy.mv X9.warmed.alike hh9).2.2.1 (g := (mkF m 30 #[.val (.ref x), .val (.ref y), .val (.ref y)] [.ref y, .int cd])) rfl (rest := [.int cd]) rfl (hb hbytes d30)
    have hh11 := q11.trans hh9
    have c12 : Steps p.tables e below (s₁.setTop (entryFrame m #[.ref x, .ref y] 3)) (T11.setTop (mkF m 33 #[.val (.ref x), .val (.ref y), .val (.ref y)] [.int cd', .int cd])) := c10.trans (st11 _ (Steps.refl _))
    by_cases hcd : cd = cd'
    · subst hcd
      have c13 : Steps p.tables e below (s₁.setTop (entryFrame m #[.ref x, .ref y] 3)) (T11.setTop (mkF m 37 #[.val (.ref x), .val (.ref y), .val (.ref y)] [.ref x])) := c12.trans (by
        refine XS.icmpNo X11.here hexec rfl (hb hbytes d33) rfl (ii_ne_f rfl) ?_
        refine XS.aloadN X11.here hexec rfl (hb hbytes d36) rfl rfl ?_
        exact Steps.refl _)
      obtain ⟨T14, X14, q14, st14⟩ := X11.hget hexec hown (wk W (.fieldLink "java/lang/String" 9 "java/lang/String" "value" "[B")) (hx.mv X11.warmed.alike hh11).2.1 (g := (mkF m 37 #[.val (.ref x), .val (.ref y), .val (.ref y)] [.ref x])) rfl (rest := []) rfl (hb hbytes d37)
      have hh14 := q14.trans hh11
      have c15 : Steps p.tables e below (s₁.setTop (entryFrame m #[.ref x, .ref y] 3)) (T14.setTop (mkF m 41 #[.val (.ref x), .val (.ref y), .val (.ref y)] [.ref y, .ref t])) := (c13.trans (st14 _ (Steps.refl _))).trans (by
        refine XS.aloadN X14.here hexec rfl (hb hbytes d40) rfl rfl ?_
        exact Steps.refl _)
      obtain ⟨T16, X16, q16, st16⟩ := X14.hget hexec hown (wk W (.fieldLink "java/lang/String" 9 "java/lang/String" "value" "[B")) (hy.mv X14.warmed.alike hh14).2.1 (g := (mkF m 41 #[.val (.ref x), .val (.ref y), .val (.ref y)] [.ref y, .ref t])) rfl (rest := [.ref t]) rfl (hb hbytes d41)
      have hh16 := q16.trans hh14
      have c17 : Steps p.tables e below (s₁.setTop (entryFrame m #[.ref x, .ref y] 3)) (T16.setTop (mkF m 44 #[.val (.ref x), .val (.ref y), .val (.ref y)] [.ref t', .ref t])) := c15.trans (st16 _ (Steps.refl _))
      obtain ⟨v18, T18, X18, E18, g18⟩ := X16.callS hexec (LEq.law l t V t' V') hown (wks W (staticW "java/lang/String" 541 LEq.yN)) (wk W LEq.tab) (W := 0) (Nat.le_of_ble_eq_true rfl) (Nat.le_of_ble_eq_true rfl) (Nat.le_refl _) (Nat.le_refl _) (g := (mkF m 44 #[.val (.ref x), .val (.ref y), .val (.ref y)] [.ref t', .ref t])) rfl (by rw [hml]; rfl) c17 (argsL := [.ref t, .ref t']) (rest := []) rfl rfl (by show 2 * 0 + 0 ≤ _; decide) (hb hbytes d44) (⟨rfl, hx.2.2.2.1.mv X16.warmed.alike hh16, hx.2.2.2.2.1.ty, hy.2.2.2.1.mv X16.warmed.alike hh16, hy.2.2.2.2.1.ty⟩)
      obtain ⟨v, rfl, q18, hv⟩ := E18
      have iff := Cod.eqv hx.2.2.2.2.1 hy.2.2.2.2.1 hx.2.2.2.2.2 hy.2.2.2.2.2
      rcases hv with ⟨rfl, he⟩ | ⟨rfl, he⟩
      · have c19 : Steps p.tables e below (s₁.setTop (entryFrame m #[.ref x, .ref y] 3)) (T18.setTop (mkF m 55 #[.val (.ref x), .val (.ref y), .val (.ref y)] [.int 1])) := Steps.trans g18 (by
          refine XS.ifNo X18.here hexec rfl (hb hbytes d47) rfl (i0_eq_f (by decide)) ?_
          refine iconstV X18.here hexec rfl 1 (hb hbytes d50) (by decide) ?_
          refine XS.goto X18.here hexec rfl (pc0 := 51) rfl (hb hbytes d51) (by decide) rfl ?_
          exact Steps.refl _)
        exact ⟨T18, some (.int 1), _, _, _, X18, rfl, rfl, rfl, (fun h => by cases h), ⟨1, rfl, q18.trans hh16, Or.inl ⟨rfl, iff.mp he⟩⟩, fun fs hl => c19.trans (X18.ireturnOut hexec hret rfl (Or.inr (Or.inl rfl)) (hb hbytes d55) hl)⟩
      · have c19 : Steps p.tables e below (s₁.setTop (entryFrame m #[.ref x, .ref y] 3)) (T18.setTop (mkF m 55 #[.val (.ref x), .val (.ref y), .val (.ref y)] [.int 0])) := Steps.trans g18 (by
          refine XS.ifYes X18.here hexec rfl (pc0 := 47) rfl (hb hbytes d47) rfl (i0_eq_t rfl) (by decide) rfl ?_
          refine iconstV X18.here hexec rfl 0 (hb hbytes d54) (by decide) ?_
          exact Steps.refl _)
        exact ⟨T18, some (.int 0), _, _, _, X18, rfl, rfl, rfl, (fun h => by cases h), ⟨0, rfl, q18.trans hh16, Or.inr ⟨rfl, fun q => he (iff.mpr q)⟩⟩, fun fs hl => c19.trans (X18.ireturnOut hexec hret rfl (Or.inr (Or.inl rfl)) (hb hbytes d55) hl)⟩
    · have c13 : Steps p.tables e below (s₁.setTop (entryFrame m #[.ref x, .ref y] 3)) (T11.setTop (mkF m 55 #[.val (.ref x), .val (.ref y), .val (.ref y)] [.int 0])) := c12.trans (by
        refine XS.icmpYes X11.here hexec rfl (pc0 := 33) rfl (hb hbytes d33) rfl (ii_ne_t hcd) (by decide) rfl ?_
        refine iconstV X11.here hexec rfl 0 (hb hbytes d54) (by decide) ?_
        exact Steps.refl _)
      exact ⟨T11, some (.int 0), _, _, _, X11, rfl, rfl, rfl, (fun h => by cases h), ⟨0, rfl, hh11, Or.inr ⟨rfl, Cod.dif hx.2.2.2.2.1 hy.2.2.2.2.1 hcd⟩⟩, fun fs hl => c13.trans (X11.ireturnOut hexec hret rfl (Or.inr (Or.inl rfl)) (hb hbytes d55) hl)⟩
theorem pays {l : Launch} {R : Room} {p : Program} {e : Env} {below : List Frame} {s : State} {sargs : Array Value} {len W : Nat} (x t : Addr) (V : Cell) (cd : Int32) (n : Nat) (f : Nat → Int32) (y t' : Addr) (V' : Cell) (cd' : Int32) (k : Nat) (g : Nat → Int32) (z : Int32) (htab : tab.before sargs s = true) (hfr : 2 ≤ R.frames) (hlo : W + 28 ≤ R.locals) :
    Back l R p e below s sargs yN len W (fun A₁ a₁ => A₁.cells + 0 ≤ R.cells ∧ A₁.slots + 0 ≤ R.slots ∧ P x t V cd n f y t' V' cd' k g z a₁ A₁.U) (fun A₁ _ v₁ B₁ => Says01 (SameT n f k g) v₁ A₁.U B₁.U ∧ B₁.locs = A₁.locs ++ [] ∧ B₁.cells = A₁.cells + 0 ∧ B₁.slots = A₁.slots + 0) :=
  (law l x t V cd n f y t' V' cd' k g z).pays htab hfr (by omega)
end SEq
end StrChars
namespace StrChars.Road
open Jvm Sem ClassFile Op Lib Jvm.Stand Jvm.Free Jvm.Free.XT
open Jvm.Lib.Cold (StaticIs)
/-- the words of String.equals(Object) -/
abbrev wordsEq : List Jvm.Cond := [.code SEq.yN SEq.yB 3 (some .boolean), .initialized ST, .classLink ST 10 ST, .fieldLink ST 38 ST "COMPACT_STRINGS" "Z", .fieldLink ST 15 ST "coder" "B", .fieldLink ST 9 ST "value" "[B", .methodLink ST 541 LEq.yN, .static LEq.yN, .code LEq.yN LEq.yB 3 (some .boolean), .initialized "java/lang/StringLatin1"]
theorem tabEq_of {a : Array Value} {s : State} (h : ∀ w ∈ wordsEq, w.before a s = true) : SEq.tab.before a s = true := by
  have hl : LEq.tab.before a s = true := unparts (wk h (.code LEq.yN LEq.yB 3 (some .boolean))) (wks h (.initialized LEq.yN.cls :: LEq.site))
  have q := consq hl h
  exact unparts (wk q (.code SEq.yN SEq.yB 3 (some .boolean))) (wks q (.initialized SEq.yN.cls :: SEq.site))
theorem movedEq {Z s : State} {a0 args : Array Value} (hZ : Z.Warmed39 s.vm) (hw : ∀ d ∈ wordsEq, d.before a0 Z = true) : ∀ d ∈ wordsEq, d.before args s = true := fun d hd => by
  have t : ∀ d ∈ wordsEq, (d.onTables && d.keepsFace) = true := by decide +kernel
  exact RoadKit.mv hZ (hw d hd) (t d hd)
/-- the road's facts of a String, as the laws ask it -/
theorem txt_of {Z U : State} {a0 : Array Value} {kI : Nat} (wi : (Jvm.Cond.instantiable ST kI).before a0 Z = true) (al : Z.vm.Alike U.vm) {x t : Addr} {kb : ClassId} {cs : List Int32} {cd N2 : Int32} {vs : List Value} (E : RoadKit.Exa Z U.heap x ST) (V : RoadKit.Fld Z U.heap x ST "value" "[B" (.ref t)) (C : RoadKit.Fld Z U.heap x ST "coder" "B" (.int cd)) (K : RoadKit.Arv Z U.heap t kb .byte N2 vs (.int 0)) (hc : CodA cs cd N2 vs) (hb : ∀ c ∈ cs, ¬ c < 0 ∧ ¬ (65535 : Int32) < c) (l2 : cs.length ≤ 4000) :
    ∃ A, Txt x t A cd cs.length (fun j => cs.getD j 0) U := by
  obtain ⟨A, K1, K2, K3, K4, K5, K6⟩ := K
  have hcod := hc.cod (by omega) K3 K5
  obtain ⟨D, fV, fC, hB, F1, F2, g1, g2, -, -⟩ := strObj wi al E V C
  exact ⟨A, ⟨_, hB.2.2.1, D, hB.1, rfl, by cases q : D.vm <;> first | rfl | exact absurd q (hB.2.1.2 _)⟩, Has.of hB F1 g1, Has.of hB F2 g2, ⟨K1.1, State.isArrayOf_alike al K1.2.1, K1.2.2, by rcases hcod with ⟨-, q, -⟩ | ⟨-, q, -⟩ <;> omega⟩, hcod, fun j hj => by
    have e : cs.getD j 0 = cs[j] := by simp [List.getD_eq_getElem?_getD, hj]
    show ¬ cs.getD j 0 < 0 ∧ ¬ 65535 < cs.getD j 0
    rw [e]; exact hb _ (List.getElem_mem _)⟩
theorem same_list (cs ds : List Int32) : SameT cs.length (fun j => cs.getD j 0) ds.length (fun j => ds.getD j 0) ↔ cs = ds := by
  constructor
  · rintro ⟨e, q⟩
    refine List.ext_getElem e fun j h1 h2 => ?_
    have := q j h1
    simpa [List.getD_eq_getElem?_getD, h1, h2] using this
  · rintro rfl
    exact ⟨rfl, fun _ _ => rfl⟩
/-- **equals(Object) OF TWO SUCH STRINGS**: 1 just where the chars are the same -/
theorem eqW {p : Program} {l : Launch} {e : Env} {R : Room} {s : State} {args : Array Value} {below : List Frame} {len W : Nat} {Z : State} {a0 : Array Value} {h : Heap} (hZ : Z.Warmed39 s.vm) (hw : ∀ d ∈ wordsEq, d.before a0 Z = true) {kI : Nat} (wi : (Jvm.Cond.instantiable ST kI).before a0 Z = true)
    {x t : Addr} {kb : ClassId} {cs : List Int32} {cd N2 : Int32} {vs : List Value} (E : RoadKit.Exa Z h x ST) (V : RoadKit.Fld Z h x ST "value" "[B" (.ref t)) (C : RoadKit.Fld Z h x ST "coder" "B" (.int cd)) (K : RoadKit.Arv Z h t kb .byte N2 vs (.int 0)) (hc : CodA cs cd N2 vs) (hb : ∀ c ∈ cs, ¬ c < 0 ∧ ¬ (65535 : Int32) < c) (l2 : cs.length ≤ 4000)
    {y t' : Addr} {kb' : ClassId} {ds : List Int32} {cd' N2' : Int32} {vs' : List Value} (E' : RoadKit.Exa Z h y ST) (V' : RoadKit.Fld Z h y ST "value" "[B" (.ref t')) (C' : RoadKit.Fld Z h y ST "coder" "B" (.int cd')) (K' : RoadKit.Arv Z h t' kb' .byte N2' vs' (.int 0)) (hc' : CodA ds cd' N2' vs') (hb' : ∀ c ∈ ds, ¬ c < 0 ∧ ¬ (65535 : Int32) < c) (l2' : ds.length ≤ 4000)
    {z : Int32} (S : RoadKit.Sta Z h ST "COMPACT_STRINGS" "Z" (.int z)) (hz : ¬ z = 0) (hfr : 2 ≤ R.frames) (hlo : W + 28 ≤ R.locals) :
    Back l R p e below s args (⟨"java/lang/String", "equals", "(Ljava/lang/Object;)Z"⟩ : MethodName) len W (fun P a => a = #[.ref x, .ref y] ∧ P.U.heap = h ∧ P.cells + 0 ≤ R.cells ∧ P.slots + 0 ≤ R.slots)
      (fun P _ v B => ∃ L, (((v = some (.int 1) ∧ cs = ds) ∨ (v = some (.int 0) ∧ ¬ cs = ds)) ∧ L = [] ∧ B.U.heap = h) ∧ B.locs = P.locs ++ L ∧ B.cells = P.cells + 0 ∧ B.slots = P.slots + 0) := by
  intro m meth c P g ig mk a X hg hsize hdg hW hn hp'
  obtain ⟨rfl, rfl, r1, r2⟩ := hp'
  have al : Z.vm.Alike P.U.vm := hZ.alike.trans X.warmed.alike
  obtain ⟨A, hx⟩ := txt_of wi al E V C K hc hb l2
  obtain ⟨A', hy⟩ := txt_of wi al E' V' C' K' hc' hb' l2'
  obtain ⟨v, B, X', ⟨⟨w, hv, hh, hq⟩, hl, hk, hs⟩, st⟩ := SEq.pays x t A cd cs.length (fun j => cs.getD j 0) y t' A' cd' ds.length (fun j => ds.getD j 0) z (tabEq_of (movedEq hZ hw)) hfr hlo m meth c P g ig mk _ X hg hsize hdg hW hn ⟨r1, r2, rfl, hx, hy, sta_is al S, hz⟩
  refine ⟨v, B, X', ⟨[], ⟨?_, rfl, hh⟩, hl, hk, hs⟩, st⟩
  rcases hq with ⟨rfl, q⟩ | ⟨rfl, q⟩
  · exact Or.inl ⟨hv, (same_list cs ds).mp q⟩
  · exact Or.inr ⟨hv, fun e => q ((same_list cs ds).mpr e)⟩
end StrChars.Road
namespace StrChars.Road
open Jvm Sem ClassFile Op Lib Jvm.Stand Jvm.Free Jvm.Free.XT
open Jvm.Lib.Cold (StaticIs)
/-- what backV says of its String, as the contracts of this text ask it: cs's low bytes, coder 0 -/
theorem codOf {cs : List Int32} {n : Nat} (hn : cs.length = n) (hb : ∀ c ∈ cs, ¬ 255 < c) : CodA cs 0 (Int32.ofNat n) ((cs.map lo8).map Value.int) := Or.inl ⟨rfl, by rw [hn], by simp [List.map_map, Function.comp_def], hb⟩
end StrChars.Road
end Jvm.Pilot.@@N@@
namespace Jvm.Pilot.@@N@@
open Jvm Jvm.ClassFile Sem Op Lib Jvm.Free Jvm.Stand Jvm.LawKit Jvm.RoadKit Bundle Jvm.Pilot.@@N@@.Jvm.D
section Own
variable {p : Program} {l : Launch} {e : Env} {R : Room} {s : State} {m : MethodId} {args : Array Value} {below : List Frame} {meth : Method} {c : Code} {T : State} {locs : List Loc} {cells slots : Nat} {Z : State} {a0 : Array Value} {h : Heap}
theorem wd (hw : ∀ d ∈ tables_1, d.before a0 Z = true) (k : Nat) {d : Jvm.Cond} (q : tables_1[k]? = some d) : d.before a0 Z = true := hw d (List.mem_of_getElem? q)
theorem old_sz {n0 : Nat} (O : Old Z n0 h) : n0 ≤ h.size := O.1 ▸ O.2.1
/-- what is left to show from the state t on -/
def Run (p : Program) (e : Env) (below : List Frame) (A : Outcome → State → Prop) (t : State) : Prop := ∃ u o, Steps p.tables e below t u ∧ u.status = .running ∧ Ended u below o ∧ A o u
theorem go {A : Outcome → State → Prop} {t t' : State} (st : ∀ u, Steps p.tables e below t' u → Steps p.tables e below t u) (k : Run p e below A t') : Run p e below A t := by
  obtain ⟨u, o, k1, k2⟩ := k
  exact ⟨u, o, st u k1, k2⟩
theorem goT {A : Outcome → State → Prop} {t t' : State} (st : Steps p.tables e below t t') (k : Run p e below A t') : Run p e below A t := by
  obtain ⟨u, o, k1, k2⟩ := k
  exact ⟨u, o, st.trans k1, k2⟩
theorem goTsw {A : Outcome → State → Prop} (h : At T m c below) (hx : p.tables.exec = Jvm.exec) {pc pc' len : Nat} {Ls : Array Slot} {rest : List Value} {i : Int32} {dflt low high o : Int} {offs : Array Int} (hd : decode c.code pc = .ok (.tableswitch dflt low high offs, len)) (hin : ¬ (i.toInt < low ∨ i.toInt > high)) (hoff : offs[(i.toInt - low).toNat]? = some o) (ho : 0 ≤ (pc : Int) + o) (hp : ((pc : Int) + o).toNat = pc')
    (k : Run p e below A (T.setTop (mkF m pc' Ls rest))) : Run p e below A (T.setTop (mkF m pc Ls (.int i :: rest))) := go (fun _ => XS.tswIn (g := mkF m pc Ls (.int i :: rest)) h hx rfl (pc0 := pc) rfl hd rfl hin hoff ho hp) k
theorem goTswD {A : Outcome → State → Prop} (h : At T m c below) (hx : p.tables.exec = Jvm.exec) {pc pc' len : Nat} {Ls : Array Slot} {rest : List Value} {i : Int32} {dflt low high : Int} {offs : Array Int} (hd : decode c.code pc = .ok (.tableswitch dflt low high offs, len)) (hout : i.toInt < low ∨ i.toInt > high) (ho : 0 ≤ (pc : Int) + dflt) (hp : ((pc : Int) + dflt).toNat = pc')
    (k : Run p e below A (T.setTop (mkF m pc' Ls rest))) : Run p e below A (T.setTop (mkF m pc Ls (.int i :: rest))) := go (fun _ => XS.tswOut (g := mkF m pc Ls (.int i :: rest)) h hx rfl (pc0 := pc) rfl hd rfl hout ho hp) k
def Ends (s : State) (Q : Option Value → Heap → List Loc → Prop) (k n : Nat) (o : Outcome) (U : State) : Prop := ∃ v L, o = .returned v ∧ Q v U.heap L ∧ FrameEnd s o U L k n
def Meets (l : Launch) (y : MethodName) (bytes : ByteArray) (maxL : Nat) (ret : Option FieldType) (ws : List Jvm.Cond) (rm : Room) (Z : State) (as' : Array Value) (h0 : Heap) (Q : Option Value → Heap → List Loc → Prop) (k n : Nat) : Prop :=
  MetFree l y (head1 (Jvm.Cond.code y bytes maxL ret :: ws) rm) (fun a U => a = as' ∧ Z.Warmed39 U.vm ∧ U.heap = h0) (fun _ _ _ _ _ => True) (fun _ U o U' => ∃ v L, o = .returned v ∧ Q v U'.heap L ∧ FrameEnd U o U' L k n)
theorem enter {y : MethodName} {bytes : ByteArray} {maxL : Nat} {ret : Option FieldType} {ws : List Jvm.Cond} {rm : Room} {as' : Array Value} {h0 : Heap} {Q : Option Value → Heap → List Loc → Prop} {k n : Nat} {Ls : Array Slot} (pf : plainFor y = true) (ef : ∀ m, entryFrame m as' maxL = mkF m 0 Ls [])
    (body : ∀ (p : Program) (e : Env) (s : State) (m : MethodId) (below : List Frame) (meth : Method) (c : Code) (T : State), p.tables.exec = Jvm.exec → c.code = bytes → c.maxLocals = maxL → s.vm.findClass y.cls = some m.cls → meth.name = y.name → meth.sig.returnType = ret → meth.locks = false → Z.Warmed39 s.vm → Stand p l e rm s m as' below meth c T [] 0 0 → T.heap = h0 → Run p e below (Ends s Q k n) (T.setTop (mkF m 0 Ls []))) :
    Meets l y bytes maxL ret ws rm Z as' h0 Q k n := by
  refine MetFree.of_bodySF pf hisR ?_
  intro p e s m args below meth c s₁ Bd hml0 hP hK
  obtain ⟨rfl, hZ, hh⟩ := hP
  obtain ⟨u, o, k1, k2, k3, k4⟩ := body p e s m below meth c s₁ Bd.exec Bd.bytes hml0 (findClass_of_methodNamed Bd.named) (name_of_methodNamed Bd.named Bd.method).1 Bd.returns (BodyLoose.notSynchronized Bd) hZ (Stand.of_body Bd) (by rw [← hh, Bd.state]; rfl)
  exact ⟨u, o, castTop (ef m) k1, k2, k3, k4⟩
theorem smono (X : Stand p l e R s m args below meth c T locs cells slots) {k n : Nat} (hk : cells ≤ k) (hn : slots ≤ n) : Stand p l e R s m args below meth c T locs k n :=
  ⟨X.admits, X.cas, X.clock, X.frames, X.room, X.hears, X.method, X.code, X.here, X.tail, X.warmed, X.limits, X.bytes, X.same.mono hk hn⟩
theorem retI (X : Stand p l e R s m args below meth c T locs cells slots) (hx : p.tables.exec = Jvm.exec) {pc : Nat} {Ls : Array Slot} {z : Int32} {rest : List Value} (hret : meth.sig.returnType = some .int) (hd : decode c.code pc = .ok (.ireturn, 1)) {fs : List Frame}
    (hl : ∀ (f : JFrame) (acts : List Action), f.method = m → f.locked = none → f.entered = [] → (doReturn e (T.setTop f) acts (some (.int z))).1 = T.setFrames fs) : Steps p.tables e below (T.setTop (mkF m pc Ls (.int z :: rest))) (T.setFrames fs) :=
  retOut X hx hret rfl (Or.inl ⟨rfl, Or.inl rfl, _, rfl⟩) hd hl
theorem endI (X : Stand p l e R s m args below meth c T locs cells slots) (hx : p.tables.exec = Jvm.exec) (hlk : meth.locks = false) {Q : Option Value → Heap → List Loc → Prop} {k n pc : Nat} {Ls : Array Slot} {z : Int32} {rest : List Value} (hret : meth.sig.returnType = some .int) (hd : decode c.code pc = .ok (.ireturn, 1)) (hq : Q (some (.int z)) T.heap locs) (hk : cells ≤ k) (hn : slots ≤ n) :
    Run p e below (Ends s Q k n) (T.setTop (mkF m pc Ls (.int z :: rest))) := by
  obtain ⟨fs, hr, hrun, hended, hW, hsame⟩ := X.leave (v := some (.int z)) (fun h => by rw [hret] at h; cases h) hlk
  exact ⟨_, _, retI X hx hret hd hr, hrun, hended, _, _, rfl, hq, ⟨_, rfl⟩, hW, hsame.mono hk hn⟩
theorem endN (X : Stand p l e R s m args below meth c T locs cells slots) (hx : p.tables.exec = Jvm.exec) (hlk : meth.locks = false) {Q : Option Value → Heap → List Loc → Prop} {k n pc : Nat} {Ls : Array Slot} {z : Int32} {rest : List Value} {t : FieldType} (hret : meth.sig.returnType = some t) (ht : t = .boolean ∨ t = .byte ∨ t = .char ∨ t = .short) (hd : decode c.code pc = .ok (.ireturn, 1)) (hq : Q (some (.int (nar t z))) T.heap locs) (hk : cells ≤ k) (hn : slots ≤ n) :
    Run p e below (Ends s Q k n) (T.setTop (mkF m pc Ls (.int z :: rest))) := by
  obtain ⟨fs, hr, hrun, hended, hW, hsame⟩ := X.leave (v := some (.int (nar t z))) (fun h => by rw [hret] at h; cases h) hlk
  exact ⟨_, _, retN X hx hret ht hd hr, hrun, hended, _, _, rfl, hq, ⟨_, rfl⟩, hW, hsame.mono hk hn⟩
theorem endA (X : Stand p l e R s m args below meth c T locs cells slots) (hx : p.tables.exec = Jvm.exec) (hlk : meth.locks = false) {Q : Option Value → Heap → List Loc → Prop} {k n pc : Nat} {Ls : Array Slot} {w : Value} {rest : List Value} {t : FieldType} (hret : meth.sig.returnType = some t) (ht : t.isReference = true) (hv : w.isRef = true) (hd : decode c.code pc = .ok (.areturn, 1)) (hq : Q (some w) T.heap locs) (hk : cells ≤ k) (hn : slots ≤ n) :
    Run p e below (Ends s Q k n) (T.setTop (mkF m pc Ls (w :: rest))) := by
  obtain ⟨fs, hr, hrun, hended, hW, hsame⟩ := X.leave (v := some w) (fun h => by rw [hret] at h; cases h) hlk
  have hn' : narrow t w = w := by cases w <;> first | (cases hv; done) | (cases t <;> first | rfl | (cases ht; done))
  exact ⟨_, _, retOut X hx hret hn' (Or.inr (Or.inr (Or.inr (Or.inr ⟨rfl, ht, hv⟩)))) hd hr, hrun, hended, _, _, rfl, hq, ⟨_, rfl⟩, hW, hsame.mono hk hn⟩
theorem endJ (X : Stand p l e R s m args below meth c T locs cells slots) (hx : p.tables.exec = Jvm.exec) (hlk : meth.locks = false) {Q : Option Value → Heap → List Loc → Prop} {k n pc : Nat} {Ls : Array Slot} {z : Int64} {rest : List Value} (hret : meth.sig.returnType = some .long) (hd : decode c.code pc = .ok (.lreturn, 1)) (hq : Q (some (.long z)) T.heap locs) (hk : cells ≤ k) (hn : slots ≤ n) :
    Run p e below (Ends s Q k n) (T.setTop (mkF m pc Ls (.long z :: rest))) := by
  obtain ⟨fs, hr, hrun, hended, hW, hsame⟩ := X.leave (v := some (.long z)) (fun h => by rw [hret] at h; cases h) hlk
  exact ⟨_, _, retOut X hx hret rfl (Or.inr (Or.inl ⟨rfl, rfl, _, rfl⟩)) hd hr, hrun, hended, _, _, rfl, hq, ⟨_, rfl⟩, hW, hsame.mono hk hn⟩
theorem endD (X : Stand p l e R s m args below meth c T locs cells slots) (hx : p.tables.exec = Jvm.exec) (hlk : meth.locks = false) {Q : Option Value → Heap → List Loc → Prop} {k n pc : Nat} {Ls : Array Slot} {z : UInt64} {rest : List Value} (hret : meth.sig.returnType = some .double) (hd : decode c.code pc = .ok (.dreturn, 1)) (hq : Q (some (.double z)) T.heap locs) (hk : cells ≤ k) (hn : slots ≤ n) :
    Run p e below (Ends s Q k n) (T.setTop (mkF m pc Ls (.double z :: rest))) := by
  obtain ⟨fs, hr, hrun, hended, hW, hsame⟩ := X.leave (v := some (.double z)) (fun h => by rw [hret] at h; cases h) hlk
  exact ⟨_, _, retOut X hx hret rfl (Or.inr (Or.inr (Or.inl ⟨rfl, rfl, _, rfl⟩))) hd hr, hrun, hended, _, _, rfl, hq, ⟨_, rfl⟩, hW, hsame.mono hk hn⟩
theorem endV (X : Stand p l e R s m args below meth c T locs cells slots) (hx : p.tables.exec = Jvm.exec) (hlk : meth.locks = false) {Q : Option Value → Heap → List Loc → Prop} {k n pc : Nat} {Ls : Array Slot} (hret : meth.sig.returnType = none) (hd : decode c.code pc = .ok (.return_, 1)) (hq : Q none T.heap locs) (hk : cells ≤ k) (hn : slots ≤ n) :
    Run p e below (Ends s Q k n) (T.setTop (mkF m pc Ls [])) := by
  obtain ⟨fs, hr, hrun, hended, hW, hsame⟩ := X.leave (v := none) (fun _ => rfl) hlk
  exact ⟨_, _, X.returnOut hx hret hd hr, hrun, hended, _, _, rfl, hq, ⟨_, rfl⟩, hW, hsame.mono hk hn⟩
abbrev Pay (l : Launch) (R : Room) (p : Program) (e : Env) (below : List Frame) (s : State) (args : Array Value) (y : MethodName) (len W : Nat) (as' : Array Value) (h : Heap) (Q : Option Value → Heap → List Loc → Prop) (rc rs : Nat) : Prop :=
  Back l R p e below s args y len W (fun A a => a = as' ∧ A.U.heap = h ∧ A.cells + rc ≤ R.cells ∧ A.slots + rs ≤ R.slots) (fun A _ v B => ∃ L, Q v B.U.heap L ∧ B.locs = A.locs ++ L ∧ B.cells = A.cells + rc ∧ B.slots = A.slots + rs)
theorem Pay.more {y : MethodName} {len W rc rs rs' : Nat} {as' : Array Value} {Q : Option Value → Heap → List Loc → Prop} (hK : Pay l R p e below s args y len W as' h Q rc rs) (q : rs ≤ rs') : Pay l R p e below s args y len W as' h Q rc rs' := fun m meth c A g ig mk a X hg hsz hd hW hn hp => by
  obtain ⟨v, B, X', ⟨L, q1, q2, q3, q4⟩, st⟩ := hK m meth c A g ig mk a X hg hsz hd hW hn ⟨hp.1, hp.2.1, hp.2.2.1, Nat.le_trans (Nat.add_le_add_left q _) hp.2.2.2⟩
  exact ⟨v, (B.U, B.locs, B.cells, A.slots + rs'), smono X' (Nat.le_refl _) (by rw [q4]; exact Nat.add_le_add_left q _), ⟨L, q1, q2, q3, rfl⟩, st⟩
theorem narR {v : Value} {C : String} (h : v.isRef = true) : narrow (.object C) v = v := by cases v <;> first | rfl | (cases h; done)
theorem catR {v : Value} (h : v.isRef = true) : v.category = 1 := by cases v <;> first | rfl | (cases h; done)
theorem fitR {v : Value} {C : String} (h : v.isRef = true) : fits (.object C) v = true := by cases v <;> first | rfl | (cases h; done)
theorem callSt (X : Stand p l e R s m args below meth c T locs cells slots) (hx : p.tables.exec = Jvm.exec) (hZ : Z.Warmed39 s.vm) {own : String} {index : Nat} {y : MethodName} {bytes : ByteArray} {maxL : Nat} {ret : Option FieldType} {rm : Room} {Q : Option Value → Heap → List Loc → Prop} (hown : s.vm.findClass own = some m.cls)
    (w1 : (Jvm.Cond.methodLink own index y).before a0 Z = true) (w2 : (Jvm.Cond.static y).before a0 Z = true) (w3 : (Jvm.Cond.initialized y.cls).before a0 Z = true) (w4 : (Jvm.Cond.code y bytes maxL ret).before a0 Z = true) (hy : y.cls ≠ "java/lang/invoke/MethodHandle" ∧ y.cls ≠ "java/lang/invoke/VarHandle") (eT : T.heap = h) {argsL rest : List Value}
    (hM : Meets l y bytes maxL ret [] rm Z argsL.toArray h Q rm.cells rm.slots) {W : Nat} (hf : rm.frames + 1 ≤ R.frames) (hl : W + (maxL + 11) + rm.locals ≤ R.locals) (hc : cells + rm.cells ≤ R.cells) (hn : slots + rm.slots ≤ R.slots)
    {pc : Nat} {Ls : Array Slot} {st : List Value} (hsize : Ls.size = c.maxLocals) (hlen : ∀ sig, parseMethodDescriptor y.desc = some sig → argsL.length = sig.parameters.length) (hst : st = argsL.reverse ++ rest) (hW : (rest.map fun v => v.category).sum ≤ W) (hd : decode c.code pc = .ok (.invokestatic index, 3)) {A : Outcome → State → Prop}
    (kk : ∀ (v : Option Value) (T' : State) (L : List Loc) (h' : Heap), Stand p l e R s m args below meth c T' (locs ++ L) (cells + rm.cells) (slots + rm.slots) → T'.heap = h' → Q v h' L → Run p e below A (T'.setTop (mkF m (pc + 3) Ls (v.toList ++ rest)))) : Run p e below A (T.setTop (mkF m pc Ls st)) := by
  obtain ⟨v, _, ⟨T18, L18, k18, n18⟩, -, X18, ⟨Lc18, hQ18, l18, y18, z18⟩, st18⟩ := Jvm.LawKit.callS X hx hown (mvT hZ w1) (mvT hZ w2) (mvT hZ w3) (mvT hZ w4) hy (backOf (W := W) hM hZ w4 w3 hf hl) (g := mkF m pc Ls st) rfl hsize (argsL := argsL) (rest := rest) hlen hst (by show 2 * 0 + _ ≤ _; omega) hd (fun _ _ => ⟨rfl, eT, hc, hn⟩)
  dsimp only [Pt.U, Pt.locs, Pt.cells, Pt.slots] at X18 l18 y18 z18 st18 hQ18
  subst l18 y18 z18
  exact go st18 (kk v _ _ _ X18 rfl hQ18)
theorem callVi (X : Stand p l e R s m args below meth c T locs cells slots) (hx : p.tables.exec = Jvm.exec) (hZ : Z.Warmed39 s.vm) {own C : String} {index : Nat} {y z : MethodName} {bytes : ByteArray} {maxL : Nat} {ret : Option FieldType} {rm : Room} {Q : Option Value → Heap → List Loc → Prop} (hown : s.vm.findClass own = some m.cls)
    (w1 : (Jvm.Cond.methodLink own index y).before a0 Z = true) (w2 : (Jvm.Cond.declares y).before a0 Z = true) (nf : NotFace s y) (w5 : (Jvm.Cond.selects C y z).before a0 Z = true) (w6 : (Jvm.Cond.instanceMethod z).before a0 Z = true) (w4 : (Jvm.Cond.code z bytes maxL ret).before a0 Z = true) (w3 : (Jvm.Cond.initialized z.cls).before a0 Z = true) (hy : y.cls ≠ "java/lang/invoke/MethodHandle" ∧ y.cls ≠ "java/lang/invoke/VarHandle") (eT : T.heap = h) {a : Addr} (E : Exa Z h a C) {argsL rest : List Value}
    (hM : Meets l z bytes maxL ret [] rm Z (.ref a :: argsL).toArray h Q rm.cells rm.slots) {W : Nat} (hf : rm.frames + 1 ≤ R.frames) (hl : W + (maxL + 11) + rm.locals ≤ R.locals) (hc : cells + rm.cells ≤ R.cells) (hn : slots + rm.slots ≤ R.slots)
    {pc : Nat} {Ls : Array Slot} {st : List Value} (hsize : Ls.size = c.maxLocals) (hlen : ∀ sig, parseMethodDescriptor y.desc = some sig → argsL.length = sig.parameters.length) (hst : st = argsL.reverse ++ .ref a :: rest) (hW : (rest.map fun v => v.category).sum ≤ W) (hd : decode c.code pc = .ok (.invokevirtual index, 3)) {A : Outcome → State → Prop}
    (kk : ∀ (v : Option Value) (T' : State) (L : List Loc) (h' : Heap), Stand p l e R s m args below meth c T' (locs ++ L) (cells + rm.cells) (slots + rm.slots) → T'.heap = h' → Q v h' L → Run p e below A (T'.setTop (mkF m (pc + 3) Ls (v.toList ++ rest)))) : Run p e below A (T.setTop (mkF m pc Ls st)) := by
  obtain ⟨cq, kq, qa, qb, qc⟩ := isOf hZ eT E
  obtain ⟨v, _, ⟨T18, L18, k18, n18⟩, -, X18, ⟨Lc18, hQ18, l18, y18, z18⟩, st18⟩ := X.virtualBack hx (y := y) (z := z) hown (mvT hZ w1) (mvT hZ w2) nf (mvT hZ w5) (mvT hZ w6) hy (backOf (W := W) hM hZ w4 w3 hf hl) qa qc (g := mkF m pc Ls st) rfl hsize (Steps.refl _) (argsL := argsL) (rest := rest) hlen hst (by show 2 * 0 + _ ≤ _; omega) hd (fun _ _ => ⟨rfl, eT, hc, hn⟩)
  dsimp only [Pt.U, Pt.locs, Pt.cells, Pt.slots] at X18 l18 y18 z18 st18 hQ18
  subst l18 y18 z18
  exact goT st18 (kk v _ _ _ X18 rfl hQ18)
theorem callSp (X : Stand p l e R s m args below meth c T locs cells slots) (hx : p.tables.exec = Jvm.exec) (hZ : Z.Warmed39 s.vm) {own : String} {index : Nat} {y : MethodName} (hy1 : y.name = "<init>") {bytes : ByteArray} {maxL : Nat} {rm : Room} {Q : Option Value → Heap → List Loc → Prop} (hown : s.vm.findClass own = some m.cls)
    (w1 : (Jvm.Cond.methodLink own index y).before a0 Z = true) (w6 : (Jvm.Cond.instanceMethod y).before a0 Z = true) (w4 : (Jvm.Cond.code y bytes maxL none).before a0 Z = true) (w3 : (Jvm.Cond.initialized y.cls).before a0 Z = true) (hy : y.cls ≠ "java/lang/invoke/MethodHandle" ∧ y.cls ≠ "java/lang/invoke/VarHandle") (eT : T.heap = h) {a : Addr} {argsL rest : List Value}
    (hM : Meets l y bytes maxL none [] rm Z (.ref a :: argsL).toArray h Q rm.cells rm.slots) {W : Nat} (hf : rm.frames + 1 ≤ R.frames) (hl : W + (maxL + 11) + rm.locals ≤ R.locals) (hc : cells + rm.cells ≤ R.cells) (hn : slots + rm.slots ≤ R.slots)
    {pc : Nat} {Ls : Array Slot} {st : List Value} (hsize : Ls.size = c.maxLocals) (hlen : ∀ sig, parseMethodDescriptor y.desc = some sig → argsL.length = sig.parameters.length) (hst : st = argsL.reverse ++ .ref a :: rest) (hW : (rest.map fun v => v.category).sum ≤ W) (hd : decode c.code pc = .ok (.invokespecial index, 3)) {A : Outcome → State → Prop}
    (kk : ∀ (v : Option Value) (T' : State) (L : List Loc) (h' : Heap), Stand p l e R s m args below meth c T' (locs ++ L) (cells + rm.cells) (slots + rm.slots) → T'.heap = h' → Q v h' L → Run p e below A (T'.setTop (mkF m (pc + 3) Ls (v.toList ++ rest)))) : Run p e below A (T.setTop (mkF m pc Ls st)) := by
  obtain ⟨v, _, ⟨T18, L18, k18, n18⟩, -, X18, ⟨Lc18, hQ18, l18, y18, z18⟩, st18⟩ := X.specialBack hx (y := y) hy1 hown (mvT hZ w1) (mvT hZ w6) (mvT hZ w4) hy (backOf (W := W) hM hZ w4 w3 hf hl) (g := mkF m pc Ls st) rfl hsize (Steps.refl _) (a := a) (argsL := argsL) (rest := rest) hlen hst (by show 2 * 0 + _ ≤ _; omega) hd (fun _ _ => ⟨rfl, eT, hc, hn⟩)
  dsimp only [Pt.U, Pt.locs, Pt.cells, Pt.slots] at X18 l18 y18 z18 st18 hQ18
  subst l18 y18 z18
  exact goT st18 (kk v _ _ _ X18 rfl hQ18)
theorem callSpN (X : Stand p l e R s m args below meth c T locs cells slots) (hx : p.tables.exec = Jvm.exec) (hZ : Z.Warmed39 s.vm) {own host : String} {index : Nat} {y : MethodName} (hy1 : y.name = "<init>") {bytes : ByteArray} {maxL : Nat} {rm : Room} {Q : Option Value → Heap → List Loc → Prop} (hown : s.vm.findClass own = some m.cls)
    (w1 : (Jvm.Cond.methodLinkNest own index y host).before a0 Z = true) (w6 : (Jvm.Cond.instanceMethod y).before a0 Z = true) (w4 : (Jvm.Cond.code y bytes maxL none).before a0 Z = true) (w3 : (Jvm.Cond.initialized y.cls).before a0 Z = true) (hy : y.cls ≠ "java/lang/invoke/MethodHandle" ∧ y.cls ≠ "java/lang/invoke/VarHandle") (eT : T.heap = h) {a : Addr} {argsL rest : List Value}
    (hM : Meets l y bytes maxL none [] rm Z (.ref a :: argsL).toArray h Q rm.cells rm.slots) {W : Nat} (hf : rm.frames + 1 ≤ R.frames) (hl : W + (maxL + 11) + rm.locals ≤ R.locals) (hc : cells + rm.cells ≤ R.cells) (hn : slots + rm.slots ≤ R.slots)
    {pc : Nat} {Ls : Array Slot} {st : List Value} (hsize : Ls.size = c.maxLocals) (hlen : ∀ sig, parseMethodDescriptor y.desc = some sig → argsL.length = sig.parameters.length) (hst : st = argsL.reverse ++ .ref a :: rest) (hW : (rest.map fun v => v.category).sum ≤ W) (hd : decode c.code pc = .ok (.invokespecial index, 3)) {A : Outcome → State → Prop}
    (kk : ∀ (v : Option Value) (T' : State) (L : List Loc) (h' : Heap), Stand p l e R s m args below meth c T' (locs ++ L) (cells + rm.cells) (slots + rm.slots) → T'.heap = h' → Q v h' L → Run p e below A (T'.setTop (mkF m (pc + 3) Ls (v.toList ++ rest)))) : Run p e below A (T.setTop (mkF m pc Ls st)) := by
  obtain ⟨v, _, ⟨T18, L18, k18, n18⟩, -, X18, ⟨Lc18, hQ18, l18, y18, z18⟩, st18⟩ := X.specialBackNest hx (y := y) hy1 hown (Cond.methodLinkNest_wide hZ w1 :) (mvT hZ w6) (mvT hZ w4) hy (backOf (W := W) hM hZ w4 w3 hf hl) (g := mkF m pc Ls st) rfl hsize (Steps.refl _) (a := a) (argsL := argsL) (rest := rest) hlen hst (by show 2 * 0 + _ ≤ _; omega) hd (fun _ _ => ⟨rfl, eT, hc, hn⟩)
  dsimp only [Pt.U, Pt.locs, Pt.cells, Pt.slots] at X18 l18 y18 z18 st18 hQ18
  subst l18 y18 z18
  exact goT st18 (kk v _ _ _ X18 rfl hQ18)
theorem callPr (X : Stand p l e R s m args below meth c T locs cells slots) (hx : p.tables.exec = Jvm.exec) (hZ : Z.Warmed39 s.vm) {own C : String} {index : Nat} {y : MethodName} {bytes : ByteArray} {maxL : Nat} {ret : Option FieldType} {rm : Room} {Q : Option Value → Heap → List Loc → Prop} (hown : s.vm.findClass own = some m.cls)
    (w1 : (Jvm.Cond.methodLink own index y).before a0 Z = true) (w2 : (Jvm.Cond.privateMethod y).before a0 Z = true) (w5 : (Jvm.Cond.selects y.cls y y).before a0 Z = true) (w6 : (Jvm.Cond.instanceMethod y).before a0 Z = true) (w4 : (Jvm.Cond.code y bytes maxL ret).before a0 Z = true) (w3 : (Jvm.Cond.initialized y.cls).before a0 Z = true) (hy : y.cls ≠ "java/lang/invoke/MethodHandle" ∧ y.cls ≠ "java/lang/invoke/VarHandle") (eT : T.heap = h) {a : Addr} (E : Exa Z h a C) {argsL rest : List Value}
    (hM : Meets l y bytes maxL ret [] rm Z (.ref a :: argsL).toArray h Q rm.cells rm.slots) {W : Nat} (hf : rm.frames + 1 ≤ R.frames) (hl : W + (maxL + 11) + rm.locals ≤ R.locals) (hc : cells + rm.cells ≤ R.cells) (hn : slots + rm.slots ≤ R.slots)
    {pc : Nat} {Ls : Array Slot} {st : List Value} (hsize : Ls.size = c.maxLocals) (hlen : ∀ sig, parseMethodDescriptor y.desc = some sig → argsL.length = sig.parameters.length) (hst : st = argsL.reverse ++ .ref a :: rest) (hW : (rest.map fun v => v.category).sum ≤ W) (hd : decode c.code pc = .ok (.invokevirtual index, 3)) {A : Outcome → State → Prop}
    (kk : ∀ (v : Option Value) (T' : State) (L : List Loc) (h' : Heap), Stand p l e R s m args below meth c T' (locs ++ L) (cells + rm.cells) (slots + rm.slots) → T'.heap = h' → Q v h' L → Run p e below A (T'.setTop (mkF m (pc + 3) Ls (v.toList ++ rest)))) : Run p e below A (T.setTop (mkF m pc Ls st)) := by
  obtain ⟨cl, hcl, hob⟩ := Exa.cell E
  obtain ⟨v, _, ⟨T18, L18, k18, n18⟩, -, X18, ⟨Lc18, hQ18, l18, y18, z18⟩, st18⟩ := X.privateBack hx (y := y) hown (mvT hZ w1) (mvT hZ w6) (mvT hZ w5) (Cond.privateMethod_at (mvP hZ w2 (args := #[]))) (mvT hZ w4) hy (backOf (W := W) hM hZ w4 w3 hf hl) (g := mkF m pc Ls st) rfl hsize (Steps.refl _) (a := a) (by rw [eT]; exact hcl) hob (argsL := argsL) (rest := rest) hlen hst (by show 2 * 0 + _ ≤ _; omega) hd (fun _ _ => ⟨rfl, eT, hc, hn⟩)
  dsimp only [Pt.U, Pt.locs, Pt.cells, Pt.slots] at X18 l18 y18 z18 st18 hQ18
  subst l18 y18 z18
  exact goT st18 (kk v _ _ _ X18 rfl hQ18)
theorem callIf (X : Stand p l e R s m args below meth c T locs cells slots) (hx : p.tables.exec = Jvm.exec) (hZ : Z.Warmed39 s.vm) {own C : String} {index count : Nat} {y z : MethodName} {bytes : ByteArray} {maxL : Nat} {ret : Option FieldType} {rm : Room} {Q : Option Value → Heap → List Loc → Prop} (hown : s.vm.findClass own = some m.cls)
    (w1 : (Jvm.Cond.methodLink own index y).before a0 Z = true) (w2 : (Jvm.Cond.declares y).before a0 Z = true) (w7 : (Jvm.Cond.interfaceMethod y.cls y.cls y.name y.desc).before a0 Z = true) (k7 : ((Jvm.Cond.interfaceMethod y.cls y.cls y.name y.desc).onTables && (Jvm.Cond.interfaceMethod y.cls y.cls y.name y.desc).keepsFace) = true) (w5 : (Jvm.Cond.selects C y z).before a0 Z = true) (w6 : (Jvm.Cond.instanceMethod z).before a0 Z = true) (w8 : (Jvm.Cond.publicMethod z).before a0 Z = true) (w9 : (Jvm.Cond.unhidden C y.name y.desc).before a0 Z = true) (w10 : (Jvm.Cond.castable C y.cls).before a0 Z = true)
    (w4 : (Jvm.Cond.code z bytes maxL ret).before a0 Z = true) (w3 : (Jvm.Cond.initialized z.cls).before a0 Z = true) (hy : y.cls ≠ "java/lang/invoke/MethodHandle" ∧ y.cls ≠ "java/lang/invoke/VarHandle") (eT : T.heap = h) {a : Addr} (E : Exa Z h a C) {argsL rest : List Value}
    (hM : Meets l z bytes maxL ret [] rm Z (.ref a :: argsL).toArray h Q rm.cells rm.slots) {W : Nat} (hf : rm.frames + 1 ≤ R.frames) (hl : W + (maxL + 11) + rm.locals ≤ R.locals) (hc : cells + rm.cells ≤ R.cells) (hn : slots + rm.slots ≤ R.slots)
    {pc : Nat} {Ls : Array Slot} {st : List Value} (hsize : Ls.size = c.maxLocals) (hlen : ∀ sig, parseMethodDescriptor y.desc = some sig → argsL.length = sig.parameters.length) (hst : st = argsL.reverse ++ .ref a :: rest) (hW : (rest.map fun v => v.category).sum ≤ W) (hd : decode c.code pc = .ok (.invokeinterface index count, 5)) {A : Outcome → State → Prop}
    (kk : ∀ (v : Option Value) (T' : State) (L : List Loc) (h' : Heap), Stand p l e R s m args below meth c T' (locs ++ L) (cells + rm.cells) (slots + rm.slots) → T'.heap = h' → Q v h' L → Run p e below A (T'.setTop (mkF m (pc + 5) Ls (v.toList ++ rest)))) : Run p e below A (T.setTop (mkF m pc Ls st)) := by
  obtain ⟨cq, kq, qa, qb, qc⟩ := isOf hZ eT E
  obtain ⟨v, _, ⟨T18, L18, k18, n18⟩, -, X18, ⟨Lc18, hQ18, l18, y18, z18⟩, st18⟩ := X.interfaceBack hx (xi := y) (y := z) hown (mvT hZ w1) (mvT hZ w2) (mvT hZ w7 k7) (mvT hZ w5) (mvT hZ w6) (mvT hZ w8) (mvT hZ w9) (mvT hZ w10) hy (backOf (W := W) hM hZ w4 w3 hf hl) qa qb qc (g := mkF m pc Ls st) rfl hsize (Steps.refl _) (argsL := argsL) (rest := rest) hlen hst (by show 2 * 0 + _ ≤ _; omega) hd (fun _ _ => ⟨rfl, eT, hc, hn⟩)
  dsimp only [Pt.U, Pt.locs, Pt.cells, Pt.slots] at X18 l18 y18 z18 st18 hQ18
  subst l18 y18 z18
  exact goT st18 (kk v _ _ _ X18 rfl hQ18)
theorem callViK (X : Stand p l e R s m args below meth c T locs cells slots) (hx : p.tables.exec = Jvm.exec) (hZ : Z.Warmed39 s.vm) {own C : String} {index : Nat} {y z : MethodName} {Q : Option Value → Heap → List Loc → Prop} (hown : s.vm.findClass own = some m.cls)
    (w1 : (Jvm.Cond.methodLink own index y).before a0 Z = true) (w2 : (Jvm.Cond.declares y).before a0 Z = true) (nf : NotFace s y) (w5 : (Jvm.Cond.selects C y z).before a0 Z = true) (w6 : (Jvm.Cond.instanceMethod z).before a0 Z = true) (hy : y.cls ≠ "java/lang/invoke/MethodHandle" ∧ y.cls ≠ "java/lang/invoke/VarHandle") (eT : T.heap = h) {a : Addr} (E : Exa Z h a C) {argsL rest : List Value}
    {rc rs W : Nat} (hK : Pay l R p e below s args z 3 W (.ref a :: argsL).toArray h Q rc rs) (hc : cells + rc ≤ R.cells) (hn : slots + rs ≤ R.slots)
    {pc : Nat} {Ls : Array Slot} {st : List Value} (hsize : Ls.size = c.maxLocals) (hlen : ∀ sig, parseMethodDescriptor y.desc = some sig → argsL.length = sig.parameters.length) (hst : st = argsL.reverse ++ .ref a :: rest) (hW : (rest.map fun v => v.category).sum ≤ W) (hd : decode c.code pc = .ok (.invokevirtual index, 3)) {A : Outcome → State → Prop}
    (kk : ∀ (v : Option Value) (T' : State) (L : List Loc) (h' : Heap), Stand p l e R s m args below meth c T' (locs ++ L) (cells + rc) (slots + rs) → T'.heap = h' → Q v h' L → Run p e below A (T'.setTop (mkF m (pc + 3) Ls (v.toList ++ rest)))) : Run p e below A (T.setTop (mkF m pc Ls st)) := by
  obtain ⟨cq, kq, qa, qb, qc⟩ := isOf hZ eT E
  obtain ⟨v, _, ⟨T18, L18, k18, n18⟩, -, X18, ⟨Lc18, hQ18, l18, y18, z18⟩, st18⟩ := X.virtualBack hx (y := y) (z := z) hown (mvT hZ w1) (mvT hZ w2) nf (mvT hZ w5) (mvT hZ w6) hy hK qa qc (g := mkF m pc Ls st) rfl hsize (Steps.refl _) (argsL := argsL) (rest := rest) hlen hst (by show 2 * 0 + _ ≤ _; omega) hd (fun _ _ => ⟨rfl, eT, hc, hn⟩)
  dsimp only [Pt.U, Pt.locs, Pt.cells, Pt.slots] at X18 l18 y18 z18 st18 hQ18
  subst l18 y18 z18
  exact goT st18 (kk v _ _ _ X18 rfl hQ18)
theorem callSpK (X : Stand p l e R s m args below meth c T locs cells slots) (hx : p.tables.exec = Jvm.exec) (hZ : Z.Warmed39 s.vm) {own : String} {index : Nat} {y : MethodName} (hy1 : y.name = "<init>") {bytes : ByteArray} {maxL : Nat} {Q : Option Value → Heap → List Loc → Prop} (hown : s.vm.findClass own = some m.cls)
    (w1 : (Jvm.Cond.methodLink own index y).before a0 Z = true) (w6 : (Jvm.Cond.instanceMethod y).before a0 Z = true) (w4 : (Jvm.Cond.code y bytes maxL none).before a0 Z = true) (hy : y.cls ≠ "java/lang/invoke/MethodHandle" ∧ y.cls ≠ "java/lang/invoke/VarHandle") (eT : T.heap = h) {a : Addr} {argsL rest : List Value}
    {rc rs W : Nat} (hK : Pay l R p e below s args y 3 W (.ref a :: argsL).toArray h Q rc rs) (hc : cells + rc ≤ R.cells) (hn : slots + rs ≤ R.slots)
    {pc : Nat} {Ls : Array Slot} {st : List Value} (hsize : Ls.size = c.maxLocals) (hlen : ∀ sig, parseMethodDescriptor y.desc = some sig → argsL.length = sig.parameters.length) (hst : st = argsL.reverse ++ .ref a :: rest) (hW : (rest.map fun v => v.category).sum ≤ W) (hd : decode c.code pc = .ok (.invokespecial index, 3)) {A : Outcome → State → Prop}
    (kk : ∀ (v : Option Value) (T' : State) (L : List Loc) (h' : Heap), Stand p l e R s m args below meth c T' (locs ++ L) (cells + rc) (slots + rs) → T'.heap = h' → Q v h' L → Run p e below A (T'.setTop (mkF m (pc + 3) Ls (v.toList ++ rest)))) : Run p e below A (T.setTop (mkF m pc Ls st)) := by
  obtain ⟨v, _, ⟨T18, L18, k18, n18⟩, -, X18, ⟨Lc18, hQ18, l18, y18, z18⟩, st18⟩ := X.specialBack hx (y := y) hy1 hown (mvT hZ w1) (mvT hZ w6) (mvT hZ w4) hy hK (g := mkF m pc Ls st) rfl hsize (Steps.refl _) (a := a) (argsL := argsL) (rest := rest) hlen hst (by show 2 * 0 + _ ≤ _; omega) hd (fun _ _ => ⟨rfl, eT, hc, hn⟩)
  dsimp only [Pt.U, Pt.locs, Pt.cells, Pt.slots] at X18 l18 y18 z18 st18 hQ18
  subst l18 y18 z18
  exact goT st18 (kk v _ _ _ X18 rfl hQ18)
/-- no subclass, by the words of the one's superclasses and of the other's 'instantiable' -/
theorem ns_root {O K : String} {n : Nat} (w : (Jvm.Cond.noSuperclass O).before a0 Z = true) (wk : (Jvm.Cond.instantiable K n).before a0 Z = true) (hn : O ≠ K) : NS Z O K := by
  obtain ⟨c, k, h1, h2, h3, -, -⟩ := Cond.noSuperclass_spec w
  obtain ⟨t, kt, g1, -⟩ := Cond.instantiable_spec wk
  have ne := ids_ne h1 g1 hn
  refine ⟨c, t, h1, g1, fun fuel => ?_⟩
  cases fuel with
  | zero => rfl
  | succ f => simp [Vm.isSubclassAux, ne, h2, h3]
theorem ns_no {C S K : String} {n : Nat} (w : (Jvm.Cond.superclass C S).before a0 Z = true) (wk : (Jvm.Cond.instantiable K n).before a0 Z = true) (q : NS Z C K) (hn : C ≠ K) : ∃ c t, Z.vm.findClass C = some c ∧ Z.vm.findClass K = some t ∧ Z.vm.assignable c t = false := by
  obtain ⟨c, t, h0, g0, n3⟩ := q
  obtain ⟨p, k, kp, h1, h2, h3, h4, h5, -, h7⟩ := Cond.superclass_spec h0 w
  obtain ⟨t', kt, g1, g2, g3, g4, -⟩ := Cond.instantiable_spec wk
  cases g0.symm.trans g1
  have ne := ids_ne h0 g0 hn
  have g5 : kt.isInterface = false := by
    cases hi : kt.isInterface with
    | false => rfl
    | true => simp [hi] at g4
  refine ⟨c, t, h0, g0, ?_⟩
  show Z.vm.assignableAux (255 + 1) c t = false
  simp [Vm.assignableAux, ne, h2, g2, h5, g3, g5, Vm.isSubclass, n3]
/-- a private method selects itself -/
theorem sel_priv {y : MethodName} {n : Nat} (wi : (Jvm.Cond.instantiable y.cls n).before a0 Z = true) (w2 : (Jvm.Cond.privateMethod y).before a0 Z = true) (w6 : (Jvm.Cond.instanceMethod y).before a0 Z = true) (hy : y.cls ≠ "java/lang/invoke/MethodHandle" ∧ y.cls ≠ "java/lang/invoke/VarHandle") : (Jvm.Cond.selects y.cls y y).before a0 Z = true := by
  obtain ⟨c, k, g1, g2, g3, g4, -⟩ := Cond.instantiable_spec wi
  exact Jvm.Stand.selects_self_of_private g1 g2 (by cases hi : k.isInterface with
    | false => rfl
    | true => simp [hi] at g4) (Cond.privateMethod_at w2) w6 hy
/-- a static that holds an object of one class, out of the case's words -/
theorem sta_exa {C n d K : String} (w1 : (Jvm.Cond.initialized C).before a0 Z = true) (w2 : (Jvm.Cond.laysStatic C n d).before a0 Z = true) (hx : (Jvm.Cond.exactly (Jvm.Term.static C n d) K).value a0 Z none Z [] = some true) :
    ∃ a, (Jvm.Term.static C n d).eval a0 Z none [] Z = some (.ref a) ∧ Sta Z Z.heap C n d (.ref a) ∧ Exa Z Z.heap a K := by
  obtain ⟨a, ev⟩ := exa_v hx
  exact ⟨a, ev, Sta.start ev (Or.inr ⟨w1, w2⟩), Exa.start ev hx⟩
theorem fld_int {t : Jvm.Term} {a : Addr} {C n d : String} {k : Int32} (ev : t.eval a0 Z none [] Z = some (.ref a)) (hq : (Jvm.Cond.eq (Jvm.Term.field t C n d) (Jvm.Term.int k)).value a0 Z none Z [] = some true) : Fld Z Z.heap a C n d (.int k) := by
  refine Fld.start ?_
  have e1 : (Jvm.Term.field t C n d).eval a0 Z none [] Z = Z.fieldOf? a C n d := fld_at ev
  have e2 : (Jvm.Term.int k).eval a0 Z none [] Z = some (.int k) := Term.int_eval k
  simp only [Cond.value, e1, e2] at hq
  cases hf : Z.fieldOf? a C n d with
  | none => simp [hf] at hq
  | some x => cases x <;> simp [hf] at hq ⊢; exact hq
end Own
section OwnStr
variable {p : Program} {l : Launch} {e : Env} {R : Room} {s : State} {args : Array Value} {below : List Frame} {Z : State} {a0 : Array Value} {h h' : Heap} {x t y t' a b : Addr} {kb kb' kC : ClassId} {cs ds : List Int32}
/-- a String of Latin-1 signs, its byte[] at t -/
def Str (Z : State) (h : Heap) (x t : Addr) (kb : ClassId) (cs : List Int32) : Prop := Exa Z h x "java/lang/String" ∧ Fld Z h x "java/lang/String" "value" "[B" (.ref t) ∧ Fld Z h x "java/lang/String" "coder" "B" (.int 0) ∧ Arv Z h t kb .byte (Int32.ofNat cs.length) ((cs.map fun c => c.toInt8.toInt32).map Value.int) (.int 0)
theorem Str.ext (F : Str Z h x t kb cs) (E : Ext h h') : Str Z h' x t kb cs := ⟨F.1.ext E, F.2.1.ext E, F.2.2.1.ext E, F.2.2.2.ext E⟩
theorem Str.keep {ws : List Addr} (F : Str Z h x t kb cs) (K : Keep h h' ws) (q1 : x ∉ ws) (q2 : t ∉ ws) : Str Z h' x t kb cs := ⟨F.1.keep K, F.2.1.keep K q1, F.2.2.1.keep K q1, F.2.2.2.keep K q2⟩
theorem Str.other {sl : Nat} {v : Value} (F : Str Z h x t kb cs) (W : Wr h h' a sl v) (q1 : x ≠ a) (q2 : t ≠ a) : Str Z h' x t kb cs := ⟨F.1.wr W, F.2.1.other W (Or.inl q1), F.2.2.1.other W (Or.inl q1), F.2.2.2.other W q2⟩
def In8 (cs : List Int32) : Prop := ∀ c ∈ cs, ¬ c < 0 ∧ ¬ (255 : Int32) < c
theorem In8.w (H : In8 cs) : ∀ c ∈ cs, ¬ c < 0 ∧ ¬ (65535 : Int32) < c := fun c hc => ⟨(H c hc).1, fun q => (H c hc).2 (by
  rw [Int32.lt_iff_toInt_lt] at *
  have k1 : (65535 : Int32).toInt = 65535 := by decide
  have k2 : (255 : Int32).toInt = 255 := by decide
  omega)⟩
theorem In8.nil : In8 [] := fun _ q => nomatch q
theorem In8.cons {c : Int32} (hc : ¬ c < 0 ∧ ¬ (255 : Int32) < c) (H : In8 cs) : In8 (c :: cs) := fun d hd => (List.mem_cons.mp hd).elim (fun q => q ▸ hc) (H d)
def QPure (r : Value) (h : Heap) (n0 : Nat) (v : Option Value) (h' : Heap) (L : List Loc) : Prop := v = some r ∧ Fr n0 L ∧ h' = h
theorem cod8 (H : In8 cs) : StrChars.Road.CodA cs 0 (Int32.ofNat cs.length) ((cs.map fun c => c.toInt8.toInt32).map Value.int) := StrChars.Road.codOf rfl (fun c hc => (H c hc).2)
theorem subNew : ∀ d ∈ StrChars.Road.words, d ∈ tables_1 := by decide +kernel
def QNew (Z : State) (x : Addr) (cs : List Int32) (h : Heap) (n0 : Nat) (v : Option Value) (h' : Heap) (L : List Loc) : Prop := v = none ∧ Fr n0 L ∧ Keep h h' [x] ∧ ∃ (t : Addr) (kb : ClassId), n0 ≤ t ∧ h.size ≤ t ∧ t ≠ x ∧ Str Z h' x t kb cs
theorem payNew (hZ : Z.Warmed39 s.vm) (hw : ∀ d ∈ tables_1, d.before a0 Z = true) {W n n0 : Nat} {N z : Int32} {d v0 c0 : Value} (wi : (Jvm.Cond.instantiable "java/lang/String" 4).before a0 Z = true) (O : Old Z n0 h) (gx : n0 ≤ x) (E : Exa Z h x "java/lang/String") (V : Fld Z h x "java/lang/String" "value" "[B" v0) (C : Fld Z h x "java/lang/String" "coder" "B" c0)
    (K : Arv Z h b kC .char N (cs.map Value.int) d) (S : Sta Z Z.heap "java/lang/String" "COMPACT_STRINGS" "Z" (.int z)) (hz : ¬ z = 0) (hn : cs.length = n) (hN : N = Int32.ofNat n) (l0 : 0 < n) (l2 : n ≤ 4000) (hp : In8 cs) (hfr : 4 ≤ R.frames) (hlo : W + 65 ≤ R.locals) :
    Pay l R p e below s args (⟨"java/lang/String", "<init>", "([C)V"⟩ : MethodName) 3 W #[.ref x, .ref b] h (QNew Z x cs h n0) 1 n := by
  refine Back.mono (StrChars.Road.backV (W := W) hZ (fun d hd => hw d (subNew d hd)) (kI := 4) wi (bs := cs.map fun c => c.toInt8.toInt32) (n0 := n0) gx (old_sz O) E V C K (S.ext O.2) hz hn hN l0 l2 hp rfl hfr hlo) (fun _ _ q => q) (fun P a v B _ hq => ?_)
  obtain ⟨L, ⟨q1, q2, q3, q4, q5, t, kb, q6, q7, q8, q9, q10⟩, r⟩ := hq
  subst hn hN
  exact ⟨L, ⟨q1, q2, q3, t, kb, q6, q7, q8, q4, q9, q5, q10⟩, r⟩
theorem subEq : ∀ d ∈ StrChars.Road.wordsEq, d ∈ tables_1 := by decide +kernel
theorem payEq (hZ : Z.Warmed39 s.vm) (hw : ∀ d ∈ tables_1, d.before a0 Z = true) {W n0 : Nat} {z : Int32} (wi : (Jvm.Cond.instantiable "java/lang/String" 4).before a0 Z = true) (O : Old Z n0 h) (F : Str Z h x t kb cs) (H : In8 cs) (l2 : cs.length ≤ 4000) (F' : Str Z h y t' kb' ds) (H' : In8 ds) (l2' : ds.length ≤ 4000)
    (S : Sta Z Z.heap "java/lang/String" "COMPACT_STRINGS" "Z" (.int z)) (hz : ¬ z = 0) (hfr : 2 ≤ R.frames) (hlo : W + 28 ≤ R.locals) :
    Pay l R p e below s args (⟨"java/lang/String", "equals", "(Ljava/lang/Object;)Z"⟩ : MethodName) 3 W #[.ref x, .ref y] h (QPure (.int (if cs = ds then 1 else 0)) h n0) 0 0 := by
  refine Back.mono (StrChars.Road.eqW (W := W) hZ (fun d hd => hw d (subEq d hd)) (kI := 4) wi F.1 F.2.1 F.2.2.1 F.2.2.2 (cod8 H) H.w l2 F'.1 F'.2.1 F'.2.2.1 F'.2.2.2 (cod8 H') H'.w l2' (S.ext O.2) hz hfr hlo) (fun _ _ q => q) (fun P a v B _ hq => ?_)
  obtain ⟨L, ⟨q1, q2, q3⟩, r⟩ := hq
  refine ⟨L, ⟨?_, q2 ▸ Fr.nil n0, q3⟩, r⟩
  rcases q1 with ⟨q, k⟩ | ⟨q, k⟩
  · rw [q, if_pos k]
  · rw [q, if_neg k]
end OwnStr
section OwnS
variable {p : Program} {l : Launch} {e : Env} {R : Room} {s : State} {m : MethodId} {args : Array Value} {below : List Frame} {meth : Method} {c : Code} {T : State} {locs : List Loc} {cells slots : Nat} {Z : State} {a0 : Array Value} {h h0 : Heap} {EL : List (String × Nat)} {vm0 : Vm} {k0 : Nat} {SFL : List Addr}
/-- the end of a body that may load constants: over the true start s -/
def EndsS (Z : State) (EL : List (String × Nat)) (s : State) (Q : Option Value → Heap → List Loc → Prop) (k n : Nat) (o : Outcome) (U : State) : Prop := ∃ v L, o = .returned v ∧ Q v U.heap L ∧ CHr Z EL s.vm s.heap U.vm U.heap ∧ ReturnedEndW s o U L k n
def MeetsS (l : Launch) (y : MethodName) (bytes : ByteArray) (maxL : Nat) (ret : Option FieldType) (ws : List Jvm.Cond) (rm : Room) (Z : State) (EL : List (String × Nat)) (SFL : List Addr) (as' : Array Value) (h0 : Heap) (Q : Option Value → Heap → List Loc → Prop) (k n : Nat) : Prop :=
  MetFree l y (head1 (Jvm.Cond.code y bytes maxL ret :: ws) rm) (fun a U => a = as' ∧ Z.Warmed39 U.vm ∧ U.heap = h0 ∧ CHv Z EL U.vm h0 ∧ ∀ x ∈ SFL, Safe Z EL U.vm h0 x) (fun _ _ _ _ _ => True) (fun _ U o U' => ∃ v L, o = .returned v ∧ Q v U'.heap L ∧ CHr Z EL U.vm U.heap U'.vm U'.heap ∧ ReturnedEndW U o U' L k n)
theorem enterS {y : MethodName} {bytes : ByteArray} {maxL : Nat} {ret : Option FieldType} {ws : List Jvm.Cond} {rm : Room} {as' : Array Value} {Q : Option Value → Heap → List Loc → Prop} {k n : Nat} {Ls : Array Slot} (pf : plainFor y = true) (ef : ∀ m, entryFrame m as' maxL = mkF m 0 Ls [])
    (body : ∀ (p : Program) (e : Env) (s : State) (m : MethodId) (below : List Frame) (meth : Method) (c : Code) (T : State), p.tables.exec = Jvm.exec → c.code = bytes → c.maxLocals = maxL → s.vm.findClass y.cls = some m.cls → meth.name = y.name → meth.sig.returnType = ret → meth.locks = false → Z.Warmed39 s.vm → Stand p l e rm (s.setVm s.vm) m as' below meth c T [] 0 0 → T.heap = h0 → s.heap = h0 → CHr Z EL s.vm h0 s.vm h0 → s.Since s.vm h0.size → (∀ x ∈ SFL, Safe Z EL s.vm h0 x) → Run p e below (EndsS Z EL s Q k n) (T.setTop (mkF m 0 Ls []))) :
    MeetsS l y bytes maxL ret ws rm Z EL SFL as' h0 Q k n := by
  refine MetFree.of_bodySF pf hisR ?_
  intro p e s m args below meth c s₁ Bd hml0 hP hK
  obtain ⟨rfl, hZ, hh, H, HS⟩ := hP
  obtain ⟨u, o, k1, k2, k3, k4⟩ := body p e s m below meth c s₁ Bd.exec Bd.bytes hml0 (findClass_of_methodNamed Bd.named) (name_of_methodNamed Bd.named Bd.method).1 Bd.returns (BodyLoose.notSynchronized Bd) hZ (Stand.of_body Bd) (by rw [← hh, Bd.state]; rfl) hh (CHr.refl H) ((State.WarmedH.refl s).since _) HS
  exact ⟨u, o, castTop (ef m) k1, k2, k3, k4⟩
theorem backOfSL {y : MethodName} {bytes : ByteArray} {maxL : Nat} {ret : Option FieldType} {rm : Room} {len W : Nat} {as' : Array Value} {Q : Option Value → Heap → List Loc → Prop}
    (hM : MeetsS l y bytes maxL ret [] rm Z EL SFL as' h Q rm.cells rm.slots)
    (hZ : Z.Warmed39 vm0) (wc : (Cond.code y bytes maxL ret).before a0 Z = true) (wz : (Cond.initialized y.cls).before a0 Z = true) (hf : rm.frames + 1 ≤ R.frames) (hl : W + (maxL + 11) + rm.locals ≤ R.locals) (hEL : EW Z a0 EL) (H : CHv Z EL vm0 h) (HS : ∀ x ∈ SFL, x < h.size ∧ Safe Z EL vm0 h x) :
    BackS l R p e below (s.setVm vm0) args y len W (fun A a => a = as' ∧ A.U.heap = h ∧ A.cells + rm.cells ≤ R.cells ∧ A.slots + rm.slots ≤ R.slots)
      (fun A _ v B => ∃ L, Q v B.U.heap L ∧ B.locs = A.locs ++ L ∧ B.cells = A.cells + rm.cells ∧ B.slots = A.slots + rm.slots ∧ CHr Z EL vm0 h B.U.vm B.U.heap) :=
  BackS.of_freeW (bytes := bytes) (maxL := maxL) (ret := ret) (E := fun _ first o t L k n => k = rm.cells ∧ n = rm.slots ∧ (∃ v, o = .returned v ∧ Q v t.heap L) ∧ CHr Z EL first.vm first.heap t.vm t.heap) hM hf hl
    (fun m meth c A a Y hp => have hU : Z.Warmed39 A.U.vm := wtrans (s := s.setVm vm0) hZ Y.warmed
      ⟨by show (Cond.and _ .tt).before a A.U = true; rw [Cond.before_and, mv hU wc]; rfl, mv hU wc, mv hU wz, hp.2.2.1, hp.2.2.2⟩)
    (fun m meth c A a g mk Y hp => ⟨hp.1, wtrans (s := s.setVm vm0) hZ Y.warmed, hp.2.1, (CHv.at Y hZ hEL H).1, fun x hx => (CHv.at Y hZ hEL H).safe (HS x hx).1 (HS x hx).2⟩) (fun _ _ _ _ _ _ _ _ _ => trivial)
    (fun _ _ _ _ ⟨v, L, h1, h2, h3, h4⟩ => ⟨L, _, _, h4, rfl, rfl, ⟨v, h1, h2⟩, h3⟩)
    (fun m meth c A a g mk v t L k n Y hp _ _ ⟨e1, e2, ⟨v', e3, e4⟩, e5⟩ => by
      cases e3; subst e1 e2
      refine ⟨L, e4, rfl, rfl, rfl, (CHv.at Y hZ hEL H).trans ?_⟩
      rw [← hp.2.1]; exact e5)
/-- what the walk knows of the constants at its end -/
theorem chEnd (X : Stand p l e R (s.setVm vm0) m args below meth c T locs cells slots) (hZ : Z.Warmed39 vm0) (hEL : EW Z a0 EL) (eT : T.heap = h) (eS : s.heap = h0) (H : CHr Z EL s.vm h0 vm0 h) : CHr Z EL s.vm s.heap T.vm T.heap := by
  rw [eS, eT]; exact H.trans (CHv.at X hZ hEL H.1)
theorem endNS (X : Stand p l e R (s.setVm vm0) m args below meth c T locs cells slots) (hx : p.tables.exec = Jvm.exec) (hlk : meth.locks = false) (hZ : Z.Warmed39 vm0) (hEL : EW Z a0 EL) (eT : T.heap = h) (eS : s.heap = h0) (H : CHr Z EL s.vm h0 vm0 h) (hS : s.Since vm0 k0) (hk0 : k0 ≤ h.size) {Q : Option Value → Heap → List Loc → Prop} {k n pc : Nat} {Ls : Array Slot} {z : Int32} {rest : List Value} {t : FieldType} (hret : meth.sig.returnType = some t) (ht : t = .boolean ∨ t = .byte ∨ t = .char ∨ t = .short) (hd : decode c.code pc = .ok (.ireturn, 1)) (hq : Q (some (.int (nar t z))) T.heap locs) (hk : cells ≤ k) (hn : slots ≤ n) :
    Run p e below (EndsS Z EL s Q k n) (T.setTop (mkF m pc Ls (.int z :: rest))) := by
  obtain ⟨fs, hr, hrun, hended, hW⟩ := (smono X hk hn).leaveW hS (eT ▸ hk0) (v := some (.int (nar t z))) (fun h => by rw [hret] at h; cases h) hlk
  exact ⟨_, _, retN X hx hret ht hd hr, hrun, hended, _, _, rfl, hq, (chEnd X hZ hEL eT eS H : CHr Z EL s.vm s.heap T.vm T.heap), hW⟩
theorem endVS (X : Stand p l e R (s.setVm vm0) m args below meth c T locs cells slots) (hx : p.tables.exec = Jvm.exec) (hlk : meth.locks = false) (hZ : Z.Warmed39 vm0) (hEL : EW Z a0 EL) (eT : T.heap = h) (eS : s.heap = h0) (H : CHr Z EL s.vm h0 vm0 h) (hS : s.Since vm0 k0) (hk0 : k0 ≤ h.size) {Q : Option Value → Heap → List Loc → Prop} {k n pc : Nat} {Ls : Array Slot} (hret : meth.sig.returnType = none) (hd : decode c.code pc = .ok (.return_, 1)) (hq : Q none T.heap locs) (hk : cells ≤ k) (hn : slots ≤ n) :
    Run p e below (EndsS Z EL s Q k n) (T.setTop (mkF m pc Ls [])) := by
  obtain ⟨fs, hr, hrun, hended, hW⟩ := (smono X hk hn).leaveW hS (eT ▸ hk0) (v := none) (fun _ => rfl) hlk
  exact ⟨_, _, X.returnOut hx hret hd hr, hrun, hended, _, _, rfl, hq, (chEnd X hZ hEL eT eS H : CHr Z EL s.vm s.heap T.vm T.heap), hW⟩
theorem endAS (X : Stand p l e R (s.setVm vm0) m args below meth c T locs cells slots) (hx : p.tables.exec = Jvm.exec) (hlk : meth.locks = false) (hZ : Z.Warmed39 vm0) (hEL : EW Z a0 EL) (eT : T.heap = h) (eS : s.heap = h0) (H : CHr Z EL s.vm h0 vm0 h) (hS : s.Since vm0 k0) (hk0 : k0 ≤ h.size) {Q : Option Value → Heap → List Loc → Prop} {k n pc : Nat} {Ls : Array Slot} {w : Value} {rest : List Value} {t : FieldType} (hret : meth.sig.returnType = some t) (ht : t.isReference = true) (hv : w.isRef = true) (hd : decode c.code pc = .ok (.areturn, 1)) (hq : Q (some w) T.heap locs) (hk : cells ≤ k) (hn : slots ≤ n) :
    Run p e below (EndsS Z EL s Q k n) (T.setTop (mkF m pc Ls (w :: rest))) := by
  obtain ⟨fs, hr, hrun, hended, hW⟩ := (smono X hk hn).leaveW hS (eT ▸ hk0) (v := some w) (fun h => by rw [hret] at h; cases h) hlk
  have hn' : narrow t w = w := by cases w <;> first | (cases hv; done) | (cases t <;> first | rfl | (cases ht; done))
  exact ⟨_, _, retOut X hx hret hn' (Or.inr (Or.inr (Or.inr (Or.inr ⟨rfl, ht, hv⟩)))) hd hr, hrun, hended, _, _, rfl, hq, (chEnd X hZ hEL eT eS H : CHr Z EL s.vm s.heap T.vm T.heap), hW⟩
/-- ldc of a constant that is held: what it holds is read -/
theorem goLdc {own text : String} {index : Nat} {ds : List Int32} {A : Outcome → State → Prop} (X : Stand p l e R (s.setVm vm0) m args below meth c T locs cells slots) (hx : p.tables.exec = Jvm.exec) (hZ : Z.Warmed39 vm0) (hown : vm0.findClass own = some m.cls) (w : (Cond.stringLink own index text).before a0 Z = true) (wS : ∀ a ∈ Bundle.stringAtoms, a.before a0 Z = true)
    (eT : T.heap = h) (hS : s.Since vm0 k0) (hk : k0 ≤ h.size) (hEL : EW Z a0 EL) (hmem : (own, index) ∈ EL) (H : CHr Z EL s.vm h0 vm0 h) (ht : (∀ c ∈ text.toList, c.toNat < 256) ∧ text.toList.map (fun c => Value.int (Jvm.Lit.byteI c.toNat.toUInt16)) = (ds.map fun c => c.toInt8.toInt32).map Value.int) (hz : ¬ (Int32.ofNat ds.length) < 0) (hl : (Int32.ofNat ds.length).toNatClampNeg = ds.length)
    {pc : Nat} {Ls : Array Slot} {st : List Value} (hd : decode c.code pc = .ok (.ldc index, 2)) {n : Nat} (hn : 4 * text.toList.length ≤ n) (hbig : n ≤ 536870912) (hc : cells + 2 ≤ R.cells) (hl' : slots + (n + 4) ≤ R.slots)
    (kk : ∀ (a b : Addr) (kb : ClassId) (T' : State) (h' : Heap) (k1 : Nat), Stand p l e R (s.setVm T'.vm) m args below meth c T' locs (cells + 2) (slots + (n + 4)) → T'.heap = h' → Ext h h' → s.Since T'.vm k1 → k1 ≤ h'.size → Z.Warmed39 T'.vm → T'.vm.findClass own = some m.cls → Exa Z h' a "java/lang/String" → Fld Z h' a "java/lang/String" "coder" "B" (.int 0) → Fld Z h' a "java/lang/String" "value" "[B" (.ref b) → Arv Z h' b kb .byte (Int32.ofNat ds.length) ((ds.map fun c => c.toInt8.toInt32).map Value.int) (.int 0) → CHr Z EL s.vm h0 T'.vm h' → CHr Z EL vm0 h T'.vm h' → (∀ x, Safe Z EL T'.vm h' x → x ≠ a ∧ x ≠ b) → Run p e below A (T'.setTop (mkF m (pc + 2) Ls (.ref a :: st)))) : Run p e below A (T.setTop (mkF m pc Ls st)) := by
  obtain ⟨a, T', h', k1, b, kb, X', e', E, hS', hk', hZ', hown', q1, q2, q3, q4, -, -, C, -, q5, st'⟩ := ldcCH X hx hZ hown w wS eT hS hk hEL hmem H.1 ht hz (by rw [hl]; simp) (g := mkF m pc Ls st) rfl hd hn hbig hc hl'
  exact go st' (kk a b kb T' h' k1 X' e' E hS' hk' hZ' hown' q1 q2 q3 q4 (H.trans C) C q5)
theorem callStS {own : String} {index : Nat} {y : MethodName} {bytes : ByteArray} {maxL : Nat} {ret : Option FieldType} {rm : Room} {Q : Option Value → Heap → List Loc → Prop} (X : Stand p l e R (s.setVm vm0) m args below meth c T locs cells slots) (hx : p.tables.exec = Jvm.exec) (hZ : Z.Warmed39 vm0) (hown : vm0.findClass own = some m.cls)
    (w1 : (Jvm.Cond.methodLink own index y).before a0 Z = true) (w2 : (Jvm.Cond.static y).before a0 Z = true) (w3 : (Jvm.Cond.initialized y.cls).before a0 Z = true) (w4 : (Jvm.Cond.code y bytes maxL ret).before a0 Z = true) (hy : y.cls ≠ "java/lang/invoke/MethodHandle" ∧ y.cls ≠ "java/lang/invoke/VarHandle") (eT : T.heap = h) (hS : s.Since vm0 k0) (hk : k0 ≤ h.size) (hEL : EW Z a0 EL) (H : CHr Z EL s.vm h0 vm0 h) {argsL rest : List Value}
    (HS : ∀ x ∈ SFL, x < h.size ∧ Safe Z EL vm0 h x) (hM : MeetsS l y bytes maxL ret [] rm Z EL SFL argsL.toArray h Q rm.cells rm.slots) {W : Nat} (hf : rm.frames + 1 ≤ R.frames) (hl : W + (maxL + 11) + rm.locals ≤ R.locals) (hc : cells + rm.cells ≤ R.cells) (hn : slots + rm.slots ≤ R.slots)
    {pc : Nat} {Ls : Array Slot} {st : List Value} (hsize : Ls.size = c.maxLocals) (hlen : ∀ sig, parseMethodDescriptor y.desc = some sig → argsL.length = sig.parameters.length) (hst : st = argsL.reverse ++ rest) (hW : (rest.map fun v => v.category).sum ≤ W) (hd : decode c.code pc = .ok (.invokestatic index, 3)) {A : Outcome → State → Prop}
    (kk : ∀ (v : Option Value) (T' : State) (L : List Loc) (h' : Heap) (k1 : Nat), Stand p l e R (s.setVm T'.vm) m args below meth c T' (locs ++ L) (cells + rm.cells) (slots + rm.slots) → T'.heap = h' → s.Since T'.vm k1 → k1 ≤ h'.size → Z.Warmed39 T'.vm → T'.vm.findClass own = some m.cls → CHr Z EL s.vm h0 T'.vm h' → CHr Z EL vm0 h T'.vm h' → Q v h' L → Run p e below A (T'.setTop (mkF m (pc + 3) Ls (v.toList ++ rest)))) : Run p e below A (T.setTop (mkF m pc Ls st)) := by
  obtain ⟨v, _, ⟨T18, L18, k18, n18⟩, -, X18, S18, g18, ⟨Lc18, hQ18, l18, y18, z18, C18⟩, st18⟩ := callSS X hx hown (mvT (s := s.setVm vm0) hZ w1) (mvT (s := s.setVm vm0) hZ w2) (mvT (s := s.setVm vm0) hZ w3) (mvT (s := s.setVm vm0) hZ w4) hy (backOfSL (W := W) hM hZ w4 w3 hf hl hEL H.1 HS) (g := mkF m pc Ls st) rfl hsize (argsL := argsL) (rest := rest) hlen hst (by show 2 * 0 + _ ≤ _; omega) hd (fun _ _ => ⟨rfl, eT, hc, hn⟩)
  dsimp only [Pt.U, Pt.locs, Pt.cells, Pt.slots] at X18 l18 y18 z18 st18 hQ18 S18 g18 C18
  subst l18 y18 z18
  exact goT st18 (kk v _ _ _ _ X18 rfl (foldS (T := T) hS (eT ▸ hk) S18 g18) (Nat.le_refl _) (State.Warmed39.trans (t := s.setVm vm0) hZ S18.1) (by rw [S18.1.alike.findClass]; exact hown) (H.trans C18) C18 hQ18)
theorem callSpS {own : String} {index : Nat} {y : MethodName} (hy1 : y.name = "<init>") {bytes : ByteArray} {maxL : Nat} {rm : Room} {Q : Option Value → Heap → List Loc → Prop} (X : Stand p l e R (s.setVm vm0) m args below meth c T locs cells slots) (hx : p.tables.exec = Jvm.exec) (hZ : Z.Warmed39 vm0) (hown : vm0.findClass own = some m.cls)
    (w1 : (Jvm.Cond.methodLink own index y).before a0 Z = true) (w6 : (Jvm.Cond.instanceMethod y).before a0 Z = true) (w4 : (Jvm.Cond.code y bytes maxL none).before a0 Z = true) (w3 : (Jvm.Cond.initialized y.cls).before a0 Z = true) (hy : y.cls ≠ "java/lang/invoke/MethodHandle" ∧ y.cls ≠ "java/lang/invoke/VarHandle") (eT : T.heap = h) (hS : s.Since vm0 k0) (hk : k0 ≤ h.size) (hEL : EW Z a0 EL) (H : CHr Z EL s.vm h0 vm0 h) {a : Addr} {argsL rest : List Value}
    (HS : ∀ x ∈ SFL, x < h.size ∧ Safe Z EL vm0 h x) (hM : MeetsS l y bytes maxL none [] rm Z EL SFL (.ref a :: argsL).toArray h Q rm.cells rm.slots) {W : Nat} (hf : rm.frames + 1 ≤ R.frames) (hl : W + (maxL + 11) + rm.locals ≤ R.locals) (hc : cells + rm.cells ≤ R.cells) (hn : slots + rm.slots ≤ R.slots)
    {pc : Nat} {Ls : Array Slot} {st : List Value} (hsize : Ls.size = c.maxLocals) (hlen : ∀ sig, parseMethodDescriptor y.desc = some sig → argsL.length = sig.parameters.length) (hst : st = argsL.reverse ++ .ref a :: rest) (hW : (rest.map fun v => v.category).sum ≤ W) (hd : decode c.code pc = .ok (.invokespecial index, 3)) {A : Outcome → State → Prop}
    (kk : ∀ (v : Option Value) (T' : State) (L : List Loc) (h' : Heap) (k1 : Nat), Stand p l e R (s.setVm T'.vm) m args below meth c T' (locs ++ L) (cells + rm.cells) (slots + rm.slots) → T'.heap = h' → s.Since T'.vm k1 → k1 ≤ h'.size → Z.Warmed39 T'.vm → T'.vm.findClass own = some m.cls → CHr Z EL s.vm h0 T'.vm h' → CHr Z EL vm0 h T'.vm h' → Q v h' L → Run p e below A (T'.setTop (mkF m (pc + 3) Ls (v.toList ++ rest)))) : Run p e below A (T.setTop (mkF m pc Ls st)) := by
  obtain ⟨v, _, ⟨T18, L18, k18, n18⟩, -, X18, S18, g18, ⟨Lc18, hQ18, l18, y18, z18, C18⟩, st18⟩ := X.specialBackS hx hy1 hown (mvT (s := s.setVm vm0) hZ w1) (mvT (s := s.setVm vm0) hZ w6) (mvT (s := s.setVm vm0) hZ w4) hy (backOfSL (W := W) hM hZ w4 w3 hf hl hEL H.1 HS) (g := mkF m pc Ls st) rfl hsize (Steps.refl _) (a := a) (argsL := argsL) (rest := rest) hlen hst (by show 2 * 0 + _ ≤ _; omega) hd (fun _ _ => ⟨rfl, eT, hc, hn⟩)
  dsimp only [Pt.U, Pt.locs, Pt.cells, Pt.slots] at X18 l18 y18 z18 st18 hQ18 S18 g18 C18
  subst l18 y18 z18
  exact goT st18 (kk v _ _ _ _ X18 rfl (foldS (T := T) hS (eT ▸ hk) S18 g18) (Nat.le_refl _) (State.Warmed39.trans (t := s.setVm vm0) hZ S18.1) (by rw [S18.1.alike.findClass]; exact hown) (H.trans C18) C18 hQ18)
theorem callViS {own C : String} {index : Nat} {y z : MethodName} {bytes : ByteArray} {maxL : Nat} {ret : Option FieldType} {rm : Room} {Q : Option Value → Heap → List Loc → Prop} (X : Stand p l e R (s.setVm vm0) m args below meth c T locs cells slots) (hx : p.tables.exec = Jvm.exec) (hZ : Z.Warmed39 vm0) (hown : vm0.findClass own = some m.cls)
    (w1 : (Jvm.Cond.methodLink own index y).before a0 Z = true) (w2 : (Jvm.Cond.declares y).before a0 Z = true) (nf : NotFace (s.setVm vm0) y) (w5 : (Jvm.Cond.selects C y z).before a0 Z = true) (w6 : (Jvm.Cond.instanceMethod z).before a0 Z = true) (w4 : (Jvm.Cond.code z bytes maxL ret).before a0 Z = true) (w3 : (Jvm.Cond.initialized z.cls).before a0 Z = true) (hy : y.cls ≠ "java/lang/invoke/MethodHandle" ∧ y.cls ≠ "java/lang/invoke/VarHandle") (eT : T.heap = h) (hS : s.Since vm0 k0) (hk : k0 ≤ h.size) (hEL : EW Z a0 EL) (H : CHr Z EL s.vm h0 vm0 h) {a : Addr} (E : Exa Z h a C) {argsL rest : List Value}
    (HS : ∀ x ∈ SFL, x < h.size ∧ Safe Z EL vm0 h x) (hM : MeetsS l z bytes maxL ret [] rm Z EL SFL (.ref a :: argsL).toArray h Q rm.cells rm.slots) {W : Nat} (hf : rm.frames + 1 ≤ R.frames) (hl : W + (maxL + 11) + rm.locals ≤ R.locals) (hc : cells + rm.cells ≤ R.cells) (hn : slots + rm.slots ≤ R.slots)
    {pc : Nat} {Ls : Array Slot} {st : List Value} (hsize : Ls.size = c.maxLocals) (hlen : ∀ sig, parseMethodDescriptor y.desc = some sig → argsL.length = sig.parameters.length) (hst : st = argsL.reverse ++ .ref a :: rest) (hW : (rest.map fun v => v.category).sum ≤ W) (hd : decode c.code pc = .ok (.invokevirtual index, 3)) {A : Outcome → State → Prop}
    (kk : ∀ (v : Option Value) (T' : State) (L : List Loc) (h' : Heap) (k1 : Nat), Stand p l e R (s.setVm T'.vm) m args below meth c T' (locs ++ L) (cells + rm.cells) (slots + rm.slots) → T'.heap = h' → s.Since T'.vm k1 → k1 ≤ h'.size → Z.Warmed39 T'.vm → T'.vm.findClass own = some m.cls → CHr Z EL s.vm h0 T'.vm h' → CHr Z EL vm0 h T'.vm h' → Q v h' L → Run p e below A (T'.setTop (mkF m (pc + 3) Ls (v.toList ++ rest)))) : Run p e below A (T.setTop (mkF m pc Ls st)) := by
  obtain ⟨cq, kq, qa, qb, qc⟩ := isOf (s := s.setVm vm0) hZ eT E
  obtain ⟨v, _, ⟨T18, L18, k18, n18⟩, -, X18, S18, g18, ⟨Lc18, hQ18, l18, y18, z18, C18⟩, st18⟩ := X.virtualBackS hx (y := y) (z := z) hown (mvT (s := s.setVm vm0) hZ w1) (mvT (s := s.setVm vm0) hZ w2) nf (mvT (s := s.setVm vm0) hZ w5) (mvT (s := s.setVm vm0) hZ w6) hy (backOfSL (W := W) hM hZ w4 w3 hf hl hEL H.1 HS) qa qc (g := mkF m pc Ls st) rfl hsize (Steps.refl _) (argsL := argsL) (rest := rest) hlen hst (by show 2 * 0 + _ ≤ _; omega) hd (fun _ _ => ⟨rfl, eT, hc, hn⟩)
  dsimp only [Pt.U, Pt.locs, Pt.cells, Pt.slots] at X18 l18 y18 z18 st18 hQ18 S18 g18 C18
  subst l18 y18 z18
  exact goT st18 (kk v _ _ _ _ X18 rfl (foldS (T := T) hS (eT ▸ hk) S18 g18) (Nat.le_refl _) (State.Warmed39.trans (t := s.setVm vm0) hZ S18.1) (by rw [S18.1.alike.findClass]; exact hown) (H.trans C18) C18 hQ18)
theorem wr_sz {h h' : Heap} {a : Addr} {sl : Nat} {v : Value} (W : Wr h h' a sl v) : h.size ≤ h'.size := by obtain ⟨c0, -, -, -, rfl⟩ := W; simp
theorem subStr : ∀ d ∈ Bundle.stringAtoms, d ∈ tables_1 := by decide +kernel
end OwnS
theorem d_j42_m149_0 : decode jdk_42_method_149_code 0 = .ok (.aload_n 0, 1) := by decide +kernel
theorem d_j42_m149_1 : decode jdk_42_method_149_code 1 = .ok (.invokespecial 1, 3) := by decide +kernel
theorem d_j42_m149_4 : decode jdk_42_method_149_code 4 = .ok (.iload_n 3, 1) := by decide +kernel
theorem d_j42_m149_5 : decode jdk_42_method_149_code 5 = .ok (.ifCond .ne 22, 3) := by decide +kernel
theorem d_j42_m149_8 : decode jdk_42_method_149_code 8 = .ok (.aload_n 0, 1) := by decide +kernel
theorem d_j42_m149_9 : decode jdk_42_method_149_code 9 = .ok (.ldc 7, 2) := by decide +kernel
theorem d_j42_m149_11 : decode jdk_42_method_149_code 11 = .ok (.getfield 9, 3) := by decide +kernel
theorem d_j42_m149_14 : decode jdk_42_method_149_code 14 = .ok (.putfield 9, 3) := by decide +kernel
theorem d_j42_m149_17 : decode jdk_42_method_149_code 17 = .ok (.aload_n 0, 1) := by decide +kernel
theorem d_j42_m149_18 : decode jdk_42_method_149_code 18 = .ok (.ldc 7, 2) := by decide +kernel
theorem d_j42_m149_20 : decode jdk_42_method_149_code 20 = .ok (.getfield 15, 3) := by decide +kernel
theorem d_j42_m149_23 : decode jdk_42_method_149_code 23 = .ok (.putfield 15, 3) := by decide +kernel
theorem d_j42_m149_26 : decode jdk_42_method_149_code 26 = .ok (.return_, 1) := by decide +kernel
theorem pn_0 : plainName "java/lang/String" = true := by first | (simp [plainName, overriddenIn]; done) | decide +kernel
def Q_rm_e4 (Z : State) (x b : Addr) (h0 : Heap) (n0 : Nat) (v : Option Value) (h : Heap) (L : List Loc) : Prop := v = none ∧ Fr n0 L ∧ Keep h0 h [x] ∧ ∃ (t : Addr) (kb : ClassId), Str Z h x t kb []
set_option maxRecDepth 65536 in
set_option maxHeartbeats 40000000 in
theorem rm_e4 (l : Launch) (Z : State) (a0 : Array Value) (hw : ∀ d ∈ tables_1, d.before a0 Z = true) (ws : List Jvm.Cond) (x b : Addr) (h0 : Heap) (n0 : Nat) (O0 : Old Z n0 h0) (hEL : EW Z a0 consts_1) (E_x : Exa Z h0 x "java/lang/String") (F_value_x : Fld Z h0 x "java/lang/String" "value" "[B" .null) (F_coder_x : Fld Z h0 x "java/lang/String" "coder" "B" (.int (0 : Int32))) (g_x : n0 ≤ x) :
    MeetsS l (⟨"java/lang/String", "<init>", "([CIILjava/lang/Void;)V"⟩ : MethodName) jdk_42_method_149_code 6 none ws ({ frames := 1, cells := 4, slots := 8, locals := 12 } : Room) Z consts_1 [x] #[(.ref x), (.ref b), (.int (0 : Int32)), (.int (0 : Int32)), .null] h0 (Q_rm_e4 Z x b h0 n0) 4 8 := by
  refine enterS (Ls := #[.val (.ref x), .val (.ref b), .val (.int (0 : Int32)), .val (.int (0 : Int32)), .val .null, .unset]) (plainFor_of_name pn_0) (fun m => by first | (simp [entryFrame, mkF, argsToLocals, Value.category]; done) | rfl) ?_
  intro p e s m below meth c T0 hx hby hml hown hnm hret hlk hZ X0 e0 eS CH hS HS
  have N0 := Fr.nil n0
  replace hown : s.vm.findClass "java/lang/String" = some m.cls := hown
  show Run p e below _ (T0.setTop (mkF m 0 #[.val (.ref x), .val (.ref b), .val (.int (0 : Int32)), .val (.int (0 : Int32)), .val .null, .unset] []))
  have hk : h0.size ≤ h0.size := Nat.le_refl _
  have SF_x : Safe Z consts_1 s.vm h0 x := HS x (by simp)
  have K0 := Keep.refl h0 [x]
  refine go (fun _ => XS.aloadN X0.here hx rfl (hb hby d_j42_m149_0) rfl rfl) ?_
  show Run p e below _ (T0.setTop (mkF m 1 #[.val (.ref x), .val (.ref b), .val (.int (0 : Int32)), .val (.int (0 : Int32)), .val .null, .unset] [(.ref x)]))
  obtain ⟨T1, X1, e1, st1⟩ := initO X0 hx hZ hown (wd hw 21 rfl) (wd hw 22 rfl) (wd hw 23 rfl) e0 (g := (mkF m 1 #[.val (.ref x), .val (.ref b), .val (.int (0 : Int32)), .val (.int (0 : Int32)), .val .null, .unset] [(.ref x)])) rfl (by rw [hml]; rfl) rfl (hb hby d_j42_m149_1) (by decide) (W := 0) (by show 2 * 0 + _ ≤ _; exact Nat.le_of_eq rfl) (by decide)
  refine go st1 ?_
  show Run p e below _ (T1.setTop (mkF m 4 #[.val (.ref x), .val (.ref b), .val (.int (0 : Int32)), .val (.int (0 : Int32)), .val .null, .unset] []))
  refine go (fun _ => XS.iloadN X1.here hx rfl (hb hby d_j42_m149_4) rfl) ?_
  show Run p e below _ (T1.setTop (mkF m 5 #[.val (.ref x), .val (.ref b), .val (.int (0 : Int32)), .val (.int (0 : Int32)), .val .null, .unset] [(.int (0 : Int32))]))
  refine go (fun _ => XS.ifNo X1.here hx rfl (hb hby d_j42_m149_5) rfl ((if0 _ _).trans (teq (by decide : (0 : Int32) = 0)).2)) ?_
  show Run p e below _ (T1.setTop (mkF m 8 #[.val (.ref x), .val (.ref b), .val (.int (0 : Int32)), .val (.int (0 : Int32)), .val .null, .unset] []))
  refine go (fun _ => XS.aloadN X1.here hx rfl (hb hby d_j42_m149_8) rfl rfl) ?_
  show Run p e below _ (T1.setTop (mkF m 9 #[.val (.ref x), .val (.ref b), .val (.int (0 : Int32)), .val (.int (0 : Int32)), .val .null, .unset] [(.ref x)]))
  have lt3_x := E_x.lt
  refine goLdc (text := "") (ds := ([] : List Int32)) X1 hx hZ hown (wd hw 24 rfl) (fun d hd => hw d (subStr d hd)) e1 hS hk hEL (by decide) CH ⟨by decide, by decide⟩ (by decide) (by decide) (n := 0) (hb hby d_j42_m149_9) (by decide) (by decide) (by decide) (by decide) ?_
  intro b2 t2 kb2 T2 h2 k2 X2 e2 E2 hS hk hZ hown Ea2 Fc2 Fv2 Va2 CH' D2 sf2
  have SF_x := CHr.safe D2 lt3_x SF_x
  have O0 := O0.ext E2
  have E_x := E_x.ext E2
  have F_value_x := F_value_x.ext E2
  have F_coder_x := F_coder_x.ext E2
  have K0 := K0.ext E2
  have CH := CH'
  have T_b2 : Str Z h2 b2 t2 kb2 ([] : List Int32) := ⟨Ea2, Fv2, Fc2, Va2⟩
  have ne_x_b2 := (sf2 _ SF_x).1
  have ne_x_t2 := (sf2 _ SF_x).2
  show Run p e below _ (T2.setTop (mkF m 11 #[.val (.ref x), .val (.ref b), .val (.int (0 : Int32)), .val (.int (0 : Int32)), .val .null, .unset] [(.ref b2), (.ref x)]))
  obtain ⟨T4, X4, e4, st4⟩ := getF X2 hx hZ hown (host := "") (Or.inl (wd hw 30 rfl)) Via.refl e2 T_b2.2.1 (g := (mkF m 11 #[.val (.ref x), .val (.ref b), .val (.int (0 : Int32)), .val (.int (0 : Int32)), .val .null, .unset] [(.ref b2), (.ref x)])) rfl rfl (hb hby d_j42_m149_11)
  refine go st4 ?_
  show Run p e below _ (T4.setTop (mkF m 14 #[.val (.ref x), .val (.ref b), .val (.int (0 : Int32)), .val (.int (0 : Int32)), .val .null, .unset] [(.ref t2), (.ref x)]))
  obtain ⟨T5, h5, X5, e5, W5, st5⟩ := putF X4 hx hZ hown (host := "") (Or.inl (wd hw 30 rfl)) Via.refl e4 F_value_x E_x (Or.inr ⟨(wd hw 26 rfl), rfl, hnm⟩) (wd hw 11 rfl) (ty := (.array .byte)) (by decide) rfl rfl (g := (mkF m 14 #[.val (.ref x), .val (.ref b), .val (.int (0 : Int32)), .val (.int (0 : Int32)), .val .null, .unset] [(.ref t2), (.ref x)])) rfl rfl (hb hby d_j42_m149_14)
  have CHo := CH
  have SF_xo := SF_x
  have hk := Nat.le_trans hk (wr_sz W5)
  have SF_x := Safe.wr W5 SF_xo CHo.1 SF_xo
  have CH := CHo.trans (CHr.wr W5 SF_xo CHo.1)
  have O0 := O0.wr W5 g_x
  have E_x := E_x.wr W5
  have F_value_x := F_value_x.same W5
  have F_coder_x := F_coder_x.other W5 (Or.inr (slot_ne (Or.inr (wd hw 27 rfl)) (Or.inr (wd hw 26 rfl)) (by decide) (t := .byte) (t' := (.array .byte)) (by decide) (by decide)))
  have K0 := K0.wr W5 (Or.inl (by simp))
  have T_b2 := T_b2.other W5 (Ne.symm ne_x_b2) (Ne.symm ne_x_t2)
  have N5 := Fr.snoc X5 N0 g_x
  refine go st5 ?_
  show Run p e below _ (T5.setTop (mkF m 17 #[.val (.ref x), .val (.ref b), .val (.int (0 : Int32)), .val (.int (0 : Int32)), .val .null, .unset] []))
  refine go (fun _ => XS.aloadN X5.here hx rfl (hb hby d_j42_m149_17) rfl rfl) ?_
  show Run p e below _ (T5.setTop (mkF m 18 #[.val (.ref x), .val (.ref b), .val (.int (0 : Int32)), .val (.int (0 : Int32)), .val .null, .unset] [(.ref x)]))
  have lt7_x := E_x.lt
  have lt7_b2 := T_b2.1.lt
  have lt7_t2 := T_b2.2.2.2.lt
  refine goLdc (text := "") (ds := ([] : List Int32)) X5 hx hZ hown (wd hw 24 rfl) (fun d hd => hw d (subStr d hd)) e5 hS hk hEL (by decide) CH ⟨by decide, by decide⟩ (by decide) (by decide) (n := 0) (hb hby d_j42_m149_18) (by decide) (by decide) (by decide) (by decide) ?_
  intro b6 t6 kb6 T6 h6 k6 X6 e6 E6 hS hk hZ hown Ea6 Fc6 Fv6 Va6 CH' D6 sf6
  have SF_x := CHr.safe D6 lt7_x SF_x
  have O0 := O0.ext E6
  have E_x := E_x.ext E6
  have F_value_x := F_value_x.ext E6
  have F_coder_x := F_coder_x.ext E6
  have K0 := K0.ext E6
  have T_b2 := T_b2.ext E6
  have CH := CH'
  have T_b6 : Str Z h6 b6 t6 kb6 ([] : List Int32) := ⟨Ea6, Fv6, Fc6, Va6⟩
  have ne_x_b6 := (sf6 _ SF_x).1
  have ne_x_t6 := (sf6 _ SF_x).2
  show Run p e below _ (T6.setTop (mkF m 20 #[.val (.ref x), .val (.ref b), .val (.int (0 : Int32)), .val (.int (0 : Int32)), .val .null, .unset] [(.ref b6), (.ref x)]))
  obtain ⟨T8, X8, e8, st8⟩ := getF X6 hx hZ hown (host := "") (Or.inl (wd hw 31 rfl)) Via.refl e6 T_b6.2.2.1 (g := (mkF m 20 #[.val (.ref x), .val (.ref b), .val (.int (0 : Int32)), .val (.int (0 : Int32)), .val .null, .unset] [(.ref b6), (.ref x)])) rfl rfl (hb hby d_j42_m149_20)
  refine go st8 ?_
  show Run p e below _ (T8.setTop (mkF m 23 #[.val (.ref x), .val (.ref b), .val (.int (0 : Int32)), .val (.int (0 : Int32)), .val .null, .unset] [(.int (0 : Int32)), (.ref x)]))
  obtain ⟨T9, h9, X9, e9, W9, st9⟩ := putFN X8 hx hZ hown (wd hw 31 rfl) Via.refl e8 F_coder_x E_x (Or.inr ⟨(wd hw 27 rfl), rfl, hnm⟩) (wd hw 11 rfl) (ty := .byte) (v' := (.int (nar .byte (0 : Int32)))) (by decide) rfl (fits_nar_byte _) (g := (mkF m 23 #[.val (.ref x), .val (.ref b), .val (.int (0 : Int32)), .val (.int (0 : Int32)), .val .null, .unset] [(.int (0 : Int32)), (.ref x)])) rfl rfl (hb hby d_j42_m149_23)
  have CHo := CH
  have SF_xo := SF_x
  have hk := Nat.le_trans hk (wr_sz W9)
  have SF_x := Safe.wr W9 SF_xo CHo.1 SF_xo
  have CH := CHo.trans (CHr.wr W9 SF_xo CHo.1)
  have O0 := O0.wr W9 g_x
  have E_x := E_x.wr W9
  have F_value_x := F_value_x.other W9 (Or.inr (slot_ne (Or.inr (wd hw 26 rfl)) (Or.inr (wd hw 27 rfl)) (by decide) (t := (.array .byte)) (t' := .byte) (by decide) (by decide)))
  have F_coder_x := F_coder_x.same W9
  have K0 := K0.wr W9 (Or.inl (by simp))
  have T_b2 := T_b2.other W9 (Ne.symm ne_x_b2) (Ne.symm ne_x_t2)
  have T_b6 := T_b6.other W9 (Ne.symm ne_x_b6) (Ne.symm ne_x_t6)
  rw [(show nar .byte (0 : Int32) = (0 : Int32) by decide)] at F_coder_x
  have N9 := Fr.snoc X9 N5 g_x
  refine go st9 ?_
  show Run p e below _ (T9.setTop (mkF m 26 #[.val (.ref x), .val (.ref b), .val (.int (0 : Int32)), .val (.int (0 : Int32)), .val .null, .unset] []))
  exact endVS X9 hx hlk hZ hEL e9 eS CH hS hk hret (hb hby d_j42_m149_26) (by rw [e9]; exact ⟨rfl, N9, K0, t2, kb2, E_x, F_value_x, F_coder_x, T_b2.2.2.2⟩) (by decide) (by decide)
theorem d_j42_m3_0 : decode jdk_42_method_3_code 0 = .ok (.aload_n 0, 1) := by decide +kernel
theorem d_j42_m3_1 : decode jdk_42_method_3_code 1 = .ok (.aload_n 1, 1) := by decide +kernel
theorem d_j42_m3_2 : decode jdk_42_method_3_code 2 = .ok (.iconst 0, 1) := by decide +kernel
theorem d_j42_m3_3 : decode jdk_42_method_3_code 3 = .ok (.aload_n 1, 1) := by decide +kernel
theorem d_j42_m3_4 : decode jdk_42_method_3_code 4 = .ok (.arraylength, 1) := by decide +kernel
theorem d_j42_m3_5 : decode jdk_42_method_3_code 5 = .ok (.aconst_null, 1) := by decide +kernel
theorem d_j42_m3_6 : decode jdk_42_method_3_code 6 = .ok (.invokespecial 27, 3) := by decide +kernel
theorem pd_0 : parseMethodDescriptor "([CIILjava/lang/Void;)V" = some ⟨[(.array .char), .int, .int, (.object "java/lang/Void")], none⟩ := by decide +kernel
theorem d_j42_m3_9 : decode jdk_42_method_3_code 9 = .ok (.return_, 1) := by decide +kernel
def Q_rm_e1 (Z : State) (x b : Addr) (kC : ClassId) (h0 : Heap) (n0 : Nat) (v : Option Value) (h : Heap) (L : List Loc) : Prop := v = none ∧ Fr n0 L ∧ Keep h0 h [x] ∧ ∃ (t : Addr) (kb : ClassId), Str Z h x t kb []
set_option maxRecDepth 65536 in
set_option maxHeartbeats 40000000 in
theorem rm_e1 (l : Launch) (Z : State) (a0 : Array Value) (hw : ∀ d ∈ tables_1, d.before a0 Z = true) (ws : List Jvm.Cond) (x b : Addr) (kC : ClassId) (h0 : Heap) (n0 : Nat) (O0 : Old Z n0 h0) (hEL : EW Z a0 consts_1) (E_x : Exa Z h0 x "java/lang/String") (F_value_x : Fld Z h0 x "java/lang/String" "value" "[B" .null) (F_coder_x : Fld Z h0 x "java/lang/String" "coder" "B" (.int (0 : Int32))) (g_x : n0 ≤ x) (V_b : Arv Z h0 b kC .char (0 : Int32) [] (.int (0 : Int32))) :
    MeetsS l (⟨"java/lang/String", "<init>", "([C)V"⟩ : MethodName) jdk_42_method_3_code 2 none ws ({ frames := 2, cells := 4, slots := 8, locals := 29 } : Room) Z consts_1 [x] #[(.ref x), (.ref b)] h0 (Q_rm_e1 Z x b kC h0 n0) 4 8 := by
  refine enterS (Ls := #[.val (.ref x), .val (.ref b)]) (plainFor_of_name pn_0) (fun m => by first | (simp [entryFrame, mkF, argsToLocals, Value.category]; done) | rfl) ?_
  intro p e s m below meth c T0 hx hby hml hown hnm hret hlk hZ X0 e0 eS CH hS HS
  have N0 := Fr.nil n0
  replace hown : s.vm.findClass "java/lang/String" = some m.cls := hown
  show Run p e below _ (T0.setTop (mkF m 0 #[.val (.ref x), .val (.ref b)] []))
  have hk : h0.size ≤ h0.size := Nat.le_refl _
  have SF_x : Safe Z consts_1 s.vm h0 x := HS x (by simp)
  have K0 := Keep.refl h0 [x]
  refine go (fun _ => XS.aloadN X0.here hx rfl (hb hby d_j42_m3_0) rfl rfl) ?_
  show Run p e below _ (T0.setTop (mkF m 1 #[.val (.ref x), .val (.ref b)] [(.ref x)]))
  refine go (fun _ => XS.aloadN X0.here hx rfl (hb hby d_j42_m3_1) rfl rfl) ?_
  show Run p e below _ (T0.setTop (mkF m 2 #[.val (.ref x), .val (.ref b)] [(.ref b), (.ref x)]))
  refine go (fun _ => XS.iconst X0.here hx rfl (hb hby d_j42_m3_2)) ?_
  show Run p e below _ (T0.setTop (mkF m 3 #[.val (.ref x), .val (.ref b)] [(.int (0 : Int32)), (.ref b), (.ref x)]))
  refine go (fun _ => XS.aloadN X0.here hx rfl (hb hby d_j42_m3_3) rfl rfl) ?_
  show Run p e below _ (T0.setTop (mkF m 4 #[.val (.ref x), .val (.ref b)] [(.ref b), (.int (0 : Int32)), (.ref b), (.ref x)]))
  obtain ⟨cl10, Ar10, ak10, as10, an10, ah10, ag10⟩ := id V_b
  refine go (fun _ => X0.arraylength hx (by rw [e0]; exact Ar10.1) (State.isArrayOf_alike hZ.alike Ar10.2.1) (g := (mkF m 4 #[.val (.ref x), .val (.ref b)] [(.ref b), (.int (0 : Int32)), (.ref b), (.ref x)])) rfl rfl (hb hby d_j42_m3_4) _) ?_
  rw [len_of as10 an10]
  show Run p e below _ (T0.setTop (mkF m 5 #[.val (.ref x), .val (.ref b)] [(.int (0 : Int32)), (.int (0 : Int32)), (.ref b), (.ref x)]))
  refine go (fun _ => XS.aconstNull X0.here hx rfl (hb hby d_j42_m3_5)) ?_
  show Run p e below _ (T0.setTop (mkF m 6 #[.val (.ref x), .val (.ref b)] [.null, (.int (0 : Int32)), (.int (0 : Int32)), (.ref b), (.ref x)]))
  refine callSpS rfl X0 hx hZ hown (wd hw 17 rfl) (wd hw 18 rfl) (wd hw 20 rfl) (wd hw 12 rfl) (by decide) e0 hS hk hEL CH (a := x) (argsL := [(.ref b), (.int (0 : Int32)), (.int (0 : Int32)), .null]) (rest := []) (allS ⟨E_x.lt, SF_x⟩ all0) (rm_e4 l Z a0 hw [] x b h0 n0 O0 hEL E_x F_value_x F_coder_x g_x) (W := 0) (by decide) (by decide) (by decide) (by decide) (by rw [hml]; rfl) (lenOf pd_0 rfl) rfl (Nat.le_of_eq rfl) (hb hby d_j42_m3_6) ?_
  intro v11 T11 L11 h11 k11 X11 e11 hS hk hZ hown CH' D11 q11
  have lt12_x := E_x.lt
  have lt12_b := V_b.lt
  have SF_x := CHr.safe D11 lt12_x SF_x
  have ne_b_x : b ≠ x := Ne.symm (Exa.neArv E_x V_b (wd hw 11 rfl))
  obtain ⟨rfl, n11, K11, t11, kb11, T_x⟩ := q11
  have O0 := O0.keep K11 (allS g_x all0)
  have V_b := V_b.keep K11 (ninS ne_b_x nin0)
  have K0 := K0.trans K11 (allS (Or.inl (by simp)) all0)
  have N11 := Fr.app N0 n11
  have CH := CH'
  show Run p e below _ (T11.setTop (mkF m 9 #[.val (.ref x), .val (.ref b)] []))
  exact endVS X11 hx hlk hZ hEL e11 eS CH hS hk hret (hb hby d_j42_m3_9) (by rw [e11]; exact ⟨rfl, N11, K0, t11, kb11, T_x⟩) (by decide) (by decide)
def ln (x : Int32) : Int32 := (((x.toUInt32 >>> ((16 : Int32) &&& 31).toUInt32).toInt32) &&& (3 : Int32)) % (3 : Int32)
def mkcs (x : Int32) : List Int32 := if ln x = 0 then [] else if ln x = 1 then [x &&& 255] else [x &&& 255, (((x.toUInt32 >>> ((8 : Int32) &&& 31).toUInt32).toInt32) &&& (255 : Int32))]
def sameV (x y : Int32) : Int32 := if mkcs x = mkcs y then 1 else 0
theorem own_m (x : Int32) : ¬ (x &&& (255 : Int32)) < 0 ∧ ¬ (255 : Int32) < (x &&& (255 : Int32)) := by
  have h := c_and x 255 (by decide)
  have k0 : (0 : Int32).toInt = 0 := by decide
  have k2 : (255 : Int32).toInt = 255 := by decide
  simp only [Int32.lt_iff_toInt_lt]; omega
theorem own_nc (x : Int32) : nar .char ((x &&& (255 : Int32)).toUInt32.toUInt16.toUInt32.toInt32) = x &&& 255 := by rw [i2c_mask]; exact i2c_mask x
theorem own_r3 (z : Int32) (h0 : 0 ≤ z.toInt) (h1 : z.toInt ≤ 3) : z % 3 = 0 ∨ z % 3 = 1 ∨ z % 3 = 2 := by
  have e : (z % 3).toInt = z.toInt.tmod 3 := by rw [Int32.toInt_mod]; rfl
  rw [Int.tmod_eq_emod_of_nonneg h0] at e
  have k0 : (0 : Int32).toInt = 0 := by decide
  have k1 : (1 : Int32).toInt = 1 := by decide
  have k2 : (2 : Int32).toInt = 2 := by decide
  simp only [← Int32.toInt_inj, e, k0, k1, k2]; omega
theorem own_ln (x : Int32) : ln x = 0 ∨ ln x = 1 ∨ ln x = 2 := by
  unfold ln; have h := c_and ((x.toUInt32 >>> ((16 : Int32) &&& 31).toUInt32).toInt32) 3 (by decide); have k3 : (3 : Int32).toInt = 3 := by decide
  exact own_r3 _ h.1 (by omega)
theorem own_in8 (x : Int32) : In8 (mkcs x) := by
  unfold mkcs; split
  · exact In8.nil
  split
  · exact In8.cons (own_m _) In8.nil
  · exact In8.cons (own_m _) (In8.cons (own_m _) In8.nil)
theorem own_len (x : Int32) : (mkcs x).length ≤ 4000 := by
  unfold mkcs; split
  · simp
  split <;> simp
theorem sv_z {x y : Int32} (h : sameV x y = 0) : ¬ mkcs x = mkcs y := fun q => by unfold sameV at h; rw [if_pos q] at h; exact absurd h (by decide)
theorem sv_nz {x y : Int32} (h : ¬ sameV x y = 0) : mkcs x = mkcs y := by
  by_cases q : mkcs x = mkcs y
  · exact q
  · exact absurd (by unfold sameV; rw [if_neg q]) h
theorem sm0a {x y : Int32} (h : ¬ ln x = ln y) : 0 = sameV x y := by
  unfold sameV; rw [if_neg]; intro q; unfold mkcs at q
  rcases own_ln x with a | a | a <;> rcases own_ln y with b | b | b <;> rw [a, b] at h q <;> simp at h q
theorem sm0b {x y : Int32} (h : ln x = ln y) (h1 : ¬ ln x < 1) (h2 : ¬ (x &&& (255 : Int32)) = (y &&& (255 : Int32))) : 0 = sameV x y := by
  unfold sameV; rw [if_neg]; intro q; unfold mkcs at q; rw [← h] at q
  rcases own_ln x with a | a | a <;> rw [a] at h1 q
  · exact h1 (by decide)
  · simp at q; exact h2 q
  · simp at q; exact h2 q.1
theorem sm0c {x y : Int32} (h : ln x = ln y) (h1 : ¬ ln x < 2) (h2 : ¬ (((x.toUInt32 >>> ((8 : Int32) &&& 31).toUInt32).toInt32) &&& (255 : Int32)) = (((y.toUInt32 >>> ((8 : Int32) &&& 31).toUInt32).toInt32) &&& (255 : Int32))) : 0 = sameV x y := by
  unfold sameV; rw [if_neg]; intro q; unfold mkcs at q; rw [← h] at q
  rcases own_ln x with a | a | a <;> rw [a] at h1 q
  · exact h1 (by decide)
  · exact h1 (by decide)
  · simp at q; exact h2 q.2
theorem sm1 {x y : Int32} (h : ln x = ln y) (h1 : ¬ ln x < 1 → (x &&& (255 : Int32)) = (y &&& (255 : Int32))) (h2 : ¬ ln x < 2 → (((x.toUInt32 >>> ((8 : Int32) &&& 31).toUInt32).toInt32) &&& (255 : Int32)) = (((y.toUInt32 >>> ((8 : Int32) &&& 31).toUInt32).toInt32) &&& (255 : Int32))) : 1 = sameV x y := by
  unfold sameV; rw [if_pos]; unfold mkcs; rw [← h]
  rcases own_ln x with a | a | a <;> rw [a] at h1 h2 ⊢
  · rfl
  · rw [if_neg (by decide), if_pos rfl, if_neg (by decide), if_pos rfl, h1 (by decide)]
  · rw [h1 (by decide), h2 (by decide)]
theorem d_m3_0 : decode method_3_code 0 = .ok (.iload_n 0, 1) := by decide +kernel
theorem d_m3_1 : decode method_3_code 1 = .ok (.bipush 16, 2) := by decide +kernel
theorem d_m3_3 : decode method_3_code 3 = .ok (.iushr, 1) := by decide +kernel
theorem d_m3_4 : decode method_3_code 4 = .ok (.iconst 3, 1) := by decide +kernel
theorem d_m3_5 : decode method_3_code 5 = .ok (.iand, 1) := by decide +kernel
theorem d_m3_6 : decode method_3_code 6 = .ok (.iconst 3, 1) := by decide +kernel
theorem d_m3_7 : decode method_3_code 7 = .ok (.irem, 1) := by decide +kernel
theorem d_m3_8 : decode method_3_code 8 = .ok (.ireturn, 1) := by decide +kernel
theorem pn_1 : plainName "com/example/lateral_guard/lateralguard/core/FlowEqualsPinLaw" = true := by first | (simp [plainName, overriddenIn]; done) | decide +kernel
def Q_rm_len (p0 : Int32) (h0 : Heap) (n0 : Nat) (v : Option Value) (h : Heap) (L : List Loc) : Prop := v = some (.int (ln p0)) ∧ Fr n0 L ∧ h = h0
set_option maxRecDepth 65536 in
set_option maxHeartbeats 40000000 in
theorem rm_len (l : Launch) (Z : State) (a0 : Array Value) (hw : ∀ d ∈ tables_1, d.before a0 Z = true) (ws : List Jvm.Cond) (p0 : Int32) (h0 : Heap) (n0 : Nat) (O0 : Old Z n0 h0)  :
    Meets l (⟨"com/example/lateral_guard/lateralguard/core/FlowEqualsPinLaw", "len", "(I)I"⟩ : MethodName) method_3_code 1 (some .int) ws ({ frames := 0, cells := 0, slots := 0, locals := 0 } : Room) Z #[(.int p0)] h0 (Q_rm_len p0 h0 n0) 0 0 := by
  refine enter (Ls := #[.val (.int p0)]) (plainFor_of_name pn_1) (fun m => by first | (simp [entryFrame, mkF, argsToLocals, Value.category]; done) | rfl) ?_
  intro p e s m below meth c T0 hx hby hml hown hnm hret hlk hZ X0 e0
  have N0 := Fr.nil n0
  replace hown : s.vm.findClass "com/example/lateral_guard/lateralguard/core/FlowEqualsPinLaw" = some m.cls := hown
  show Run p e below _ (T0.setTop (mkF m 0 #[.val (.int p0)] []))
  refine go (fun _ => XS.iloadN X0.here hx rfl (hb hby d_m3_0) rfl) ?_
  show Run p e below _ (T0.setTop (mkF m 1 #[.val (.int p0)] [(.int p0)]))
  refine go (fun _ => XS.bipush X0.here hx rfl (hb hby d_m3_1)) ?_
  show Run p e below _ (T0.setTop (mkF m 3 #[.val (.int p0)] [(.int (16 : Int32)), (.int p0)]))
  refine go (fun _ => XS.iushr X0.here hx rfl (hb hby d_m3_3) rfl) ?_
  show Run p e below _ (T0.setTop (mkF m 4 #[.val (.int p0)] [(.int ((p0.toUInt32 >>> ((16 : Int32) &&& 31).toUInt32).toInt32))]))
  refine go (fun _ => XS.iconst X0.here hx rfl (hb hby d_m3_4)) ?_
  show Run p e below _ (T0.setTop (mkF m 5 #[.val (.int p0)] [(.int (3 : Int32)), (.int ((p0.toUInt32 >>> ((16 : Int32) &&& 31).toUInt32).toInt32))]))
  refine go (fun _ => XS.iand X0.here hx rfl (hb hby d_m3_5) rfl) ?_
  show Run p e below _ (T0.setTop (mkF m 6 #[.val (.int p0)] [(.int (((p0.toUInt32 >>> ((16 : Int32) &&& 31).toUInt32).toInt32) &&& (3 : Int32)))]))
  refine go (fun _ => XS.iconst X0.here hx rfl (hb hby d_m3_6)) ?_
  show Run p e below _ (T0.setTop (mkF m 7 #[.val (.int p0)] [(.int (3 : Int32)), (.int (((p0.toUInt32 >>> ((16 : Int32) &&& 31).toUInt32).toInt32) &&& (3 : Int32)))]))
  refine go (fun _ => iremM X0 hx rfl (hb hby d_m3_7) rfl (by decide)) ?_
  show Run p e below _ (T0.setTop (mkF m 8 #[.val (.int p0)] [(.int ((((p0.toUInt32 >>> ((16 : Int32) &&& 31).toUInt32).toInt32) &&& (3 : Int32)) % (3 : Int32)))]))
  exact endI X0 hx hlk hret (hb hby d_m3_8) (⟨rfl, N0, e0⟩) (by decide) (by decide)
theorem d_m5_0 : decode method_5_code 0 = .ok (.iload_n 0, 1) := by decide +kernel
theorem d_m5_1 : decode method_5_code 1 = .ok (.invokestatic 26, 3) := by decide +kernel
theorem pd_1 : parseMethodDescriptor "(I)I" = some ⟨[.int], some .int⟩ := by decide +kernel
theorem d_m5_4 : decode method_5_code 4 = .ok (.istore_n 2, 1) := by decide +kernel
theorem d_m5_5 : decode method_5_code 5 = .ok (.iload_n 1, 1) := by decide +kernel
theorem d_m5_6 : decode method_5_code 6 = .ok (.invokestatic 26, 3) := by decide +kernel
theorem d_m5_9 : decode method_5_code 9 = .ok (.istore_n 3, 1) := by decide +kernel
theorem d_m5_10 : decode method_5_code 10 = .ok (.iload_n 2, 1) := by decide +kernel
theorem d_m5_11 : decode method_5_code 11 = .ok (.iload_n 3, 1) := by decide +kernel
theorem d_m5_12 : decode method_5_code 12 = .ok (.if_icmp .eq 5, 3) := by decide +kernel
theorem d_m5_17 : decode method_5_code 17 = .ok (.iload_n 2, 1) := by decide +kernel
theorem d_m5_18 : decode method_5_code 18 = .ok (.iconst 1, 1) := by decide +kernel
theorem d_m5_19 : decode method_5_code 19 = .ok (.if_icmp .lt 18, 3) := by decide +kernel
theorem d_m5_37 : decode method_5_code 37 = .ok (.iload_n 2, 1) := by decide +kernel
theorem d_m5_38 : decode method_5_code 38 = .ok (.iconst 2, 1) := by decide +kernel
theorem d_m5_39 : decode method_5_code 39 = .ok (.if_icmp .lt 24, 3) := by decide +kernel
theorem d_m5_63 : decode method_5_code 63 = .ok (.iconst 1, 1) := by decide +kernel
theorem d_m5_64 : decode method_5_code 64 = .ok (.ireturn, 1) := by decide +kernel
theorem d_m5_42 : decode method_5_code 42 = .ok (.iload_n 0, 1) := by decide +kernel
theorem d_m5_43 : decode method_5_code 43 = .ok (.bipush 8, 2) := by decide +kernel
theorem d_m5_45 : decode method_5_code 45 = .ok (.iushr, 1) := by decide +kernel
theorem d_m5_46 : decode method_5_code 46 = .ok (.sipush 255, 3) := by decide +kernel
theorem d_m5_49 : decode method_5_code 49 = .ok (.iand, 1) := by decide +kernel
theorem d_m5_50 : decode method_5_code 50 = .ok (.iload_n 1, 1) := by decide +kernel
theorem d_m5_51 : decode method_5_code 51 = .ok (.bipush 8, 2) := by decide +kernel
theorem d_m5_53 : decode method_5_code 53 = .ok (.iushr, 1) := by decide +kernel
theorem d_m5_54 : decode method_5_code 54 = .ok (.sipush 255, 3) := by decide +kernel
theorem d_m5_57 : decode method_5_code 57 = .ok (.iand, 1) := by decide +kernel
theorem d_m5_58 : decode method_5_code 58 = .ok (.if_icmp .eq 5, 3) := by decide +kernel
theorem d_m5_61 : decode method_5_code 61 = .ok (.iconst 0, 1) := by decide +kernel
theorem d_m5_62 : decode method_5_code 62 = .ok (.ireturn, 1) := by decide +kernel
theorem d_m5_22 : decode method_5_code 22 = .ok (.iload_n 0, 1) := by decide +kernel
theorem d_m5_23 : decode method_5_code 23 = .ok (.sipush 255, 3) := by decide +kernel
theorem d_m5_26 : decode method_5_code 26 = .ok (.iand, 1) := by decide +kernel
theorem d_m5_27 : decode method_5_code 27 = .ok (.iload_n 1, 1) := by decide +kernel
theorem d_m5_28 : decode method_5_code 28 = .ok (.sipush 255, 3) := by decide +kernel
theorem d_m5_31 : decode method_5_code 31 = .ok (.iand, 1) := by decide +kernel
theorem d_m5_32 : decode method_5_code 32 = .ok (.if_icmp .eq 5, 3) := by decide +kernel
theorem d_m5_35 : decode method_5_code 35 = .ok (.iconst 0, 1) := by decide +kernel
theorem d_m5_36 : decode method_5_code 36 = .ok (.ireturn, 1) := by decide +kernel
theorem d_m5_15 : decode method_5_code 15 = .ok (.iconst 0, 1) := by decide +kernel
theorem d_m5_16 : decode method_5_code 16 = .ok (.ireturn, 1) := by decide +kernel
def Q_rm_same (p0 p1 : Int32) (h0 : Heap) (n0 : Nat) (v : Option Value) (h : Heap) (L : List Loc) : Prop := v = some (.int (sameV p0 p1)) ∧ Fr n0 L ∧ h = h0
set_option maxRecDepth 65536 in
set_option maxHeartbeats 40000000 in
theorem rm_same (l : Launch) (Z : State) (a0 : Array Value) (hw : ∀ d ∈ tables_1, d.before a0 Z = true) (ws : List Jvm.Cond) (p0 p1 : Int32) (h0 : Heap) (n0 : Nat) (O0 : Old Z n0 h0)  :
    Meets l (⟨"com/example/lateral_guard/lateralguard/core/FlowEqualsPinLaw", "same", "(II)Z"⟩ : MethodName) method_5_code 4 (some .boolean) ws ({ frames := 1, cells := 0, slots := 0, locals := 12 } : Room) Z #[(.int p0), (.int p1)] h0 (Q_rm_same p0 p1 h0 n0) 0 0 := by
  refine enter (Ls := #[.val (.int p0), .val (.int p1), .unset, .unset]) (plainFor_of_name pn_1) (fun m => by first | (simp [entryFrame, mkF, argsToLocals, Value.category]; done) | rfl) ?_
  intro p e s m below meth c T0 hx hby hml hown hnm hret hlk hZ X0 e0
  have N0 := Fr.nil n0
  replace hown : s.vm.findClass "com/example/lateral_guard/lateralguard/core/FlowEqualsPinLaw" = some m.cls := hown
  show Run p e below _ (T0.setTop (mkF m 0 #[.val (.int p0), .val (.int p1), .unset, .unset] []))
  refine go (fun _ => XS.iloadN X0.here hx rfl (hb hby d_m5_0) rfl) ?_
  show Run p e below _ (T0.setTop (mkF m 1 #[.val (.int p0), .val (.int p1), .unset, .unset] [(.int p0)]))
  refine callSt X0 hx hZ hown (wd hw 7 rfl) (wd hw 8 rfl) (wd hw 5 rfl) (wd hw 9 rfl) (by decide) e0 (argsL := [(.int p0)]) (rest := []) (rm_len l Z a0 hw [] p0 h0 n0 O0) (W := 0) (by decide) (by decide) (by decide) (by decide) (by rw [hml]; rfl) (lenOf pd_1 rfl) rfl (Nat.le_of_eq rfl) (hb hby d_m5_1) ?_
  intro v13 T13 L13 h13 X13 e13 q13
  obtain ⟨rv, n13, k13⟩ := q13
  replace rv : v13 = some (.int (ln p0)) := rv
  subst rv
  have e13 := e13.trans k13
  have N13 := Fr.app N0 n13
  show Run p e below _ (T13.setTop (mkF m 4 #[.val (.int p0), .val (.int p1), .unset, .unset] [(.int (ln p0))]))
  refine go (fun _ => XS.istoreN X13.here hx rfl (hb hby d_m5_4) rfl (l' := #[.val (.int p0), .val (.int p1), .val (.int (ln p0)), .unset]) rfl) ?_
  show Run p e below _ (T13.setTop (mkF m 5 #[.val (.int p0), .val (.int p1), .val (.int (ln p0)), .unset] []))
  refine go (fun _ => XS.iloadN X13.here hx rfl (hb hby d_m5_5) rfl) ?_
  show Run p e below _ (T13.setTop (mkF m 6 #[.val (.int p0), .val (.int p1), .val (.int (ln p0)), .unset] [(.int p1)]))
  refine callSt X13 hx hZ hown (wd hw 7 rfl) (wd hw 8 rfl) (wd hw 5 rfl) (wd hw 9 rfl) (by decide) e13 (argsL := [(.int p1)]) (rest := []) (rm_len l Z a0 hw [] p1 h0 n0 O0) (W := 0) (by decide) (by decide) (by decide) (by decide) (by rw [hml]; rfl) (lenOf pd_1 rfl) rfl (Nat.le_of_eq rfl) (hb hby d_m5_6) ?_
  intro v14 T14 L14 h14 X14 e14 q14
  obtain ⟨rv, n14, k14⟩ := q14
  replace rv : v14 = some (.int (ln p1)) := rv
  subst rv
  have e14 := e14.trans k14
  have N14 := Fr.app N13 n14
  show Run p e below _ (T14.setTop (mkF m 9 #[.val (.int p0), .val (.int p1), .val (.int (ln p0)), .unset] [(.int (ln p1))]))
  refine go (fun _ => XS.istoreN X14.here hx rfl (hb hby d_m5_9) rfl (l' := #[.val (.int p0), .val (.int p1), .val (.int (ln p0)), .val (.int (ln p1))]) rfl) ?_
  show Run p e below _ (T14.setTop (mkF m 10 #[.val (.int p0), .val (.int p1), .val (.int (ln p0)), .val (.int (ln p1))] []))
  refine go (fun _ => XS.iloadN X14.here hx rfl (hb hby d_m5_10) rfl) ?_
  show Run p e below _ (T14.setTop (mkF m 11 #[.val (.int p0), .val (.int p1), .val (.int (ln p0)), .val (.int (ln p1))] [(.int (ln p0))]))
  refine go (fun _ => XS.iloadN X14.here hx rfl (hb hby d_m5_11) rfl) ?_
  show Run p e below _ (T14.setTop (mkF m 12 #[.val (.int p0), .val (.int p1), .val (.int (ln p0)), .val (.int (ln p1))] [(.int (ln p1)), (.int (ln p0))]))
  by_cases c15 : (ln p0) = (ln p1)
  · skip
    refine go (fun _ => XS.icmpYes X14.here hx rfl (pc0 := 12) (pc' := 17) rfl (hb hby d_m5_12) rfl (teq c15).1 (by decide) (by decide)) ?_
    show Run p e below _ (T14.setTop (mkF m 17 #[.val (.int p0), .val (.int p1), .val (.int (ln p0)), .val (.int (ln p1))] []))
    refine go (fun _ => XS.iloadN X14.here hx rfl (hb hby d_m5_17) rfl) ?_
    show Run p e below _ (T14.setTop (mkF m 18 #[.val (.int p0), .val (.int p1), .val (.int (ln p0)), .val (.int (ln p1))] [(.int (ln p0))]))
    refine go (fun _ => XS.iconst X14.here hx rfl (hb hby d_m5_18)) ?_
    show Run p e below _ (T14.setTop (mkF m 19 #[.val (.int p0), .val (.int p1), .val (.int (ln p0)), .val (.int (ln p1))] [(.int (1 : Int32)), (.int (ln p0))]))
    by_cases c16 : (ln p0) < (1 : Int32)
    · skip
      refine go (fun _ => XS.icmpYes X14.here hx rfl (pc0 := 19) (pc' := 37) rfl (hb hby d_m5_19) rfl (tlt c16).1 (by decide) (by decide)) ?_
      show Run p e below _ (T14.setTop (mkF m 37 #[.val (.int p0), .val (.int p1), .val (.int (ln p0)), .val (.int (ln p1))] []))
      refine go (fun _ => XS.iloadN X14.here hx rfl (hb hby d_m5_37) rfl) ?_
      show Run p e below _ (T14.setTop (mkF m 38 #[.val (.int p0), .val (.int p1), .val (.int (ln p0)), .val (.int (ln p1))] [(.int (ln p0))]))
      refine go (fun _ => XS.iconst X14.here hx rfl (hb hby d_m5_38)) ?_
      show Run p e below _ (T14.setTop (mkF m 39 #[.val (.int p0), .val (.int p1), .val (.int (ln p0)), .val (.int (ln p1))] [(.int (2 : Int32)), (.int (ln p0))]))
      by_cases c17 : (ln p0) < (2 : Int32)
      · skip
        refine go (fun _ => XS.icmpYes X14.here hx rfl (pc0 := 39) (pc' := 63) rfl (hb hby d_m5_39) rfl (tlt c17).1 (by decide) (by decide)) ?_
        show Run p e below _ (T14.setTop (mkF m 63 #[.val (.int p0), .val (.int p1), .val (.int (ln p0)), .val (.int (ln p1))] []))
        refine go (fun _ => XS.iconst X14.here hx rfl (hb hby d_m5_63)) ?_
        show Run p e below _ (T14.setTop (mkF m 64 #[.val (.int p0), .val (.int p1), .val (.int (ln p0)), .val (.int (ln p1))] [(.int (1 : Int32))]))
        exact endN X14 hx hlk (t := .boolean) hret (by simp) (hb hby d_m5_64) (⟨congrArg (fun z => some (Value.int z)) (sm1 c15 (fun q => absurd c16 q) (fun q => absurd c17 q)), N14, e14⟩) (by decide) (by decide)
      · skip
        refine go (fun _ => XS.icmpNo X14.here hx rfl (hb hby d_m5_39) rfl (flt c17).1) ?_
        show Run p e below _ (T14.setTop (mkF m 42 #[.val (.int p0), .val (.int p1), .val (.int (ln p0)), .val (.int (ln p1))] []))
        refine go (fun _ => XS.iloadN X14.here hx rfl (hb hby d_m5_42) rfl) ?_
        show Run p e below _ (T14.setTop (mkF m 43 #[.val (.int p0), .val (.int p1), .val (.int (ln p0)), .val (.int (ln p1))] [(.int p0)]))
        refine go (fun _ => XS.bipush X14.here hx rfl (hb hby d_m5_43)) ?_
        show Run p e below _ (T14.setTop (mkF m 45 #[.val (.int p0), .val (.int p1), .val (.int (ln p0)), .val (.int (ln p1))] [(.int (8 : Int32)), (.int p0)]))
        refine go (fun _ => XS.iushr X14.here hx rfl (hb hby d_m5_45) rfl) ?_
        show Run p e below _ (T14.setTop (mkF m 46 #[.val (.int p0), .val (.int p1), .val (.int (ln p0)), .val (.int (ln p1))] [(.int ((p0.toUInt32 >>> ((8 : Int32) &&& 31).toUInt32).toInt32))]))
        refine go (fun _ => XS.sipush X14.here hx rfl (hb hby d_m5_46)) ?_
        show Run p e below _ (T14.setTop (mkF m 49 #[.val (.int p0), .val (.int p1), .val (.int (ln p0)), .val (.int (ln p1))] [(.int (255 : Int32)), (.int ((p0.toUInt32 >>> ((8 : Int32) &&& 31).toUInt32).toInt32))]))
        refine go (fun _ => XS.iand X14.here hx rfl (hb hby d_m5_49) rfl) ?_
        show Run p e below _ (T14.setTop (mkF m 50 #[.val (.int p0), .val (.int p1), .val (.int (ln p0)), .val (.int (ln p1))] [(.int (((p0.toUInt32 >>> ((8 : Int32) &&& 31).toUInt32).toInt32) &&& (255 : Int32)))]))
        refine go (fun _ => XS.iloadN X14.here hx rfl (hb hby d_m5_50) rfl) ?_
        show Run p e below _ (T14.setTop (mkF m 51 #[.val (.int p0), .val (.int p1), .val (.int (ln p0)), .val (.int (ln p1))] [(.int p1), (.int (((p0.toUInt32 >>> ((8 : Int32) &&& 31).toUInt32).toInt32) &&& (255 : Int32)))]))
        refine go (fun _ => XS.bipush X14.here hx rfl (hb hby d_m5_51)) ?_
        show Run p e below _ (T14.setTop (mkF m 53 #[.val (.int p0), .val (.int p1), .val (.int (ln p0)), .val (.int (ln p1))] [(.int (8 : Int32)), (.int p1), (.int (((p0.toUInt32 >>> ((8 : Int32) &&& 31).toUInt32).toInt32) &&& (255 : Int32)))]))
        refine go (fun _ => XS.iushr X14.here hx rfl (hb hby d_m5_53) rfl) ?_
        show Run p e below _ (T14.setTop (mkF m 54 #[.val (.int p0), .val (.int p1), .val (.int (ln p0)), .val (.int (ln p1))] [(.int ((p1.toUInt32 >>> ((8 : Int32) &&& 31).toUInt32).toInt32)), (.int (((p0.toUInt32 >>> ((8 : Int32) &&& 31).toUInt32).toInt32) &&& (255 : Int32)))]))
        refine go (fun _ => XS.sipush X14.here hx rfl (hb hby d_m5_54)) ?_
        show Run p e below _ (T14.setTop (mkF m 57 #[.val (.int p0), .val (.int p1), .val (.int (ln p0)), .val (.int (ln p1))] [(.int (255 : Int32)), (.int ((p1.toUInt32 >>> ((8 : Int32) &&& 31).toUInt32).toInt32)), (.int (((p0.toUInt32 >>> ((8 : Int32) &&& 31).toUInt32).toInt32) &&& (255 : Int32)))]))
        refine go (fun _ => XS.iand X14.here hx rfl (hb hby d_m5_57) rfl) ?_
        show Run p e below _ (T14.setTop (mkF m 58 #[.val (.int p0), .val (.int p1), .val (.int (ln p0)), .val (.int (ln p1))] [(.int (((p1.toUInt32 >>> ((8 : Int32) &&& 31).toUInt32).toInt32) &&& (255 : Int32))), (.int (((p0.toUInt32 >>> ((8 : Int32) &&& 31).toUInt32).toInt32) &&& (255 : Int32)))]))
        by_cases c18 : (((p0.toUInt32 >>> ((8 : Int32) &&& 31).toUInt32).toInt32) &&& (255 : Int32)) = (((p1.toUInt32 >>> ((8 : Int32) &&& 31).toUInt32).toInt32) &&& (255 : Int32))
        · skip
          refine go (fun _ => XS.icmpYes X14.here hx rfl (pc0 := 58) (pc' := 63) rfl (hb hby d_m5_58) rfl (teq c18).1 (by decide) (by decide)) ?_
          show Run p e below _ (T14.setTop (mkF m 63 #[.val (.int p0), .val (.int p1), .val (.int (ln p0)), .val (.int (ln p1))] []))
          refine go (fun _ => XS.iconst X14.here hx rfl (hb hby d_m5_63)) ?_
          show Run p e below _ (T14.setTop (mkF m 64 #[.val (.int p0), .val (.int p1), .val (.int (ln p0)), .val (.int (ln p1))] [(.int (1 : Int32))]))
          exact endN X14 hx hlk (t := .boolean) hret (by simp) (hb hby d_m5_64) (⟨congrArg (fun z => some (Value.int z)) (sm1 c15 (fun q => absurd c16 q) (fun q => c18)), N14, e14⟩) (by decide) (by decide)
        · skip
          refine go (fun _ => XS.icmpNo X14.here hx rfl (hb hby d_m5_58) rfl (feq c18).1) ?_
          show Run p e below _ (T14.setTop (mkF m 61 #[.val (.int p0), .val (.int p1), .val (.int (ln p0)), .val (.int (ln p1))] []))
          refine go (fun _ => XS.iconst X14.here hx rfl (hb hby d_m5_61)) ?_
          show Run p e below _ (T14.setTop (mkF m 62 #[.val (.int p0), .val (.int p1), .val (.int (ln p0)), .val (.int (ln p1))] [(.int (0 : Int32))]))
          exact endN X14 hx hlk (t := .boolean) hret (by simp) (hb hby d_m5_62) (⟨congrArg (fun z => some (Value.int z)) (sm0c c15 c17 c18), N14, e14⟩) (by decide) (by decide)
    · skip
      refine go (fun _ => XS.icmpNo X14.here hx rfl (hb hby d_m5_19) rfl (flt c16).1) ?_
      show Run p e below _ (T14.setTop (mkF m 22 #[.val (.int p0), .val (.int p1), .val (.int (ln p0)), .val (.int (ln p1))] []))
      refine go (fun _ => XS.iloadN X14.here hx rfl (hb hby d_m5_22) rfl) ?_
      show Run p e below _ (T14.setTop (mkF m 23 #[.val (.int p0), .val (.int p1), .val (.int (ln p0)), .val (.int (ln p1))] [(.int p0)]))
      refine go (fun _ => XS.sipush X14.here hx rfl (hb hby d_m5_23)) ?_
      show Run p e below _ (T14.setTop (mkF m 26 #[.val (.int p0), .val (.int p1), .val (.int (ln p0)), .val (.int (ln p1))] [(.int (255 : Int32)), (.int p0)]))
      refine go (fun _ => XS.iand X14.here hx rfl (hb hby d_m5_26) rfl) ?_
      show Run p e below _ (T14.setTop (mkF m 27 #[.val (.int p0), .val (.int p1), .val (.int (ln p0)), .val (.int (ln p1))] [(.int (p0 &&& (255 : Int32)))]))
      refine go (fun _ => XS.iloadN X14.here hx rfl (hb hby d_m5_27) rfl) ?_
      show Run p e below _ (T14.setTop (mkF m 28 #[.val (.int p0), .val (.int p1), .val (.int (ln p0)), .val (.int (ln p1))] [(.int p1), (.int (p0 &&& (255 : Int32)))]))
      refine go (fun _ => XS.sipush X14.here hx rfl (hb hby d_m5_28)) ?_
      show Run p e below _ (T14.setTop (mkF m 31 #[.val (.int p0), .val (.int p1), .val (.int (ln p0)), .val (.int (ln p1))] [(.int (255 : Int32)), (.int p1), (.int (p0 &&& (255 : Int32)))]))
      refine go (fun _ => XS.iand X14.here hx rfl (hb hby d_m5_31) rfl) ?_
      show Run p e below _ (T14.setTop (mkF m 32 #[.val (.int p0), .val (.int p1), .val (.int (ln p0)), .val (.int (ln p1))] [(.int (p1 &&& (255 : Int32))), (.int (p0 &&& (255 : Int32)))]))
      by_cases c19 : (p0 &&& (255 : Int32)) = (p1 &&& (255 : Int32))
      · skip
        refine go (fun _ => XS.icmpYes X14.here hx rfl (pc0 := 32) (pc' := 37) rfl (hb hby d_m5_32) rfl (teq c19).1 (by decide) (by decide)) ?_
        show Run p e below _ (T14.setTop (mkF m 37 #[.val (.int p0), .val (.int p1), .val (.int (ln p0)), .val (.int (ln p1))] []))
        refine go (fun _ => XS.iloadN X14.here hx rfl (hb hby d_m5_37) rfl) ?_
        show Run p e below _ (T14.setTop (mkF m 38 #[.val (.int p0), .val (.int p1), .val (.int (ln p0)), .val (.int (ln p1))] [(.int (ln p0))]))
        refine go (fun _ => XS.iconst X14.here hx rfl (hb hby d_m5_38)) ?_
        show Run p e below _ (T14.setTop (mkF m 39 #[.val (.int p0), .val (.int p1), .val (.int (ln p0)), .val (.int (ln p1))] [(.int (2 : Int32)), (.int (ln p0))]))
        by_cases c20 : (ln p0) < (2 : Int32)
        · skip
          refine go (fun _ => XS.icmpYes X14.here hx rfl (pc0 := 39) (pc' := 63) rfl (hb hby d_m5_39) rfl (tlt c20).1 (by decide) (by decide)) ?_
          show Run p e below _ (T14.setTop (mkF m 63 #[.val (.int p0), .val (.int p1), .val (.int (ln p0)), .val (.int (ln p1))] []))
          refine go (fun _ => XS.iconst X14.here hx rfl (hb hby d_m5_63)) ?_
          show Run p e below _ (T14.setTop (mkF m 64 #[.val (.int p0), .val (.int p1), .val (.int (ln p0)), .val (.int (ln p1))] [(.int (1 : Int32))]))
          exact endN X14 hx hlk (t := .boolean) hret (by simp) (hb hby d_m5_64) (⟨congrArg (fun z => some (Value.int z)) (sm1 c15 (fun q => c19) (fun q => absurd c20 q)), N14, e14⟩) (by decide) (by decide)
        · skip
          refine go (fun _ => XS.icmpNo X14.here hx rfl (hb hby d_m5_39) rfl (flt c20).1) ?_
          show Run p e below _ (T14.setTop (mkF m 42 #[.val (.int p0), .val (.int p1), .val (.int (ln p0)), .val (.int (ln p1))] []))
          refine go (fun _ => XS.iloadN X14.here hx rfl (hb hby d_m5_42) rfl) ?_
          show Run p e below _ (T14.setTop (mkF m 43 #[.val (.int p0), .val (.int p1), .val (.int (ln p0)), .val (.int (ln p1))] [(.int p0)]))
          refine go (fun _ => XS.bipush X14.here hx rfl (hb hby d_m5_43)) ?_
          show Run p e below _ (T14.setTop (mkF m 45 #[.val (.int p0), .val (.int p1), .val (.int (ln p0)), .val (.int (ln p1))] [(.int (8 : Int32)), (.int p0)]))
          refine go (fun _ => XS.iushr X14.here hx rfl (hb hby d_m5_45) rfl) ?_
          show Run p e below _ (T14.setTop (mkF m 46 #[.val (.int p0), .val (.int p1), .val (.int (ln p0)), .val (.int (ln p1))] [(.int ((p0.toUInt32 >>> ((8 : Int32) &&& 31).toUInt32).toInt32))]))
          refine go (fun _ => XS.sipush X14.here hx rfl (hb hby d_m5_46)) ?_
          show Run p e below _ (T14.setTop (mkF m 49 #[.val (.int p0), .val (.int p1), .val (.int (ln p0)), .val (.int (ln p1))] [(.int (255 : Int32)), (.int ((p0.toUInt32 >>> ((8 : Int32) &&& 31).toUInt32).toInt32))]))
          refine go (fun _ => XS.iand X14.here hx rfl (hb hby d_m5_49) rfl) ?_
          show Run p e below _ (T14.setTop (mkF m 50 #[.val (.int p0), .val (.int p1), .val (.int (ln p0)), .val (.int (ln p1))] [(.int (((p0.toUInt32 >>> ((8 : Int32) &&& 31).toUInt32).toInt32) &&& (255 : Int32)))]))
          refine go (fun _ => XS.iloadN X14.here hx rfl (hb hby d_m5_50) rfl) ?_
          show Run p e below _ (T14.setTop (mkF m 51 #[.val (.int p0), .val (.int p1), .val (.int (ln p0)), .val (.int (ln p1))] [(.int p1), (.int (((p0.toUInt32 >>> ((8 : Int32) &&& 31).toUInt32).toInt32) &&& (255 : Int32)))]))
          refine go (fun _ => XS.bipush X14.here hx rfl (hb hby d_m5_51)) ?_
          show Run p e below _ (T14.setTop (mkF m 53 #[.val (.int p0), .val (.int p1), .val (.int (ln p0)), .val (.int (ln p1))] [(.int (8 : Int32)), (.int p1), (.int (((p0.toUInt32 >>> ((8 : Int32) &&& 31).toUInt32).toInt32) &&& (255 : Int32)))]))
          refine go (fun _ => XS.iushr X14.here hx rfl (hb hby d_m5_53) rfl) ?_
          show Run p e below _ (T14.setTop (mkF m 54 #[.val (.int p0), .val (.int p1), .val (.int (ln p0)), .val (.int (ln p1))] [(.int ((p1.toUInt32 >>> ((8 : Int32) &&& 31).toUInt32).toInt32)), (.int (((p0.toUInt32 >>> ((8 : Int32) &&& 31).toUInt32).toInt32) &&& (255 : Int32)))]))
          refine go (fun _ => XS.sipush X14.here hx rfl (hb hby d_m5_54)) ?_
          show Run p e below _ (T14.setTop (mkF m 57 #[.val (.int p0), .val (.int p1), .val (.int (ln p0)), .val (.int (ln p1))] [(.int (255 : Int32)), (.int ((p1.toUInt32 >>> ((8 : Int32) &&& 31).toUInt32).toInt32)), (.int (((p0.toUInt32 >>> ((8 : Int32) &&& 31).toUInt32).toInt32) &&& (255 : Int32)))]))
          refine go (fun _ => XS.iand X14.here hx rfl (hb hby d_m5_57) rfl) ?_
          show Run p e below _ (T14.setTop (mkF m 58 #[.val (.int p0), .val (.int p1), .val (.int (ln p0)), .val (.int (ln p1))] [(.int (((p1.toUInt32 >>> ((8 : Int32) &&& 31).toUInt32).toInt32) &&& (255 : Int32))), (.int (((p0.toUInt32 >>> ((8 : Int32) &&& 31).toUInt32).toInt32) &&& (255 : Int32)))]))
          by_cases c21 : (((p0.toUInt32 >>> ((8 : Int32) &&& 31).toUInt32).toInt32) &&& (255 : Int32)) = (((p1.toUInt32 >>> ((8 : Int32) &&& 31).toUInt32).toInt32) &&& (255 : Int32))
          · skip
            refine go (fun _ => XS.icmpYes X14.here hx rfl (pc0 := 58) (pc' := 63) rfl (hb hby d_m5_58) rfl (teq c21).1 (by decide) (by decide)) ?_
            show Run p e below _ (T14.setTop (mkF m 63 #[.val (.int p0), .val (.int p1), .val (.int (ln p0)), .val (.int (ln p1))] []))
            refine go (fun _ => XS.iconst X14.here hx rfl (hb hby d_m5_63)) ?_
            show Run p e below _ (T14.setTop (mkF m 64 #[.val (.int p0), .val (.int p1), .val (.int (ln p0)), .val (.int (ln p1))] [(.int (1 : Int32))]))
            exact endN X14 hx hlk (t := .boolean) hret (by simp) (hb hby d_m5_64) (⟨congrArg (fun z => some (Value.int z)) (sm1 c15 (fun q => c19) (fun q => c21)), N14, e14⟩) (by decide) (by decide)
          · skip
            refine go (fun _ => XS.icmpNo X14.here hx rfl (hb hby d_m5_58) rfl (feq c21).1) ?_
            show Run p e below _ (T14.setTop (mkF m 61 #[.val (.int p0), .val (.int p1), .val (.int (ln p0)), .val (.int (ln p1))] []))
            refine go (fun _ => XS.iconst X14.here hx rfl (hb hby d_m5_61)) ?_
            show Run p e below _ (T14.setTop (mkF m 62 #[.val (.int p0), .val (.int p1), .val (.int (ln p0)), .val (.int (ln p1))] [(.int (0 : Int32))]))
            exact endN X14 hx hlk (t := .boolean) hret (by simp) (hb hby d_m5_62) (⟨congrArg (fun z => some (Value.int z)) (sm0c c15 c20 c21), N14, e14⟩) (by decide) (by decide)
      · skip
        refine go (fun _ => XS.icmpNo X14.here hx rfl (hb hby d_m5_32) rfl (feq c19).1) ?_
        show Run p e below _ (T14.setTop (mkF m 35 #[.val (.int p0), .val (.int p1), .val (.int (ln p0)), .val (.int (ln p1))] []))
        refine go (fun _ => XS.iconst X14.here hx rfl (hb hby d_m5_35)) ?_
        show Run p e below _ (T14.setTop (mkF m 36 #[.val (.int p0), .val (.int p1), .val (.int (ln p0)), .val (.int (ln p1))] [(.int (0 : Int32))]))
        exact endN X14 hx hlk (t := .boolean) hret (by simp) (hb hby d_m5_36) (⟨congrArg (fun z => some (Value.int z)) (sm0b c15 c16 c19), N14, e14⟩) (by decide) (by decide)
  · skip
    refine go (fun _ => XS.icmpNo X14.here hx rfl (hb hby d_m5_12) rfl (feq c15).1) ?_
    show Run p e below _ (T14.setTop (mkF m 15 #[.val (.int p0), .val (.int p1), .val (.int (ln p0)), .val (.int (ln p1))] []))
    refine go (fun _ => XS.iconst X14.here hx rfl (hb hby d_m5_15)) ?_
    show Run p e below _ (T14.setTop (mkF m 16 #[.val (.int p0), .val (.int p1), .val (.int (ln p0)), .val (.int (ln p1))] [(.int (0 : Int32))]))
    exact endN X14 hx hlk (t := .boolean) hret (by simp) (hb hby d_m5_16) (⟨congrArg (fun z => some (Value.int z)) (sm0a c15), N14, e14⟩) (by decide) (by decide)
theorem d_m4_0 : decode method_4_code 0 = .ok (.iload_n 0, 1) := by decide +kernel
theorem d_m4_1 : decode method_4_code 1 = .ok (.invokestatic 26, 3) := by decide +kernel
theorem d_m4_4 : decode method_4_code 4 = .ok (.istore_n 1, 1) := by decide +kernel
theorem d_m4_5 : decode method_4_code 5 = .ok (.iload_n 0, 1) := by decide +kernel
theorem d_m4_6 : decode method_4_code 6 = .ok (.sipush 255, 3) := by decide +kernel
theorem d_m4_9 : decode method_4_code 9 = .ok (.iand, 1) := by decide +kernel
theorem d_m4_10 : decode method_4_code 10 = .ok (.i2c, 1) := by decide +kernel
theorem d_m4_11 : decode method_4_code 11 = .ok (.istore_n 2, 1) := by decide +kernel
theorem d_m4_12 : decode method_4_code 12 = .ok (.iload_n 0, 1) := by decide +kernel
theorem d_m4_13 : decode method_4_code 13 = .ok (.bipush 8, 2) := by decide +kernel
theorem d_m4_15 : decode method_4_code 15 = .ok (.iushr, 1) := by decide +kernel
theorem d_m4_16 : decode method_4_code 16 = .ok (.sipush 255, 3) := by decide +kernel
theorem d_m4_19 : decode method_4_code 19 = .ok (.iand, 1) := by decide +kernel
theorem d_m4_20 : decode method_4_code 20 = .ok (.i2c, 1) := by decide +kernel
theorem d_m4_21 : decode method_4_code 21 = .ok (.istore_n 3, 1) := by decide +kernel
theorem d_m4_22 : decode method_4_code 22 = .ok (.iload_n 1, 1) := by decide +kernel
theorem d_m4_23 : decode method_4_code 23 = .ok (.ifCond .ne 14, 3) := by decide +kernel
theorem d_m4_26 : decode method_4_code 26 = .ok (.new 30, 3) := by decide +kernel
theorem d_m4_29 : decode method_4_code 29 = .ok (.dup, 1) := by decide +kernel
theorem d_m4_30 : decode method_4_code 30 = .ok (.iconst 0, 1) := by decide +kernel
theorem d_m4_31 : decode method_4_code 31 = .ok (.newarray .char, 2) := by decide +kernel
theorem d_m4_33 : decode method_4_code 33 = .ok (.invokespecial 32, 3) := by decide +kernel
theorem pd_2 : parseMethodDescriptor "([C)V" = some ⟨[(.array .char)], none⟩ := by decide +kernel
theorem d_m4_36 : decode method_4_code 36 = .ok (.areturn, 1) := by decide +kernel
theorem d_m4_37 : decode method_4_code 37 = .ok (.iload_n 1, 1) := by decide +kernel
theorem d_m4_38 : decode method_4_code 38 = .ok (.iconst 1, 1) := by decide +kernel
theorem d_m4_39 : decode method_4_code 39 = .ok (.if_icmp .ne 18, 3) := by decide +kernel
theorem d_m4_42 : decode method_4_code 42 = .ok (.new 30, 3) := by decide +kernel
theorem d_m4_45 : decode method_4_code 45 = .ok (.dup, 1) := by decide +kernel
theorem d_m4_46 : decode method_4_code 46 = .ok (.iconst 1, 1) := by decide +kernel
theorem d_m4_47 : decode method_4_code 47 = .ok (.newarray .char, 2) := by decide +kernel
theorem d_m4_49 : decode method_4_code 49 = .ok (.dup, 1) := by decide +kernel
theorem d_m4_50 : decode method_4_code 50 = .ok (.iconst 0, 1) := by decide +kernel
theorem d_m4_51 : decode method_4_code 51 = .ok (.iload_n 2, 1) := by decide +kernel
theorem d_m4_52 : decode method_4_code 52 = .ok (.castore, 1) := by decide +kernel
theorem d_m4_53 : decode method_4_code 53 = .ok (.invokespecial 32, 3) := by decide +kernel
theorem d_m4_56 : decode method_4_code 56 = .ok (.areturn, 1) := by decide +kernel
theorem d_m4_57 : decode method_4_code 57 = .ok (.new 30, 3) := by decide +kernel
theorem d_m4_60 : decode method_4_code 60 = .ok (.dup, 1) := by decide +kernel
theorem d_m4_61 : decode method_4_code 61 = .ok (.iconst 2, 1) := by decide +kernel
theorem d_m4_62 : decode method_4_code 62 = .ok (.newarray .char, 2) := by decide +kernel
theorem d_m4_64 : decode method_4_code 64 = .ok (.dup, 1) := by decide +kernel
theorem d_m4_65 : decode method_4_code 65 = .ok (.iconst 0, 1) := by decide +kernel
theorem d_m4_66 : decode method_4_code 66 = .ok (.iload_n 2, 1) := by decide +kernel
theorem d_m4_67 : decode method_4_code 67 = .ok (.castore, 1) := by decide +kernel
theorem d_m4_68 : decode method_4_code 68 = .ok (.dup, 1) := by decide +kernel
theorem d_m4_69 : decode method_4_code 69 = .ok (.iconst 1, 1) := by decide +kernel
theorem d_m4_70 : decode method_4_code 70 = .ok (.iload_n 3, 1) := by decide +kernel
theorem d_m4_71 : decode method_4_code 71 = .ok (.castore, 1) := by decide +kernel
theorem d_m4_72 : decode method_4_code 72 = .ok (.invokespecial 32, 3) := by decide +kernel
theorem d_m4_75 : decode method_4_code 75 = .ok (.areturn, 1) := by decide +kernel
def Q_rm_mk (Z : State) (p0 zc : Int32) (h0 : Heap) (n0 : Nat) (v : Option Value) (h : Heap) (L : List Loc) : Prop := ∃ (x t : Addr) (kb : ClassId), v = some (.ref x) ∧ Fr n0 L ∧ Keep h0 h [] ∧ Str Z h x t kb (mkcs p0)
set_option maxRecDepth 65536 in
set_option maxHeartbeats 40000000 in
theorem rm_mk (l : Launch) (Z : State) (a0 : Array Value) (hw : ∀ d ∈ tables_1, d.before a0 Z = true) (ws : List Jvm.Cond) (p0 zc : Int32) (h0 : Heap) (n0 : Nat) (O0 : Old Z n0 h0) (hEL : EW Z a0 consts_1) (S_COMPACT_STRINGS : Sta Z Z.heap "java/lang/String" "COMPACT_STRINGS" "Z" (.int zc)) (hzc : ¬ zc = 0) :
    MeetsS l (⟨"com/example/lateral_guard/lateralguard/core/FlowEqualsPinLaw", "mk", "(I)Ljava/lang/String;"⟩ : MethodName) method_4_code 4 (some (.object "java/lang/String")) ws ({ frames := 4, cells := 6, slots := 12, locals := 66 } : Room) Z consts_1 [] #[(.int p0)] h0 (Q_rm_mk Z p0 zc h0 n0) 6 12 := by
  refine enterS (Ls := #[.val (.int p0), .unset, .unset, .unset]) (plainFor_of_name pn_1) (fun m => by first | (simp [entryFrame, mkF, argsToLocals, Value.category]; done) | rfl) ?_
  intro p e s m below meth c T0 hx hby hml hown hnm hret hlk hZ X0 e0 eS CH hS HS
  have N0 := Fr.nil n0
  replace hown : s.vm.findClass "com/example/lateral_guard/lateralguard/core/FlowEqualsPinLaw" = some m.cls := hown
  show Run p e below _ (T0.setTop (mkF m 0 #[.val (.int p0), .unset, .unset, .unset] []))
  have hk : h0.size ≤ h0.size := Nat.le_refl _
  have K0 := Keep.refl h0 []
  refine go (fun _ => XS.iloadN X0.here hx rfl (hb hby d_m4_0) rfl) ?_
  show Run p e below _ (T0.setTop (mkF m 1 #[.val (.int p0), .unset, .unset, .unset] [(.int p0)]))
  refine callSt X0 hx hZ hown (wd hw 7 rfl) (wd hw 8 rfl) (wd hw 5 rfl) (wd hw 9 rfl) (by decide) e0 (argsL := [(.int p0)]) (rest := []) (rm_len l Z a0 hw [] p0 h0 n0 O0) (W := 0) (by decide) (by decide) (by decide) (by decide) (by rw [hml]; rfl) (lenOf pd_1 rfl) rfl (Nat.le_of_eq rfl) (hb hby d_m4_1) ?_
  intro v22 T22 L22 h22 X22 e22 q22
  obtain ⟨rv, n22, k22⟩ := q22
  replace rv : v22 = some (.int (ln p0)) := rv
  subst rv
  have e22 := e22.trans k22
  have N22 := Fr.app N0 n22
  show Run p e below _ (T22.setTop (mkF m 4 #[.val (.int p0), .unset, .unset, .unset] [(.int (ln p0))]))
  refine go (fun _ => XS.istoreN X22.here hx rfl (hb hby d_m4_4) rfl (l' := #[.val (.int p0), .val (.int (ln p0)), .unset, .unset]) rfl) ?_
  show Run p e below _ (T22.setTop (mkF m 5 #[.val (.int p0), .val (.int (ln p0)), .unset, .unset] []))
  refine go (fun _ => XS.iloadN X22.here hx rfl (hb hby d_m4_5) rfl) ?_
  show Run p e below _ (T22.setTop (mkF m 6 #[.val (.int p0), .val (.int (ln p0)), .unset, .unset] [(.int p0)]))
  refine go (fun _ => XS.sipush X22.here hx rfl (hb hby d_m4_6)) ?_
  show Run p e below _ (T22.setTop (mkF m 9 #[.val (.int p0), .val (.int (ln p0)), .unset, .unset] [(.int (255 : Int32)), (.int p0)]))
  refine go (fun _ => XS.iand X22.here hx rfl (hb hby d_m4_9) rfl) ?_
  show Run p e below _ (T22.setTop (mkF m 10 #[.val (.int p0), .val (.int (ln p0)), .unset, .unset] [(.int (p0 &&& (255 : Int32)))]))
  refine go (fun _ => XS.i2c X22.here hx rfl (hb hby d_m4_10) rfl) ?_
  show Run p e below _ (T22.setTop (mkF m 11 #[.val (.int p0), .val (.int (ln p0)), .unset, .unset] [(.int ((p0 &&& (255 : Int32)).toUInt32.toUInt16.toUInt32.toInt32))]))
  refine go (fun _ => XS.istoreN X22.here hx rfl (hb hby d_m4_11) rfl (l' := #[.val (.int p0), .val (.int (ln p0)), .val (.int ((p0 &&& (255 : Int32)).toUInt32.toUInt16.toUInt32.toInt32)), .unset]) rfl) ?_
  show Run p e below _ (T22.setTop (mkF m 12 #[.val (.int p0), .val (.int (ln p0)), .val (.int ((p0 &&& (255 : Int32)).toUInt32.toUInt16.toUInt32.toInt32)), .unset] []))
  refine go (fun _ => XS.iloadN X22.here hx rfl (hb hby d_m4_12) rfl) ?_
  show Run p e below _ (T22.setTop (mkF m 13 #[.val (.int p0), .val (.int (ln p0)), .val (.int ((p0 &&& (255 : Int32)).toUInt32.toUInt16.toUInt32.toInt32)), .unset] [(.int p0)]))
  refine go (fun _ => XS.bipush X22.here hx rfl (hb hby d_m4_13)) ?_
  show Run p e below _ (T22.setTop (mkF m 15 #[.val (.int p0), .val (.int (ln p0)), .val (.int ((p0 &&& (255 : Int32)).toUInt32.toUInt16.toUInt32.toInt32)), .unset] [(.int (8 : Int32)), (.int p0)]))
  refine go (fun _ => XS.iushr X22.here hx rfl (hb hby d_m4_15) rfl) ?_
  show Run p e below _ (T22.setTop (mkF m 16 #[.val (.int p0), .val (.int (ln p0)), .val (.int ((p0 &&& (255 : Int32)).toUInt32.toUInt16.toUInt32.toInt32)), .unset] [(.int ((p0.toUInt32 >>> ((8 : Int32) &&& 31).toUInt32).toInt32))]))
  refine go (fun _ => XS.sipush X22.here hx rfl (hb hby d_m4_16)) ?_
  show Run p e below _ (T22.setTop (mkF m 19 #[.val (.int p0), .val (.int (ln p0)), .val (.int ((p0 &&& (255 : Int32)).toUInt32.toUInt16.toUInt32.toInt32)), .unset] [(.int (255 : Int32)), (.int ((p0.toUInt32 >>> ((8 : Int32) &&& 31).toUInt32).toInt32))]))
  refine go (fun _ => XS.iand X22.here hx rfl (hb hby d_m4_19) rfl) ?_
  show Run p e below _ (T22.setTop (mkF m 20 #[.val (.int p0), .val (.int (ln p0)), .val (.int ((p0 &&& (255 : Int32)).toUInt32.toUInt16.toUInt32.toInt32)), .unset] [(.int (((p0.toUInt32 >>> ((8 : Int32) &&& 31).toUInt32).toInt32) &&& (255 : Int32)))]))
  refine go (fun _ => XS.i2c X22.here hx rfl (hb hby d_m4_20) rfl) ?_
  show Run p e below _ (T22.setTop (mkF m 21 #[.val (.int p0), .val (.int (ln p0)), .val (.int ((p0 &&& (255 : Int32)).toUInt32.toUInt16.toUInt32.toInt32)), .unset] [(.int ((((p0.toUInt32 >>> ((8 : Int32) &&& 31).toUInt32).toInt32) &&& (255 : Int32)).toUInt32.toUInt16.toUInt32.toInt32))]))
  refine go (fun _ => XS.istoreN X22.here hx rfl (hb hby d_m4_21) rfl (l' := #[.val (.int p0), .val (.int (ln p0)), .val (.int ((p0 &&& (255 : Int32)).toUInt32.toUInt16.toUInt32.toInt32)), .val (.int ((((p0.toUInt32 >>> ((8 : Int32) &&& 31).toUInt32).toInt32) &&& (255 : Int32)).toUInt32.toUInt16.toUInt32.toInt32))]) rfl) ?_
  show Run p e below _ (T22.setTop (mkF m 22 #[.val (.int p0), .val (.int (ln p0)), .val (.int ((p0 &&& (255 : Int32)).toUInt32.toUInt16.toUInt32.toInt32)), .val (.int ((((p0.toUInt32 >>> ((8 : Int32) &&& 31).toUInt32).toInt32) &&& (255 : Int32)).toUInt32.toUInt16.toUInt32.toInt32))] []))
  refine go (fun _ => XS.iloadN X22.here hx rfl (hb hby d_m4_22) rfl) ?_
  show Run p e below _ (T22.setTop (mkF m 23 #[.val (.int p0), .val (.int (ln p0)), .val (.int ((p0 &&& (255 : Int32)).toUInt32.toUInt16.toUInt32.toInt32)), .val (.int ((((p0.toUInt32 >>> ((8 : Int32) &&& 31).toUInt32).toInt32) &&& (255 : Int32)).toUInt32.toUInt16.toUInt32.toInt32))] [(.int (ln p0))]))
  by_cases c23 : (ln p0) = 0
  · skip
    refine go (fun _ => XS.ifNo X22.here hx rfl (hb hby d_m4_23) rfl ((if0 _ _).trans (teq c23).2)) ?_
    show Run p e below _ (T22.setTop (mkF m 26 #[.val (.int p0), .val (.int (ln p0)), .val (.int ((p0 &&& (255 : Int32)).toUInt32.toUInt16.toUInt32.toInt32)), .val (.int ((((p0.toUInt32 >>> ((8 : Int32) &&& 31).toUInt32).toInt32) &&& (255 : Int32)).toUInt32.toUInt16.toUInt32.toInt32))] []))
    obtain ⟨T24, h24, X24, e24, E24, A24, D24, -, st24⟩ := newO X22 hx hZ hown (wd hw 10 rfl) (wd hw 11 rfl) (wd hw 12 rfl) e22 (g := (mkF m 26 #[.val (.int p0), .val (.int (ln p0)), .val (.int ((p0 &&& (255 : Int32)).toUInt32.toUInt16.toUInt32.toInt32)), .val (.int ((((p0.toUInt32 >>> ((8 : Int32) &&& 31).toUInt32).toInt32) &&& (255 : Int32)).toUInt32.toUInt16.toUInt32.toInt32))] [])) rfl (hb hby d_m4_26) (by decide) (by decide)
    obtain ⟨b24, y24⟩ : ∃ z, z = h0.size := ⟨_, rfl⟩
    rw [← y24] at A24 D24 st24
    have g_b24 : n0 ≤ b24 := y24.symm ▸ old_sz O0
    have SF_b24 : Safe Z consts_1 s.vm h0 b24 := Safe.new (Nat.le_of_eq y24.symm)
    have sz_b24 : h0.size ≤ b24 := y24.symm ▸ K0.1
    have CHo := CH
    have SF_b24o := SF_b24
    have hk := Nat.le_trans hk E24.1
    have O0 := O0.ext E24
    have K0 := K0.ext E24
    have SF_b24 := Safe.ext E24 CHo.1 SF_b24o
    have CH := CHo.trans (CHr.ext E24 CHo.1)
    have E_b24 := A24
    have F_value_b24 : Fld Z h24 b24 "java/lang/String" "value" "[B" .null := D24 (Or.inr (wd hw 26 rfl)) (ty := (.array .byte)) (by decide)
    have F_coder_b24 : Fld Z h24 b24 "java/lang/String" "coder" "B" (.int (0 : Int32)) := D24 (Or.inr (wd hw 27 rfl)) (ty := .byte) (by decide)
    refine go st24 ?_
    show Run p e below _ (T24.setTop (mkF m 29 #[.val (.int p0), .val (.int (ln p0)), .val (.int ((p0 &&& (255 : Int32)).toUInt32.toUInt16.toUInt32.toInt32)), .val (.int ((((p0.toUInt32 >>> ((8 : Int32) &&& 31).toUInt32).toInt32) &&& (255 : Int32)).toUInt32.toUInt16.toUInt32.toInt32))] [(.ref b24)]))
    refine go (fun _ => XS.dup X24.here hx rfl (hb hby d_m4_29) rfl rfl) ?_
    show Run p e below _ (T24.setTop (mkF m 30 #[.val (.int p0), .val (.int (ln p0)), .val (.int ((p0 &&& (255 : Int32)).toUInt32.toUInt16.toUInt32.toInt32)), .val (.int ((((p0.toUInt32 >>> ((8 : Int32) &&& 31).toUInt32).toInt32) &&& (255 : Int32)).toUInt32.toUInt16.toUInt32.toInt32))] [(.ref b24), (.ref b24)]))
    refine go (fun _ => XS.iconst X24.here hx rfl (hb hby d_m4_30)) ?_
    show Run p e below _ (T24.setTop (mkF m 31 #[.val (.int p0), .val (.int (ln p0)), .val (.int ((p0 &&& (255 : Int32)).toUInt32.toUInt16.toUInt32.toInt32)), .val (.int ((((p0.toUInt32 >>> ((8 : Int32) &&& 31).toUInt32).toInt32) &&& (255 : Int32)).toUInt32.toUInt16.toUInt32.toInt32))] [(.int (0 : Int32)), (.ref b24), (.ref b24)]))
    obtain ⟨T25, h25, k25, X25, e25, E25, A25, st25⟩ := newP X24 hx hZ (wd hw 13 rfl) e24 (g := (mkF m 31 #[.val (.int p0), .val (.int (ln p0)), .val (.int ((p0 &&& (255 : Int32)).toUInt32.toUInt16.toUInt32.toInt32)), .val (.int ((((p0.toUInt32 >>> ((8 : Int32) &&& 31).toUInt32).toInt32) &&& (255 : Int32)).toUInt32.toUInt16.toUInt32.toInt32))] [(.int (0 : Int32)), (.ref b24), (.ref b24)])) rfl (hb hby d_m4_31) rfl (by decide) (cap := 0) (by decide) (by decide) (by decide) (by decide)
    obtain ⟨b25, y25⟩ : ∃ z, z = h24.size := ⟨_, rfl⟩
    rw [← y25] at A25 st25
    have g_b25 : n0 ≤ b25 := y25.symm ▸ old_sz O0
    have SF_b25 : Safe Z consts_1 s.vm h24 b25 := Safe.new (Nat.le_of_eq y25.symm)
    have sz_b25 : h0.size ≤ b25 := y25.symm ▸ K0.1
    have ne_b24_b25 : b24 ≠ b25 := Nat.ne_of_lt (y25.symm ▸ E_b24.lt)
    have CHo := CH
    have SF_b24o := SF_b24
    have SF_b25o := SF_b25
    have hk := Nat.le_trans hk E25.1
    have O0 := O0.ext E25
    have K0 := K0.ext E25
    have SF_b24 := Safe.ext E25 CHo.1 SF_b24o
    have E_b24 := E_b24.ext E25
    have F_value_b24 := F_value_b24.ext E25
    have F_coder_b24 := F_coder_b24.ext E25
    have SF_b25 := Safe.ext E25 CHo.1 SF_b25o
    have CH := CHo.trans (CHr.ext E25 CHo.1)
    have V_b25 : Arv Z h25 b25 k25 .char (0 : Int32) [] (.int (0 : Int32)) := (Arv.new A25 (by decide)).pad (pad_rep [] (.int (0 : Int32)) 0)
    refine go st25 ?_
    show Run p e below _ (T25.setTop (mkF m 33 #[.val (.int p0), .val (.int (ln p0)), .val (.int ((p0 &&& (255 : Int32)).toUInt32.toUInt16.toUInt32.toInt32)), .val (.int ((((p0.toUInt32 >>> ((8 : Int32) &&& 31).toUInt32).toInt32) &&& (255 : Int32)).toUInt32.toUInt16.toUInt32.toInt32))] [(.ref b25), (.ref b24), (.ref b24)]))
    refine callSpS rfl X25 hx hZ hown (wd hw 14 rfl) (wd hw 15 rfl) (wd hw 16 rfl) (wd hw 12 rfl) (by decide) e25 hS hk hEL CH (a := b24) (argsL := [(.ref b25)]) (rest := [(.ref b24)]) (allS ⟨E_b24.lt, SF_b24⟩ all0) (rm_e1 l Z a0 hw [] b24 b25 k25 h25 n0 O0 hEL E_b24 F_value_b24 F_coder_b24 g_b24 V_b25) (W := 1) (by decide) (by decide) (by decide) (by decide) (by rw [hml]; rfl) (lenOf pd_2 rfl) rfl (Nat.le_of_eq rfl) (hb hby d_m4_33) ?_
    intro v26 T26 L26 h26 k26 X26 e26 hS hk hZ hown CH' D26 q26
    have lt27_b24 := E_b24.lt
    have lt27_b25 := V_b25.lt
    have SF_b24 := CHr.safe D26 lt27_b24 SF_b24
    have SF_b25 := CHr.safe D26 lt27_b25 SF_b25
    obtain ⟨rfl, n26, K26, t26, kb26, T_b24⟩ := q26
    have O0 := O0.keep K26 (allS g_b24 all0)
    have K0 := K0.trans K26 (allS (Or.inr sz_b24) all0)
    have V_b25 := V_b25.keep K26 (ninS (Ne.symm ne_b24_b25) nin0)
    have N26 := Fr.app N22 n26
    have CH := CH'
    show Run p e below _ (T26.setTop (mkF m 36 #[.val (.int p0), .val (.int (ln p0)), .val (.int ((p0 &&& (255 : Int32)).toUInt32.toUInt16.toUInt32.toInt32)), .val (.int ((((p0.toUInt32 >>> ((8 : Int32) &&& 31).toUInt32).toInt32) &&& (255 : Int32)).toUInt32.toUInt16.toUInt32.toInt32))] [(.ref b24)]))
    exact endAS X26 hx hlk hZ hEL e26 eS CH hS hk (w := (.ref b24)) hret rfl rfl (hb hby d_m4_36) (by rw [e26]; exact ⟨_, _, _, rfl, N26, K0, by unfold mkcs; rw [if_pos c23]; exact T_b24⟩) (by decide) (by decide)
  · skip
    refine go (fun _ => XS.ifYes X22.here hx rfl (pc0 := 23) (pc' := 37) rfl (hb hby d_m4_23) rfl ((if0 _ _).trans (feq c23).2) (by decide) (by decide)) ?_
    show Run p e below _ (T22.setTop (mkF m 37 #[.val (.int p0), .val (.int (ln p0)), .val (.int ((p0 &&& (255 : Int32)).toUInt32.toUInt16.toUInt32.toInt32)), .val (.int ((((p0.toUInt32 >>> ((8 : Int32) &&& 31).toUInt32).toInt32) &&& (255 : Int32)).toUInt32.toUInt16.toUInt32.toInt32))] []))
    refine go (fun _ => XS.iloadN X22.here hx rfl (hb hby d_m4_37) rfl) ?_
    show Run p e below _ (T22.setTop (mkF m 38 #[.val (.int p0), .val (.int (ln p0)), .val (.int ((p0 &&& (255 : Int32)).toUInt32.toUInt16.toUInt32.toInt32)), .val (.int ((((p0.toUInt32 >>> ((8 : Int32) &&& 31).toUInt32).toInt32) &&& (255 : Int32)).toUInt32.toUInt16.toUInt32.toInt32))] [(.int (ln p0))]))
    refine go (fun _ => XS.iconst X22.here hx rfl (hb hby d_m4_38)) ?_
    show Run p e below _ (T22.setTop (mkF m 39 #[.val (.int p0), .val (.int (ln p0)), .val (.int ((p0 &&& (255 : Int32)).toUInt32.toUInt16.toUInt32.toInt32)), .val (.int ((((p0.toUInt32 >>> ((8 : Int32) &&& 31).toUInt32).toInt32) &&& (255 : Int32)).toUInt32.toUInt16.toUInt32.toInt32))] [(.int (1 : Int32)), (.int (ln p0))]))
    by_cases c28 : (ln p0) = (1 : Int32)
    · skip
      refine go (fun _ => XS.icmpNo X22.here hx rfl (hb hby d_m4_39) rfl (teq c28).2) ?_
      show Run p e below _ (T22.setTop (mkF m 42 #[.val (.int p0), .val (.int (ln p0)), .val (.int ((p0 &&& (255 : Int32)).toUInt32.toUInt16.toUInt32.toInt32)), .val (.int ((((p0.toUInt32 >>> ((8 : Int32) &&& 31).toUInt32).toInt32) &&& (255 : Int32)).toUInt32.toUInt16.toUInt32.toInt32))] []))
      obtain ⟨T29, h29, X29, e29, E29, A29, D29, -, st29⟩ := newO X22 hx hZ hown (wd hw 10 rfl) (wd hw 11 rfl) (wd hw 12 rfl) e22 (g := (mkF m 42 #[.val (.int p0), .val (.int (ln p0)), .val (.int ((p0 &&& (255 : Int32)).toUInt32.toUInt16.toUInt32.toInt32)), .val (.int ((((p0.toUInt32 >>> ((8 : Int32) &&& 31).toUInt32).toInt32) &&& (255 : Int32)).toUInt32.toUInt16.toUInt32.toInt32))] [])) rfl (hb hby d_m4_42) (by decide) (by decide)
      obtain ⟨b29, y29⟩ : ∃ z, z = h0.size := ⟨_, rfl⟩
      rw [← y29] at A29 D29 st29
      have g_b29 : n0 ≤ b29 := y29.symm ▸ old_sz O0
      have SF_b29 : Safe Z consts_1 s.vm h0 b29 := Safe.new (Nat.le_of_eq y29.symm)
      have sz_b29 : h0.size ≤ b29 := y29.symm ▸ K0.1
      have CHo := CH
      have SF_b29o := SF_b29
      have hk := Nat.le_trans hk E29.1
      have O0 := O0.ext E29
      have K0 := K0.ext E29
      have SF_b29 := Safe.ext E29 CHo.1 SF_b29o
      have CH := CHo.trans (CHr.ext E29 CHo.1)
      have E_b29 := A29
      have F_value_b29 : Fld Z h29 b29 "java/lang/String" "value" "[B" .null := D29 (Or.inr (wd hw 26 rfl)) (ty := (.array .byte)) (by decide)
      have F_coder_b29 : Fld Z h29 b29 "java/lang/String" "coder" "B" (.int (0 : Int32)) := D29 (Or.inr (wd hw 27 rfl)) (ty := .byte) (by decide)
      refine go st29 ?_
      show Run p e below _ (T29.setTop (mkF m 45 #[.val (.int p0), .val (.int (ln p0)), .val (.int ((p0 &&& (255 : Int32)).toUInt32.toUInt16.toUInt32.toInt32)), .val (.int ((((p0.toUInt32 >>> ((8 : Int32) &&& 31).toUInt32).toInt32) &&& (255 : Int32)).toUInt32.toUInt16.toUInt32.toInt32))] [(.ref b29)]))
      refine go (fun _ => XS.dup X29.here hx rfl (hb hby d_m4_45) rfl rfl) ?_
      show Run p e below _ (T29.setTop (mkF m 46 #[.val (.int p0), .val (.int (ln p0)), .val (.int ((p0 &&& (255 : Int32)).toUInt32.toUInt16.toUInt32.toInt32)), .val (.int ((((p0.toUInt32 >>> ((8 : Int32) &&& 31).toUInt32).toInt32) &&& (255 : Int32)).toUInt32.toUInt16.toUInt32.toInt32))] [(.ref b29), (.ref b29)]))
      refine go (fun _ => XS.iconst X29.here hx rfl (hb hby d_m4_46)) ?_
      show Run p e below _ (T29.setTop (mkF m 47 #[.val (.int p0), .val (.int (ln p0)), .val (.int ((p0 &&& (255 : Int32)).toUInt32.toUInt16.toUInt32.toInt32)), .val (.int ((((p0.toUInt32 >>> ((8 : Int32) &&& 31).toUInt32).toInt32) &&& (255 : Int32)).toUInt32.toUInt16.toUInt32.toInt32))] [(.int (1 : Int32)), (.ref b29), (.ref b29)]))
      obtain ⟨T30, h30, k30, X30, e30, E30, A30, st30⟩ := newP X29 hx hZ (wd hw 13 rfl) e29 (g := (mkF m 47 #[.val (.int p0), .val (.int (ln p0)), .val (.int ((p0 &&& (255 : Int32)).toUInt32.toUInt16.toUInt32.toInt32)), .val (.int ((((p0.toUInt32 >>> ((8 : Int32) &&& 31).toUInt32).toInt32) &&& (255 : Int32)).toUInt32.toUInt16.toUInt32.toInt32))] [(.int (1 : Int32)), (.ref b29), (.ref b29)])) rfl (hb hby d_m4_47) rfl (by decide) (cap := 1) (by decide) (by decide) (by decide) (by decide)
      obtain ⟨b30, y30⟩ : ∃ z, z = h29.size := ⟨_, rfl⟩
      rw [← y30] at A30 st30
      have g_b30 : n0 ≤ b30 := y30.symm ▸ old_sz O0
      have SF_b30 : Safe Z consts_1 s.vm h29 b30 := Safe.new (Nat.le_of_eq y30.symm)
      have sz_b30 : h0.size ≤ b30 := y30.symm ▸ K0.1
      have ne_b29_b30 : b29 ≠ b30 := Nat.ne_of_lt (y30.symm ▸ E_b29.lt)
      have CHo := CH
      have SF_b29o := SF_b29
      have SF_b30o := SF_b30
      have hk := Nat.le_trans hk E30.1
      have O0 := O0.ext E30
      have K0 := K0.ext E30
      have SF_b29 := Safe.ext E30 CHo.1 SF_b29o
      have E_b29 := E_b29.ext E30
      have F_value_b29 := F_value_b29.ext E30
      have F_coder_b29 := F_coder_b29.ext E30
      have SF_b30 := Safe.ext E30 CHo.1 SF_b30o
      have CH := CHo.trans (CHr.ext E30 CHo.1)
      have V_b30 : Arv Z h30 b30 k30 .char (1 : Int32) [(.int (0 : Int32))] (.int (0 : Int32)) := (Arv.new A30 (by decide)).pad (pad_rep [] (.int (0 : Int32)) 1)
      refine go st30 ?_
      show Run p e below _ (T30.setTop (mkF m 49 #[.val (.int p0), .val (.int (ln p0)), .val (.int ((p0 &&& (255 : Int32)).toUInt32.toUInt16.toUInt32.toInt32)), .val (.int ((((p0.toUInt32 >>> ((8 : Int32) &&& 31).toUInt32).toInt32) &&& (255 : Int32)).toUInt32.toUInt16.toUInt32.toInt32))] [(.ref b30), (.ref b29), (.ref b29)]))
      refine go (fun _ => XS.dup X30.here hx rfl (hb hby d_m4_49) rfl rfl) ?_
      show Run p e below _ (T30.setTop (mkF m 50 #[.val (.int p0), .val (.int (ln p0)), .val (.int ((p0 &&& (255 : Int32)).toUInt32.toUInt16.toUInt32.toInt32)), .val (.int ((((p0.toUInt32 >>> ((8 : Int32) &&& 31).toUInt32).toInt32) &&& (255 : Int32)).toUInt32.toUInt16.toUInt32.toInt32))] [(.ref b30), (.ref b30), (.ref b29), (.ref b29)]))
      refine go (fun _ => XS.iconst X30.here hx rfl (hb hby d_m4_50)) ?_
      show Run p e below _ (T30.setTop (mkF m 51 #[.val (.int p0), .val (.int (ln p0)), .val (.int ((p0 &&& (255 : Int32)).toUInt32.toUInt16.toUInt32.toInt32)), .val (.int ((((p0.toUInt32 >>> ((8 : Int32) &&& 31).toUInt32).toInt32) &&& (255 : Int32)).toUInt32.toUInt16.toUInt32.toInt32))] [(.int (0 : Int32)), (.ref b30), (.ref b30), (.ref b29), (.ref b29)]))
      refine go (fun _ => XS.iloadN X30.here hx rfl (hb hby d_m4_51) rfl) ?_
      show Run p e below _ (T30.setTop (mkF m 52 #[.val (.int p0), .val (.int (ln p0)), .val (.int ((p0 &&& (255 : Int32)).toUInt32.toUInt16.toUInt32.toInt32)), .val (.int ((((p0.toUInt32 >>> ((8 : Int32) &&& 31).toUInt32).toInt32) &&& (255 : Int32)).toUInt32.toUInt16.toUInt32.toInt32))] [(.int ((p0 &&& (255 : Int32)).toUInt32.toUInt16.toUInt32.toInt32)), (.int (0 : Int32)), (.ref b30), (.ref b30), (.ref b29), (.ref b29)]))
      obtain ⟨cl31, Ar31, ak31, as31, an31, ah31, ag31⟩ := id V_b30
      have hin31 := inb_of as31 (j := (0 : Int32)) ⟨by decide, by decide⟩
      obtain ⟨T31, h31, X31, e31, W31, st31⟩ := stC X30 hx hZ e30 Ar31 (j := (0 : Int32)) hin31 (g := (mkF m 52 #[.val (.int p0), .val (.int (ln p0)), .val (.int ((p0 &&& (255 : Int32)).toUInt32.toUInt16.toUInt32.toInt32)), .val (.int ((((p0.toUInt32 >>> ((8 : Int32) &&& 31).toUInt32).toInt32) &&& (255 : Int32)).toUInt32.toUInt16.toUInt32.toInt32))] [(.int ((p0 &&& (255 : Int32)).toUInt32.toUInt16.toUInt32.toInt32)), (.int (0 : Int32)), (.ref b30), (.ref b30), (.ref b29), (.ref b29)])) rfl rfl (hb hby d_m4_52)
      have W31' : Wr _ _ _ _ (.int (p0 &&& 255)) := (own_nc p0) ▸ W31
      have CHo := CH
      have SF_b29o := SF_b29
      have SF_b30o := SF_b30
      have hk := Nat.le_trans hk (wr_sz W31')
      have SF_b29 := Safe.wr W31' SF_b30o CHo.1 SF_b29o
      have SF_b30 := Safe.wr W31' SF_b30o CHo.1 SF_b30o
      have CH := CHo.trans (CHr.wr W31' SF_b30o CHo.1)
      have O0 := O0.wr W31' g_b30
      have K0 := K0.wr W31' (Or.inr sz_b30)
      have E_b29 := E_b29.wr W31'
      have F_value_b29 := F_value_b29.other W31' (Or.inl ne_b29_b30)
      have F_coder_b29 := F_coder_b29.other W31' (Or.inl ne_b29_b30)
      have V_b30 := (Arv.set Ar31 ak31 as31 an31 ah31 ag31 ((own_nc p0) ▸ (fits_nar_char _)) W31' 0 rfl (Nat.le_of_ble_eq_true rfl) : Arv Z h31 b30 k30 .char (1 : Int32) [(.int (p0 &&& 255))] (.int (0 : Int32)))
      have N31 := Fr.snoc X31 N22 g_b30
      refine go st31 ?_
      show Run p e below _ (T31.setTop (mkF m 53 #[.val (.int p0), .val (.int (ln p0)), .val (.int ((p0 &&& (255 : Int32)).toUInt32.toUInt16.toUInt32.toInt32)), .val (.int ((((p0.toUInt32 >>> ((8 : Int32) &&& 31).toUInt32).toInt32) &&& (255 : Int32)).toUInt32.toUInt16.toUInt32.toInt32))] [(.ref b30), (.ref b29), (.ref b29)]))
      refine callSpK X31 hx hZ rfl hown (wd hw 14 rfl) (wd hw 15 rfl) (wd hw 16 rfl) (by decide) e31 (a := b29) (argsL := [(.ref b30)]) (rest := [(.ref b29)]) (W := 1) (payNew (s := s.setVm s.vm) (n := 1) (cs := [(p0 &&& 255)]) hZ hw (wd hw 11 rfl) O0 g_b29 E_b29 F_value_b29 F_coder_b29 V_b30 S_COMPACT_STRINGS hzc rfl rfl (by decide) (by decide) (In8.cons (own_m _) In8.nil) (by decide) (by decide)) (by decide) (by decide) (by rw [hml]; rfl) (lenOf pd_2 rfl) rfl (Nat.le_of_eq rfl) (hb hby d_m4_53) ?_
      intro v32 T32 L32 h32 X32 e32 q32
      have lt33_b29 := E_b29.lt
      have lt33_b30 := V_b30.lt
      obtain ⟨rfl, n32, K32, t32, kb32, gt32, sb32, nt32, T_b29⟩ := q32
      have szq32 := K0.1
      have ne_b29_t32 : b29 ≠ t32 := Nat.ne_of_lt (Nat.lt_of_lt_of_le lt33_b29 sb32)
      have ne_b30_t32 : b30 ≠ t32 := Nat.ne_of_lt (Nat.lt_of_lt_of_le lt33_b30 sb32)
      have CHo := CH
      have SF_b29o := SF_b29
      have SF_b30o := SF_b30
      have hk := Nat.le_trans hk K32.1
      have O0 := O0.keep K32 (allS g_b29 all0)
      have K0 := K0.trans K32 (allS (Or.inr sz_b29) all0)
      have SF_b29 := Safe.keep K32 (allS SF_b29o all0) CHo.1 SF_b29o
      have SF_b30 := Safe.keep K32 (allS SF_b29o all0) CHo.1 SF_b30o
      have CH := CHo.trans (CHr.keep K32 (allS SF_b29o all0) CHo.1)
      have V_b30 := V_b30.keep K32 (ninS (Ne.symm ne_b29_b30) nin0)
      have sz_t32 : h0.size ≤ t32 := Nat.le_trans szq32 sb32
      have N32 := Fr.app N31 n32
      show Run p e below _ (T32.setTop (mkF m 56 #[.val (.int p0), .val (.int (ln p0)), .val (.int ((p0 &&& (255 : Int32)).toUInt32.toUInt16.toUInt32.toInt32)), .val (.int ((((p0.toUInt32 >>> ((8 : Int32) &&& 31).toUInt32).toInt32) &&& (255 : Int32)).toUInt32.toUInt16.toUInt32.toInt32))] [(.ref b29)]))
      exact endAS X32 hx hlk hZ hEL e32 eS CH hS hk (w := (.ref b29)) hret rfl rfl (hb hby d_m4_56) (by rw [e32]; exact ⟨_, _, _, rfl, N32, K0, by unfold mkcs; rw [if_neg c23, if_pos c28]; exact T_b29⟩) (by decide) (by decide)
    · skip
      refine go (fun _ => XS.icmpYes X22.here hx rfl (pc0 := 39) (pc' := 57) rfl (hb hby d_m4_39) rfl (feq c28).2 (by decide) (by decide)) ?_
      show Run p e below _ (T22.setTop (mkF m 57 #[.val (.int p0), .val (.int (ln p0)), .val (.int ((p0 &&& (255 : Int32)).toUInt32.toUInt16.toUInt32.toInt32)), .val (.int ((((p0.toUInt32 >>> ((8 : Int32) &&& 31).toUInt32).toInt32) &&& (255 : Int32)).toUInt32.toUInt16.toUInt32.toInt32))] []))
      obtain ⟨T34, h34, X34, e34, E34, A34, D34, -, st34⟩ := newO X22 hx hZ hown (wd hw 10 rfl) (wd hw 11 rfl) (wd hw 12 rfl) e22 (g := (mkF m 57 #[.val (.int p0), .val (.int (ln p0)), .val (.int ((p0 &&& (255 : Int32)).toUInt32.toUInt16.toUInt32.toInt32)), .val (.int ((((p0.toUInt32 >>> ((8 : Int32) &&& 31).toUInt32).toInt32) &&& (255 : Int32)).toUInt32.toUInt16.toUInt32.toInt32))] [])) rfl (hb hby d_m4_57) (by decide) (by decide)
      obtain ⟨b34, y34⟩ : ∃ z, z = h0.size := ⟨_, rfl⟩
      rw [← y34] at A34 D34 st34
      have g_b34 : n0 ≤ b34 := y34.symm ▸ old_sz O0
      have SF_b34 : Safe Z consts_1 s.vm h0 b34 := Safe.new (Nat.le_of_eq y34.symm)
      have sz_b34 : h0.size ≤ b34 := y34.symm ▸ K0.1
      have CHo := CH
      have SF_b34o := SF_b34
      have hk := Nat.le_trans hk E34.1
      have O0 := O0.ext E34
      have K0 := K0.ext E34
      have SF_b34 := Safe.ext E34 CHo.1 SF_b34o
      have CH := CHo.trans (CHr.ext E34 CHo.1)
      have E_b34 := A34
      have F_value_b34 : Fld Z h34 b34 "java/lang/String" "value" "[B" .null := D34 (Or.inr (wd hw 26 rfl)) (ty := (.array .byte)) (by decide)
      have F_coder_b34 : Fld Z h34 b34 "java/lang/String" "coder" "B" (.int (0 : Int32)) := D34 (Or.inr (wd hw 27 rfl)) (ty := .byte) (by decide)
      refine go st34 ?_
      show Run p e below _ (T34.setTop (mkF m 60 #[.val (.int p0), .val (.int (ln p0)), .val (.int ((p0 &&& (255 : Int32)).toUInt32.toUInt16.toUInt32.toInt32)), .val (.int ((((p0.toUInt32 >>> ((8 : Int32) &&& 31).toUInt32).toInt32) &&& (255 : Int32)).toUInt32.toUInt16.toUInt32.toInt32))] [(.ref b34)]))
      refine go (fun _ => XS.dup X34.here hx rfl (hb hby d_m4_60) rfl rfl) ?_
      show Run p e below _ (T34.setTop (mkF m 61 #[.val (.int p0), .val (.int (ln p0)), .val (.int ((p0 &&& (255 : Int32)).toUInt32.toUInt16.toUInt32.toInt32)), .val (.int ((((p0.toUInt32 >>> ((8 : Int32) &&& 31).toUInt32).toInt32) &&& (255 : Int32)).toUInt32.toUInt16.toUInt32.toInt32))] [(.ref b34), (.ref b34)]))
      refine go (fun _ => XS.iconst X34.here hx rfl (hb hby d_m4_61)) ?_
      show Run p e below _ (T34.setTop (mkF m 62 #[.val (.int p0), .val (.int (ln p0)), .val (.int ((p0 &&& (255 : Int32)).toUInt32.toUInt16.toUInt32.toInt32)), .val (.int ((((p0.toUInt32 >>> ((8 : Int32) &&& 31).toUInt32).toInt32) &&& (255 : Int32)).toUInt32.toUInt16.toUInt32.toInt32))] [(.int (2 : Int32)), (.ref b34), (.ref b34)]))
      obtain ⟨T35, h35, k35, X35, e35, E35, A35, st35⟩ := newP X34 hx hZ (wd hw 13 rfl) e34 (g := (mkF m 62 #[.val (.int p0), .val (.int (ln p0)), .val (.int ((p0 &&& (255 : Int32)).toUInt32.toUInt16.toUInt32.toInt32)), .val (.int ((((p0.toUInt32 >>> ((8 : Int32) &&& 31).toUInt32).toInt32) &&& (255 : Int32)).toUInt32.toUInt16.toUInt32.toInt32))] [(.int (2 : Int32)), (.ref b34), (.ref b34)])) rfl (hb hby d_m4_62) rfl (by decide) (cap := 2) (by decide) (by decide) (by decide) (by decide)
      obtain ⟨b35, y35⟩ : ∃ z, z = h34.size := ⟨_, rfl⟩
      rw [← y35] at A35 st35
      have g_b35 : n0 ≤ b35 := y35.symm ▸ old_sz O0
      have SF_b35 : Safe Z consts_1 s.vm h34 b35 := Safe.new (Nat.le_of_eq y35.symm)
      have sz_b35 : h0.size ≤ b35 := y35.symm ▸ K0.1
      have ne_b34_b35 : b34 ≠ b35 := Nat.ne_of_lt (y35.symm ▸ E_b34.lt)
      have CHo := CH
      have SF_b34o := SF_b34
      have SF_b35o := SF_b35
      have hk := Nat.le_trans hk E35.1
      have O0 := O0.ext E35
      have K0 := K0.ext E35
      have SF_b34 := Safe.ext E35 CHo.1 SF_b34o
      have E_b34 := E_b34.ext E35
      have F_value_b34 := F_value_b34.ext E35
      have F_coder_b34 := F_coder_b34.ext E35
      have SF_b35 := Safe.ext E35 CHo.1 SF_b35o
      have CH := CHo.trans (CHr.ext E35 CHo.1)
      have V_b35 : Arv Z h35 b35 k35 .char (2 : Int32) [(.int (0 : Int32)), (.int (0 : Int32))] (.int (0 : Int32)) := (Arv.new A35 (by decide)).pad (pad_rep [] (.int (0 : Int32)) 2)
      refine go st35 ?_
      show Run p e below _ (T35.setTop (mkF m 64 #[.val (.int p0), .val (.int (ln p0)), .val (.int ((p0 &&& (255 : Int32)).toUInt32.toUInt16.toUInt32.toInt32)), .val (.int ((((p0.toUInt32 >>> ((8 : Int32) &&& 31).toUInt32).toInt32) &&& (255 : Int32)).toUInt32.toUInt16.toUInt32.toInt32))] [(.ref b35), (.ref b34), (.ref b34)]))
      refine go (fun _ => XS.dup X35.here hx rfl (hb hby d_m4_64) rfl rfl) ?_
      show Run p e below _ (T35.setTop (mkF m 65 #[.val (.int p0), .val (.int (ln p0)), .val (.int ((p0 &&& (255 : Int32)).toUInt32.toUInt16.toUInt32.toInt32)), .val (.int ((((p0.toUInt32 >>> ((8 : Int32) &&& 31).toUInt32).toInt32) &&& (255 : Int32)).toUInt32.toUInt16.toUInt32.toInt32))] [(.ref b35), (.ref b35), (.ref b34), (.ref b34)]))
      refine go (fun _ => XS.iconst X35.here hx rfl (hb hby d_m4_65)) ?_
      show Run p e below _ (T35.setTop (mkF m 66 #[.val (.int p0), .val (.int (ln p0)), .val (.int ((p0 &&& (255 : Int32)).toUInt32.toUInt16.toUInt32.toInt32)), .val (.int ((((p0.toUInt32 >>> ((8 : Int32) &&& 31).toUInt32).toInt32) &&& (255 : Int32)).toUInt32.toUInt16.toUInt32.toInt32))] [(.int (0 : Int32)), (.ref b35), (.ref b35), (.ref b34), (.ref b34)]))
      refine go (fun _ => XS.iloadN X35.here hx rfl (hb hby d_m4_66) rfl) ?_
      show Run p e below _ (T35.setTop (mkF m 67 #[.val (.int p0), .val (.int (ln p0)), .val (.int ((p0 &&& (255 : Int32)).toUInt32.toUInt16.toUInt32.toInt32)), .val (.int ((((p0.toUInt32 >>> ((8 : Int32) &&& 31).toUInt32).toInt32) &&& (255 : Int32)).toUInt32.toUInt16.toUInt32.toInt32))] [(.int ((p0 &&& (255 : Int32)).toUInt32.toUInt16.toUInt32.toInt32)), (.int (0 : Int32)), (.ref b35), (.ref b35), (.ref b34), (.ref b34)]))
      obtain ⟨cl36, Ar36, ak36, as36, an36, ah36, ag36⟩ := id V_b35
      have hin36 := inb_of as36 (j := (0 : Int32)) ⟨by decide, by decide⟩
      obtain ⟨T36, h36, X36, e36, W36, st36⟩ := stC X35 hx hZ e35 Ar36 (j := (0 : Int32)) hin36 (g := (mkF m 67 #[.val (.int p0), .val (.int (ln p0)), .val (.int ((p0 &&& (255 : Int32)).toUInt32.toUInt16.toUInt32.toInt32)), .val (.int ((((p0.toUInt32 >>> ((8 : Int32) &&& 31).toUInt32).toInt32) &&& (255 : Int32)).toUInt32.toUInt16.toUInt32.toInt32))] [(.int ((p0 &&& (255 : Int32)).toUInt32.toUInt16.toUInt32.toInt32)), (.int (0 : Int32)), (.ref b35), (.ref b35), (.ref b34), (.ref b34)])) rfl rfl (hb hby d_m4_67)
      have W36' : Wr _ _ _ _ (.int (p0 &&& 255)) := (own_nc p0) ▸ W36
      have CHo := CH
      have SF_b34o := SF_b34
      have SF_b35o := SF_b35
      have hk := Nat.le_trans hk (wr_sz W36')
      have SF_b34 := Safe.wr W36' SF_b35o CHo.1 SF_b34o
      have SF_b35 := Safe.wr W36' SF_b35o CHo.1 SF_b35o
      have CH := CHo.trans (CHr.wr W36' SF_b35o CHo.1)
      have O0 := O0.wr W36' g_b35
      have K0 := K0.wr W36' (Or.inr sz_b35)
      have E_b34 := E_b34.wr W36'
      have F_value_b34 := F_value_b34.other W36' (Or.inl ne_b34_b35)
      have F_coder_b34 := F_coder_b34.other W36' (Or.inl ne_b34_b35)
      have V_b35 := (Arv.set Ar36 ak36 as36 an36 ah36 ag36 ((own_nc p0) ▸ (fits_nar_char _)) W36' 0 rfl (Nat.le_of_ble_eq_true rfl) : Arv Z h36 b35 k35 .char (2 : Int32) [(.int (p0 &&& 255)), (.int (0 : Int32))] (.int (0 : Int32)))
      have N36 := Fr.snoc X36 N22 g_b35
      refine go st36 ?_
      show Run p e below _ (T36.setTop (mkF m 68 #[.val (.int p0), .val (.int (ln p0)), .val (.int ((p0 &&& (255 : Int32)).toUInt32.toUInt16.toUInt32.toInt32)), .val (.int ((((p0.toUInt32 >>> ((8 : Int32) &&& 31).toUInt32).toInt32) &&& (255 : Int32)).toUInt32.toUInt16.toUInt32.toInt32))] [(.ref b35), (.ref b34), (.ref b34)]))
      refine go (fun _ => XS.dup X36.here hx rfl (hb hby d_m4_68) rfl rfl) ?_
      show Run p e below _ (T36.setTop (mkF m 69 #[.val (.int p0), .val (.int (ln p0)), .val (.int ((p0 &&& (255 : Int32)).toUInt32.toUInt16.toUInt32.toInt32)), .val (.int ((((p0.toUInt32 >>> ((8 : Int32) &&& 31).toUInt32).toInt32) &&& (255 : Int32)).toUInt32.toUInt16.toUInt32.toInt32))] [(.ref b35), (.ref b35), (.ref b34), (.ref b34)]))
      refine go (fun _ => XS.iconst X36.here hx rfl (hb hby d_m4_69)) ?_
      show Run p e below _ (T36.setTop (mkF m 70 #[.val (.int p0), .val (.int (ln p0)), .val (.int ((p0 &&& (255 : Int32)).toUInt32.toUInt16.toUInt32.toInt32)), .val (.int ((((p0.toUInt32 >>> ((8 : Int32) &&& 31).toUInt32).toInt32) &&& (255 : Int32)).toUInt32.toUInt16.toUInt32.toInt32))] [(.int (1 : Int32)), (.ref b35), (.ref b35), (.ref b34), (.ref b34)]))
      refine go (fun _ => XS.iloadN X36.here hx rfl (hb hby d_m4_70) rfl) ?_
      show Run p e below _ (T36.setTop (mkF m 71 #[.val (.int p0), .val (.int (ln p0)), .val (.int ((p0 &&& (255 : Int32)).toUInt32.toUInt16.toUInt32.toInt32)), .val (.int ((((p0.toUInt32 >>> ((8 : Int32) &&& 31).toUInt32).toInt32) &&& (255 : Int32)).toUInt32.toUInt16.toUInt32.toInt32))] [(.int ((((p0.toUInt32 >>> ((8 : Int32) &&& 31).toUInt32).toInt32) &&& (255 : Int32)).toUInt32.toUInt16.toUInt32.toInt32)), (.int (1 : Int32)), (.ref b35), (.ref b35), (.ref b34), (.ref b34)]))
      obtain ⟨cl37, Ar37, ak37, as37, an37, ah37, ag37⟩ := id V_b35
      have hin37 := inb_of as37 (j := (1 : Int32)) ⟨by decide, by decide⟩
      obtain ⟨T37, h37, X37, e37, W37, st37⟩ := stC X36 hx hZ e36 Ar37 (j := (1 : Int32)) hin37 (g := (mkF m 71 #[.val (.int p0), .val (.int (ln p0)), .val (.int ((p0 &&& (255 : Int32)).toUInt32.toUInt16.toUInt32.toInt32)), .val (.int ((((p0.toUInt32 >>> ((8 : Int32) &&& 31).toUInt32).toInt32) &&& (255 : Int32)).toUInt32.toUInt16.toUInt32.toInt32))] [(.int ((((p0.toUInt32 >>> ((8 : Int32) &&& 31).toUInt32).toInt32) &&& (255 : Int32)).toUInt32.toUInt16.toUInt32.toInt32)), (.int (1 : Int32)), (.ref b35), (.ref b35), (.ref b34), (.ref b34)])) rfl rfl (hb hby d_m4_71)
      have W37' : Wr _ _ _ _ (.int (((p0.toUInt32 >>> ((8 : Int32) &&& 31).toUInt32).toInt32) &&& 255)) := (own_nc ((p0.toUInt32 >>> ((8 : Int32) &&& 31).toUInt32).toInt32)) ▸ W37
      have CHo := CH
      have SF_b34o := SF_b34
      have SF_b35o := SF_b35
      have hk := Nat.le_trans hk (wr_sz W37')
      have SF_b34 := Safe.wr W37' SF_b35o CHo.1 SF_b34o
      have SF_b35 := Safe.wr W37' SF_b35o CHo.1 SF_b35o
      have CH := CHo.trans (CHr.wr W37' SF_b35o CHo.1)
      have O0 := O0.wr W37' g_b35
      have K0 := K0.wr W37' (Or.inr sz_b35)
      have E_b34 := E_b34.wr W37'
      have F_value_b34 := F_value_b34.other W37' (Or.inl ne_b34_b35)
      have F_coder_b34 := F_coder_b34.other W37' (Or.inl ne_b34_b35)
      have V_b35 := (Arv.set Ar37 ak37 as37 an37 ah37 ag37 ((own_nc ((p0.toUInt32 >>> ((8 : Int32) &&& 31).toUInt32).toInt32)) ▸ (fits_nar_char _)) W37' 1 rfl (Nat.le_of_ble_eq_true rfl) : Arv Z h37 b35 k35 .char (2 : Int32) [(.int (p0 &&& 255)), (.int (((p0.toUInt32 >>> ((8 : Int32) &&& 31).toUInt32).toInt32) &&& 255))] (.int (0 : Int32)))
      have N37 := Fr.snoc X37 N36 g_b35
      refine go st37 ?_
      show Run p e below _ (T37.setTop (mkF m 72 #[.val (.int p0), .val (.int (ln p0)), .val (.int ((p0 &&& (255 : Int32)).toUInt32.toUInt16.toUInt32.toInt32)), .val (.int ((((p0.toUInt32 >>> ((8 : Int32) &&& 31).toUInt32).toInt32) &&& (255 : Int32)).toUInt32.toUInt16.toUInt32.toInt32))] [(.ref b35), (.ref b34), (.ref b34)]))
      refine callSpK X37 hx hZ rfl hown (wd hw 14 rfl) (wd hw 15 rfl) (wd hw 16 rfl) (by decide) e37 (a := b34) (argsL := [(.ref b35)]) (rest := [(.ref b34)]) (W := 1) (payNew (s := s.setVm s.vm) (n := 2) (cs := [(p0 &&& 255), (((p0.toUInt32 >>> ((8 : Int32) &&& 31).toUInt32).toInt32) &&& 255)]) hZ hw (wd hw 11 rfl) O0 g_b34 E_b34 F_value_b34 F_coder_b34 V_b35 S_COMPACT_STRINGS hzc rfl rfl (by decide) (by decide) (In8.cons (own_m _) (In8.cons (own_m _) In8.nil)) (by decide) (by decide)) (by decide) (by decide) (by rw [hml]; rfl) (lenOf pd_2 rfl) rfl (Nat.le_of_eq rfl) (hb hby d_m4_72) ?_
      intro v38 T38 L38 h38 X38 e38 q38
      have lt39_b34 := E_b34.lt
      have lt39_b35 := V_b35.lt
      obtain ⟨rfl, n38, K38, t38, kb38, gt38, sb38, nt38, T_b34⟩ := q38
      have szq38 := K0.1
      have ne_b34_t38 : b34 ≠ t38 := Nat.ne_of_lt (Nat.lt_of_lt_of_le lt39_b34 sb38)
      have ne_b35_t38 : b35 ≠ t38 := Nat.ne_of_lt (Nat.lt_of_lt_of_le lt39_b35 sb38)
      have CHo := CH
      have SF_b34o := SF_b34
      have SF_b35o := SF_b35
      have hk := Nat.le_trans hk K38.1
      have O0 := O0.keep K38 (allS g_b34 all0)
      have K0 := K0.trans K38 (allS (Or.inr sz_b34) all0)
      have SF_b34 := Safe.keep K38 (allS SF_b34o all0) CHo.1 SF_b34o
      have SF_b35 := Safe.keep K38 (allS SF_b34o all0) CHo.1 SF_b35o
      have CH := CHo.trans (CHr.keep K38 (allS SF_b34o all0) CHo.1)
      have V_b35 := V_b35.keep K38 (ninS (Ne.symm ne_b34_b35) nin0)
      have sz_t38 : h0.size ≤ t38 := Nat.le_trans szq38 sb38
      have N38 := Fr.app N37 n38
      show Run p e below _ (T38.setTop (mkF m 75 #[.val (.int p0), .val (.int (ln p0)), .val (.int ((p0 &&& (255 : Int32)).toUInt32.toUInt16.toUInt32.toInt32)), .val (.int ((((p0.toUInt32 >>> ((8 : Int32) &&& 31).toUInt32).toInt32) &&& (255 : Int32)).toUInt32.toUInt16.toUInt32.toInt32))] [(.ref b34)]))
      exact endAS X38 hx hlk hZ hEL e38 eS CH hS hk (w := (.ref b34)) hret rfl rfl (hb hby d_m4_75) (by rw [e38]; exact ⟨_, _, _, rfl, N38, K0, by unfold mkcs; rw [if_neg c23, if_neg c28]; exact T_b34⟩) (by decide) (by decide)
theorem d_j31_m11_0 : decode jdk_31_method_11_code 0 = .ok (.aload_n 0, 1) := by decide +kernel
theorem d_j31_m11_1 : decode jdk_31_method_11_code 1 = .ok (.ifnonnull 12, 3) := by decide +kernel
theorem d_j31_m11_13 : decode jdk_31_method_11_code 13 = .ok (.aload_n 0, 1) := by decide +kernel
theorem d_j31_m11_14 : decode jdk_31_method_11_code 14 = .ok (.areturn, 1) := by decide +kernel
theorem pn_2 : plainName "java/util/Objects" = true := by first | (simp [plainName, overriddenIn]; done) | decide +kernel
def Q_rm_rnn (a b : Addr) (h0 : Heap) (n0 : Nat) (v : Option Value) (h : Heap) (L : List Loc) : Prop := v = some (.ref a) ∧ Fr n0 L ∧ h = h0
set_option maxRecDepth 65536 in
set_option maxHeartbeats 40000000 in
theorem rm_rnn (l : Launch) (Z : State) (a0 : Array Value) (hw : ∀ d ∈ tables_1, d.before a0 Z = true) (ws : List Jvm.Cond) (a b : Addr) (h0 : Heap) (n0 : Nat) (O0 : Old Z n0 h0)  :
    Meets l (⟨"java/util/Objects", "requireNonNull", "(Ljava/lang/Object;Ljava/lang/String;)Ljava/lang/Object;"⟩ : MethodName) jdk_31_method_11_code 2 (some (.object "java/lang/Object")) ws ({ frames := 0, cells := 0, slots := 0, locals := 0 } : Room) Z #[(.ref a), (.ref b)] h0 (Q_rm_rnn a b h0 n0) 0 0 := by
  refine enter (Ls := #[.val (.ref a), .val (.ref b)]) (plainFor_of_name pn_2) (fun m => by first | (simp [entryFrame, mkF, argsToLocals, Value.category]; done) | rfl) ?_
  intro p e s m below meth c T0 hx hby hml hown hnm hret hlk hZ X0 e0
  have N0 := Fr.nil n0
  replace hown : s.vm.findClass "java/util/Objects" = some m.cls := hown
  show Run p e below _ (T0.setTop (mkF m 0 #[.val (.ref a), .val (.ref b)] []))
  refine go (fun _ => XS.aloadN X0.here hx rfl (hb hby d_j31_m11_0) rfl rfl) ?_
  show Run p e below _ (T0.setTop (mkF m 1 #[.val (.ref a), .val (.ref b)] [(.ref a)]))
  refine go (fun _ => XS.ifnonnullYes X0.here hx rfl (pc0 := 1) (pc' := 13) rfl (hb hby d_j31_m11_1) rfl (by decide) (by decide)) ?_
  show Run p e below _ (T0.setTop (mkF m 13 #[.val (.ref a), .val (.ref b)] []))
  refine go (fun _ => XS.aloadN X0.here hx rfl (hb hby d_j31_m11_13) rfl rfl) ?_
  show Run p e below _ (T0.setTop (mkF m 14 #[.val (.ref a), .val (.ref b)] [(.ref a)]))
  exact endA X0 hx hlk (w := (.ref a)) hret rfl rfl (hb hby d_j31_m11_14) (⟨rfl, N0, e0⟩) (by decide) (by decide)
theorem d_p31_m1_0 : decode prog_31_method_1_code 0 = .ok (.aload_n 0, 1) := by decide +kernel
theorem d_p31_m1_1 : decode prog_31_method_1_code 1 = .ok (.invokespecial 1, 3) := by decide +kernel
theorem d_p31_m1_4 : decode prog_31_method_1_code 4 = .ok (.aload_n 0, 1) := by decide +kernel
theorem d_p31_m1_5 : decode prog_31_method_1_code 5 = .ok (.aload_n 1, 1) := by decide +kernel
theorem d_p31_m1_6 : decode prog_31_method_1_code 6 = .ok (.ldc 7, 2) := by decide +kernel
theorem d_p31_m1_8 : decode prog_31_method_1_code 8 = .ok (.invokestatic 9, 3) := by decide +kernel
theorem pd_3 : parseMethodDescriptor "(Ljava/lang/Object;Ljava/lang/String;)Ljava/lang/Object;" = some ⟨[(.object "java/lang/Object"), (.object "java/lang/String")], some (.object "java/lang/Object")⟩ := by decide +kernel
theorem d_p31_m1_11 : decode prog_31_method_1_code 11 = .ok (.checkcast 15, 3) := by decide +kernel
theorem d_p31_m1_14 : decode prog_31_method_1_code 14 = .ok (.putfield 17, 3) := by decide +kernel
theorem d_p31_m1_17 : decode prog_31_method_1_code 17 = .ok (.aload_n 0, 1) := by decide +kernel
theorem d_p31_m1_18 : decode prog_31_method_1_code 18 = .ok (.aload_n 2, 1) := by decide +kernel
theorem d_p31_m1_19 : decode prog_31_method_1_code 19 = .ok (.ldc 22, 2) := by decide +kernel
theorem d_p31_m1_21 : decode prog_31_method_1_code 21 = .ok (.invokestatic 9, 3) := by decide +kernel
theorem d_p31_m1_24 : decode prog_31_method_1_code 24 = .ok (.checkcast 15, 3) := by decide +kernel
theorem d_p31_m1_27 : decode prog_31_method_1_code 27 = .ok (.putfield 24, 3) := by decide +kernel
theorem d_p31_m1_30 : decode prog_31_method_1_code 30 = .ok (.return_, 1) := by decide +kernel
theorem pn_3 : plainName "com/example/lateral_guard/lateralguard/core/Flow" = true := by first | (simp [plainName, overriddenIn]; done) | decide +kernel
def Q_rm_init (Z : State) (f x tx : Addr) (kx : ClassId) (cx : List Int32) (y ty : Addr) (ky : ClassId) (cy : List Int32) (h0 : Heap) (n0 : Nat) (v : Option Value) (h : Heap) (L : List Loc) : Prop := v = none ∧ Fr n0 L ∧ Keep h0 h [f] ∧ Fld Z h f "com/example/lateral_guard/lateralguard/core/Flow" "from" "Ljava/lang/String;" (.ref x) ∧ Fld Z h f "com/example/lateral_guard/lateralguard/core/Flow" "to" "Ljava/lang/String;" (.ref y)
set_option maxRecDepth 65536 in
set_option maxHeartbeats 40000000 in
theorem rm_init (l : Launch) (Z : State) (a0 : Array Value) (hw : ∀ d ∈ tables_1, d.before a0 Z = true) (ws : List Jvm.Cond) (f x tx : Addr) (kx : ClassId) (cx : List Int32) (y ty : Addr) (ky : ClassId) (cy : List Int32) (h0 : Heap) (n0 : Nat) (O0 : Old Z n0 h0) (hEL : EW Z a0 consts_1) (E_f : Exa Z h0 f "com/example/lateral_guard/lateralguard/core/Flow") (F_from_f : Fld Z h0 f "com/example/lateral_guard/lateralguard/core/Flow" "from" "Ljava/lang/String;" .null) (F_to_f : Fld Z h0 f "com/example/lateral_guard/lateralguard/core/Flow" "to" "Ljava/lang/String;" .null) (g_f : n0 ≤ f) (T_x : Str Z h0 x tx kx cx) (T_y : Str Z h0 y ty ky cy) :
    MeetsS l (⟨"com/example/lateral_guard/lateralguard/core/Flow", "<init>", "(Ljava/lang/String;Ljava/lang/String;)V"⟩ : MethodName) prog_31_method_1_code 3 none ws ({ frames := 1, cells := 4, slots := 32, locals := 14 } : Room) Z consts_1 [f] #[(.ref f), (.ref x), (.ref y)] h0 (Q_rm_init Z f x tx kx cx y ty ky cy h0 n0) 4 32 := by
  refine enterS (Ls := #[.val (.ref f), .val (.ref x), .val (.ref y)]) (plainFor_of_name pn_3) (fun m => by first | (simp [entryFrame, mkF, argsToLocals, Value.category]; done) | rfl) ?_
  intro p e s m below meth c T0 hx hby hml hown hnm hret hlk hZ X0 e0 eS CH hS HS
  have N0 := Fr.nil n0
  replace hown : s.vm.findClass "com/example/lateral_guard/lateralguard/core/Flow" = some m.cls := hown
  show Run p e below _ (T0.setTop (mkF m 0 #[.val (.ref f), .val (.ref x), .val (.ref y)] []))
  have hk : h0.size ≤ h0.size := Nat.le_refl _
  have SF_f : Safe Z consts_1 s.vm h0 f := HS f (by simp)
  have K0 := Keep.refl h0 [f]
  refine go (fun _ => XS.aloadN X0.here hx rfl (hb hby d_p31_m1_0) rfl rfl) ?_
  show Run p e below _ (T0.setTop (mkF m 1 #[.val (.ref f), .val (.ref x), .val (.ref y)] [(.ref f)]))
  obtain ⟨T40, X40, e40, st40⟩ := initO X0 hx hZ hown (wd hw 35 rfl) (wd hw 22 rfl) (wd hw 23 rfl) e0 (g := (mkF m 1 #[.val (.ref f), .val (.ref x), .val (.ref y)] [(.ref f)])) rfl (by rw [hml]; rfl) rfl (hb hby d_p31_m1_1) (by decide) (W := 0) (by show 2 * 0 + _ ≤ _; exact Nat.le_of_eq rfl) (by decide)
  refine go st40 ?_
  show Run p e below _ (T40.setTop (mkF m 4 #[.val (.ref f), .val (.ref x), .val (.ref y)] []))
  refine go (fun _ => XS.aloadN X40.here hx rfl (hb hby d_p31_m1_4) rfl rfl) ?_
  show Run p e below _ (T40.setTop (mkF m 5 #[.val (.ref f), .val (.ref x), .val (.ref y)] [(.ref f)]))
  refine go (fun _ => XS.aloadN X40.here hx rfl (hb hby d_p31_m1_5) rfl rfl) ?_
  show Run p e below _ (T40.setTop (mkF m 6 #[.val (.ref f), .val (.ref x), .val (.ref y)] [(.ref x), (.ref f)]))
  have lt42_f := E_f.lt
  have lt42_x := T_x.1.lt
  have lt42_tx := T_x.2.2.2.lt
  have lt42_y := T_y.1.lt
  have lt42_ty := T_y.2.2.2.lt
  refine goLdc (text := "from") (ds := ([102, 114, 111, 109] : List Int32)) X40 hx hZ hown (wd hw 36 rfl) (fun d hd => hw d (subStr d hd)) e40 hS hk hEL (by decide) CH ⟨by decide, by decide⟩ (by decide) (by decide) (n := 16) (hb hby d_p31_m1_6) (by decide) (by decide) (by decide) (by decide) ?_
  intro b41 t41 kb41 T41 h41 k41 X41 e41 E41 hS hk hZ hown Ea41 Fc41 Fv41 Va41 CH' D41 sf41
  have SF_f := CHr.safe D41 lt42_f SF_f
  have O0 := O0.ext E41
  have E_f := E_f.ext E41
  have F_from_f := F_from_f.ext E41
  have F_to_f := F_to_f.ext E41
  have T_x := T_x.ext E41
  have T_y := T_y.ext E41
  have K0 := K0.ext E41
  have CH := CH'
  have T_b41 : Str Z h41 b41 t41 kb41 ([102, 114, 111, 109] : List Int32) := ⟨Ea41, Fv41, Fc41, Va41⟩
  have ne_f_b41 := (sf41 _ SF_f).1
  have ne_f_t41 := (sf41 _ SF_f).2
  show Run p e below _ (T41.setTop (mkF m 8 #[.val (.ref f), .val (.ref x), .val (.ref y)] [(.ref b41), (.ref x), (.ref f)]))
  refine callSt X41 hx hZ hown (wd hw 37 rfl) (wd hw 38 rfl) (wd hw 39 rfl) (wd hw 40 rfl) (by decide) e41 (argsL := [(.ref x), (.ref b41)]) (rest := [(.ref f)]) (rm_rnn l Z a0 hw [] x b41 h41 n0 O0) (W := 1) (by decide) (by decide) (by decide) (by decide) (by rw [hml]; rfl) (lenOf pd_3 rfl) rfl (Nat.le_of_eq rfl) (hb hby d_p31_m1_8) ?_
  intro v43 T43 L43 h43 X43 e43 q43
  obtain ⟨rv, n43, k43⟩ := q43
  replace rv : v43 = some (.ref x) := rv
  subst rv
  have e43 := e43.trans k43
  have N43 := Fr.app N0 n43
  show Run p e below _ (T43.setTop (mkF m 11 #[.val (.ref f), .val (.ref x), .val (.ref y)] [(.ref x), (.ref f)]))
  obtain ⟨T44, X44, e44, st44⟩ := castY X43 hx hZ hown (wd hw 41 rfl) e43 (Ins.self T_x.1) (g := (mkF m 11 #[.val (.ref f), .val (.ref x), .val (.ref y)] [(.ref x), (.ref f)])) rfl rfl (hb hby d_p31_m1_11)
  refine go st44 ?_
  show Run p e below _ (T44.setTop (mkF m 14 #[.val (.ref f), .val (.ref x), .val (.ref y)] [(.ref x), (.ref f)]))
  obtain ⟨T45, h45, X45, e45, W45, st45⟩ := putF X44 hx hZ hown (host := "") (Or.inl (wd hw 42 rfl)) Via.refl e44 F_from_f E_f (Or.inr ⟨(wd hw 43 rfl), rfl, hnm⟩) (wd hw 1 rfl) (ty := (.object "java/lang/String")) (by decide) rfl rfl (g := (mkF m 14 #[.val (.ref f), .val (.ref x), .val (.ref y)] [(.ref x), (.ref f)])) rfl rfl (hb hby d_p31_m1_14)
  have ne_x_f : x ≠ f := ne_exa T_x.1 E_f (by decide)
  have ne_tx_f : tx ≠ f := Ne.symm (Exa.neArv E_f T_x.2.2.2 (wd hw 1 rfl))
  have ne_y_f : y ≠ f := ne_exa T_y.1 E_f (by decide)
  have ne_ty_f : ty ≠ f := Ne.symm (Exa.neArv E_f T_y.2.2.2 (wd hw 1 rfl))
  have CHo := CH
  have SF_fo := SF_f
  have hk := Nat.le_trans hk (wr_sz W45)
  have SF_f := Safe.wr W45 SF_fo CHo.1 SF_fo
  have CH := CHo.trans (CHr.wr W45 SF_fo CHo.1)
  have O0 := O0.wr W45 g_f
  have E_f := E_f.wr W45
  have F_from_f := F_from_f.same W45
  have F_to_f := F_to_f.other W45 (Or.inr (slot_ne (Or.inr (wd hw 46 rfl)) (Or.inr (wd hw 43 rfl)) (by decide) (t := (.object "java/lang/String")) (t' := (.object "java/lang/String")) (by decide) (by decide)))
  have T_x := T_x.other W45 ne_x_f ne_tx_f
  have T_y := T_y.other W45 ne_y_f ne_ty_f
  have K0 := K0.wr W45 (Or.inl (by simp))
  have T_b41 := T_b41.other W45 (Ne.symm ne_f_b41) (Ne.symm ne_f_t41)
  have N45 := Fr.snoc X45 N43 g_f
  refine go st45 ?_
  show Run p e below _ (T45.setTop (mkF m 17 #[.val (.ref f), .val (.ref x), .val (.ref y)] []))
  refine go (fun _ => XS.aloadN X45.here hx rfl (hb hby d_p31_m1_17) rfl rfl) ?_
  show Run p e below _ (T45.setTop (mkF m 18 #[.val (.ref f), .val (.ref x), .val (.ref y)] [(.ref f)]))
  refine go (fun _ => XS.aloadN X45.here hx rfl (hb hby d_p31_m1_18) rfl rfl) ?_
  show Run p e below _ (T45.setTop (mkF m 19 #[.val (.ref f), .val (.ref x), .val (.ref y)] [(.ref y), (.ref f)]))
  have lt47_f := E_f.lt
  have lt47_x := T_x.1.lt
  have lt47_tx := T_x.2.2.2.lt
  have lt47_y := T_y.1.lt
  have lt47_ty := T_y.2.2.2.lt
  have lt47_b41 := T_b41.1.lt
  have lt47_t41 := T_b41.2.2.2.lt
  refine goLdc (text := "to") (ds := ([116, 111] : List Int32)) X45 hx hZ hown (wd hw 44 rfl) (fun d hd => hw d (subStr d hd)) e45 hS hk hEL (by decide) CH ⟨by decide, by decide⟩ (by decide) (by decide) (n := 8) (hb hby d_p31_m1_19) (by decide) (by decide) (by decide) (by decide) ?_
  intro b46 t46 kb46 T46 h46 k46 X46 e46 E46 hS hk hZ hown Ea46 Fc46 Fv46 Va46 CH' D46 sf46
  have SF_f := CHr.safe D46 lt47_f SF_f
  have O0 := O0.ext E46
  have E_f := E_f.ext E46
  have F_from_f := F_from_f.ext E46
  have F_to_f := F_to_f.ext E46
  have T_x := T_x.ext E46
  have T_y := T_y.ext E46
  have K0 := K0.ext E46
  have T_b41 := T_b41.ext E46
  have CH := CH'
  have T_b46 : Str Z h46 b46 t46 kb46 ([116, 111] : List Int32) := ⟨Ea46, Fv46, Fc46, Va46⟩
  have ne_f_b46 := (sf46 _ SF_f).1
  have ne_f_t46 := (sf46 _ SF_f).2
  show Run p e below _ (T46.setTop (mkF m 21 #[.val (.ref f), .val (.ref x), .val (.ref y)] [(.ref b46), (.ref y), (.ref f)]))
  refine callSt X46 hx hZ hown (wd hw 37 rfl) (wd hw 38 rfl) (wd hw 39 rfl) (wd hw 40 rfl) (by decide) e46 (argsL := [(.ref y), (.ref b46)]) (rest := [(.ref f)]) (rm_rnn l Z a0 hw [] y b46 h46 n0 O0) (W := 1) (by decide) (by decide) (by decide) (by decide) (by rw [hml]; rfl) (lenOf pd_3 rfl) rfl (Nat.le_of_eq rfl) (hb hby d_p31_m1_21) ?_
  intro v48 T48 L48 h48 X48 e48 q48
  obtain ⟨rv, n48, k48⟩ := q48
  replace rv : v48 = some (.ref y) := rv
  subst rv
  have e48 := e48.trans k48
  have N48 := Fr.app N45 n48
  show Run p e below _ (T48.setTop (mkF m 24 #[.val (.ref f), .val (.ref x), .val (.ref y)] [(.ref y), (.ref f)]))
  obtain ⟨T49, X49, e49, st49⟩ := castY X48 hx hZ hown (wd hw 41 rfl) e48 (Ins.self T_y.1) (g := (mkF m 24 #[.val (.ref f), .val (.ref x), .val (.ref y)] [(.ref y), (.ref f)])) rfl rfl (hb hby d_p31_m1_24)
  refine go st49 ?_
  show Run p e below _ (T49.setTop (mkF m 27 #[.val (.ref f), .val (.ref x), .val (.ref y)] [(.ref y), (.ref f)]))
  obtain ⟨T50, h50, X50, e50, W50, st50⟩ := putF X49 hx hZ hown (host := "") (Or.inl (wd hw 45 rfl)) Via.refl e49 F_to_f E_f (Or.inr ⟨(wd hw 46 rfl), rfl, hnm⟩) (wd hw 1 rfl) (ty := (.object "java/lang/String")) (by decide) rfl rfl (g := (mkF m 27 #[.val (.ref f), .val (.ref x), .val (.ref y)] [(.ref y), (.ref f)])) rfl rfl (hb hby d_p31_m1_27)
  have CHo := CH
  have SF_fo := SF_f
  have hk := Nat.le_trans hk (wr_sz W50)
  have SF_f := Safe.wr W50 SF_fo CHo.1 SF_fo
  have CH := CHo.trans (CHr.wr W50 SF_fo CHo.1)
  have O0 := O0.wr W50 g_f
  have E_f := E_f.wr W50
  have F_from_f := F_from_f.other W50 (Or.inr (slot_ne (Or.inr (wd hw 43 rfl)) (Or.inr (wd hw 46 rfl)) (by decide) (t := (.object "java/lang/String")) (t' := (.object "java/lang/String")) (by decide) (by decide)))
  have F_to_f := F_to_f.same W50
  have T_x := T_x.other W50 ne_x_f ne_tx_f
  have T_y := T_y.other W50 ne_y_f ne_ty_f
  have K0 := K0.wr W50 (Or.inl (by simp))
  have T_b41 := T_b41.other W50 (Ne.symm ne_f_b41) (Ne.symm ne_f_t41)
  have T_b46 := T_b46.other W50 (Ne.symm ne_f_b46) (Ne.symm ne_f_t46)
  have N50 := Fr.snoc X50 N48 g_f
  refine go st50 ?_
  show Run p e below _ (T50.setTop (mkF m 30 #[.val (.ref f), .val (.ref x), .val (.ref y)] []))
  exact endVS X50 hx hlk hZ hEL e50 eS CH hS hk hret (hb hby d_p31_m1_30) (by rw [e50]; exact ⟨rfl, N50, K0, F_from_f, F_to_f⟩) (by decide) (by decide)
def eqV (c1 c2 c3 c4 : List Int32) : Int32 := if c1 = c3 then (if c2 = c4 then 1 else 0) else 0
theorem ev_a {c1 c2 c3 c4 : List Int32} (h : (if c1 = c3 then (1 : Int32) else 0) = 0) : 0 = eqV c1 c2 c3 c4 := by unfold eqV; by_cases q : c1 = c3 <;> simp [q] at h ⊢
theorem ev_b {c1 c2 c3 c4 : List Int32} (h : ¬ (if c1 = c3 then (1 : Int32) else 0) = 0) (h2 : (if c2 = c4 then (1 : Int32) else 0) = 0) : 0 = eqV c1 c2 c3 c4 := by unfold eqV; by_cases q : c1 = c3 <;> by_cases q2 : c2 = c4 <;> simp [q, q2] at h h2 ⊢
theorem ev_c {c1 c2 c3 c4 : List Int32} (h : ¬ (if c1 = c3 then (1 : Int32) else 0) = 0) (h2 : ¬ (if c2 = c4 then (1 : Int32) else 0) = 0) : 1 = eqV c1 c2 c3 c4 := by unfold eqV; by_cases q : c1 = c3 <;> by_cases q2 : c2 = c4 <;> simp [q, q2] at h h2 ⊢
theorem ev_d {x1 x2 x3 x4 : Int32} (h : sameV x1 x3 = 0) : eqV (mkcs x1) (mkcs x2) (mkcs x3) (mkcs x4) = 0 := by unfold eqV; rw [if_neg (sv_z h)]
theorem ev_e {x1 x2 x3 x4 : Int32} (h : ¬ sameV x1 x3 = 0) (h2 : sameV x2 x4 = 0) : eqV (mkcs x1) (mkcs x2) (mkcs x3) (mkcs x4) = 0 := by unfold eqV; rw [if_pos (sv_nz h), if_neg (sv_z h2)]
theorem ev_f {x1 x2 x3 x4 : Int32} (h : ¬ sameV x1 x3 = 0) (h2 : ¬ sameV x2 x4 = 0) : eqV (mkcs x1) (mkcs x2) (mkcs x3) (mkcs x4) = 1 := by unfold eqV; rw [if_pos (sv_nz h), if_pos (sv_nz h2)]
theorem ev_g {c1 c2 : List Int32} : eqV c1 c2 c1 c2 = 1 := by unfold eqV; rw [if_pos rfl, if_pos rfl]
theorem d_p31_m4_0 : decode prog_31_method_4_code 0 = .ok (.aload_n 1, 1) := by decide +kernel
theorem d_p31_m4_1 : decode prog_31_method_4_code 1 = .ok (.instanceof 18, 3) := by decide +kernel
theorem d_p31_m4_4 : decode prog_31_method_4_code 4 = .ok (.ifCond .eq 40, 3) := by decide +kernel
theorem d_p31_m4_44 : decode prog_31_method_4_code 44 = .ok (.iconst 0, 1) := by decide +kernel
theorem d_p31_m4_45 : decode prog_31_method_4_code 45 = .ok (.ireturn, 1) := by decide +kernel
def Q_rm_eq0 (a : Addr) (h0 : Heap) (n0 : Nat) (v : Option Value) (h : Heap) (L : List Loc) : Prop := v = some (.int 0) ∧ Fr n0 L ∧ h = h0
set_option maxRecDepth 65536 in
set_option maxHeartbeats 40000000 in
theorem rm_eq0 (l : Launch) (Z : State) (a0 : Array Value) (hw : ∀ d ∈ tables_1, d.before a0 Z = true) (ws : List Jvm.Cond) (a : Addr) (h0 : Heap) (n0 : Nat) (O0 : Old Z n0 h0)  :
    Meets l (⟨"com/example/lateral_guard/lateralguard/core/Flow", "equals", "(Ljava/lang/Object;)Z"⟩ : MethodName) prog_31_method_4_code 3 (some .boolean) ws ({ frames := 0, cells := 0, slots := 0, locals := 0 } : Room) Z #[(.ref a), .null] h0 (Q_rm_eq0 a h0 n0) 0 0 := by
  refine enter (Ls := #[.val (.ref a), .val .null, .unset]) (plainFor_of_name pn_3) (fun m => by first | (simp [entryFrame, mkF, argsToLocals, Value.category]; done) | rfl) ?_
  intro p e s m below meth c T0 hx hby hml hown hnm hret hlk hZ X0 e0
  have N0 := Fr.nil n0
  replace hown : s.vm.findClass "com/example/lateral_guard/lateralguard/core/Flow" = some m.cls := hown
  show Run p e below _ (T0.setTop (mkF m 0 #[.val (.ref a), .val .null, .unset] []))
  refine go (fun _ => XS.aloadN X0.here hx rfl (hb hby d_p31_m4_0) rfl rfl) ?_
  show Run p e below _ (T0.setTop (mkF m 1 #[.val (.ref a), .val .null, .unset] [.null]))
  refine go (fun _ => X0.instanceofNull hx (g := (mkF m 1 #[.val (.ref a), .val .null, .unset] [.null])) rfl rfl (hb hby d_p31_m4_1) _) ?_
  show Run p e below _ (T0.setTop (mkF m 4 #[.val (.ref a), .val .null, .unset] [(.int (0 : Int32))]))
  refine go (fun _ => XS.ifYes X0.here hx rfl (pc0 := 4) (pc' := 44) rfl (hb hby d_p31_m4_4) rfl ((if0 _ _).trans (teq (by decide : (0 : Int32) = 0)).1) (by decide) (by decide)) ?_
  show Run p e below _ (T0.setTop (mkF m 44 #[.val (.ref a), .val .null, .unset] []))
  refine go (fun _ => XS.iconst X0.here hx rfl (hb hby d_p31_m4_44)) ?_
  show Run p e below _ (T0.setTop (mkF m 45 #[.val (.ref a), .val .null, .unset] [(.int (0 : Int32))]))
  exact endN X0 hx hlk (t := .boolean) hret (by simp) (hb hby d_p31_m4_45) (⟨rfl, N0, e0⟩) (by decide) (by decide)
def Q_rm_eq1 (a b : Addr) (h0 : Heap) (n0 : Nat) (v : Option Value) (h : Heap) (L : List Loc) : Prop := v = some (.int 0) ∧ Fr n0 L ∧ h = h0
set_option maxRecDepth 65536 in
set_option maxHeartbeats 40000000 in
theorem rm_eq1 (l : Launch) (Z : State) (a0 : Array Value) (hw : ∀ d ∈ tables_1, d.before a0 Z = true) (ws : List Jvm.Cond) (a b : Addr) (h0 : Heap) (n0 : Nat) (O0 : Old Z n0 h0) (E_b : Exa Z h0 b "java/lang/String") :
    Meets l (⟨"com/example/lateral_guard/lateralguard/core/Flow", "equals", "(Ljava/lang/Object;)Z"⟩ : MethodName) prog_31_method_4_code 3 (some .boolean) ws ({ frames := 0, cells := 0, slots := 0, locals := 0 } : Room) Z #[(.ref a), (.ref b)] h0 (Q_rm_eq1 a b h0 n0) 0 0 := by
  refine enter (Ls := #[.val (.ref a), .val (.ref b), .unset]) (plainFor_of_name pn_3) (fun m => by first | (simp [entryFrame, mkF, argsToLocals, Value.category]; done) | rfl) ?_
  intro p e s m below meth c T0 hx hby hml hown hnm hret hlk hZ X0 e0
  have N0 := Fr.nil n0
  replace hown : s.vm.findClass "com/example/lateral_guard/lateralguard/core/Flow" = some m.cls := hown
  show Run p e below _ (T0.setTop (mkF m 0 #[.val (.ref a), .val (.ref b), .unset] []))
  refine go (fun _ => XS.aloadN X0.here hx rfl (hb hby d_p31_m4_0) rfl rfl) ?_
  show Run p e below _ (T0.setTop (mkF m 1 #[.val (.ref a), .val (.ref b), .unset] [(.ref b)]))
  obtain ⟨T52, X52, e52, st52⟩ := instNo X0 hx hZ hown (wd hw 55 rfl) e0 E_b (ns_no (wd hw 78 rfl) (wd hw 1 rfl) (NS.step (wd hw 78 rfl) (ns_root (wd hw 79 rfl) (wd hw 1 rfl) (by decide)) (by decide)) (by decide)) (g := (mkF m 1 #[.val (.ref a), .val (.ref b), .unset] [(.ref b)])) rfl rfl (hb hby d_p31_m4_1)
  refine go st52 ?_
  show Run p e below _ (T52.setTop (mkF m 4 #[.val (.ref a), .val (.ref b), .unset] [(.int (0 : Int32))]))
  refine go (fun _ => XS.ifYes X52.here hx rfl (pc0 := 4) (pc' := 44) rfl (hb hby d_p31_m4_4) rfl ((if0 _ _).trans (teq (by decide : (0 : Int32) = 0)).1) (by decide) (by decide)) ?_
  show Run p e below _ (T52.setTop (mkF m 44 #[.val (.ref a), .val (.ref b), .unset] []))
  refine go (fun _ => XS.iconst X52.here hx rfl (hb hby d_p31_m4_44)) ?_
  show Run p e below _ (T52.setTop (mkF m 45 #[.val (.ref a), .val (.ref b), .unset] [(.int (0 : Int32))]))
  exact endN X52 hx hlk (t := .boolean) hret (by simp) (hb hby d_p31_m4_45) (⟨rfl, N0, e52⟩) (by decide) (by decide)
theorem d_p31_m4_7 : decode prog_31_method_4_code 7 = .ok (.aload_n 1, 1) := by decide +kernel
theorem d_p31_m4_8 : decode prog_31_method_4_code 8 = .ok (.checkcast 18, 3) := by decide +kernel
theorem d_p31_m4_11 : decode prog_31_method_4_code 11 = .ok (.astore_n 2, 1) := by decide +kernel
theorem d_p31_m4_12 : decode prog_31_method_4_code 12 = .ok (.aload_n 0, 1) := by decide +kernel
theorem d_p31_m4_13 : decode prog_31_method_4_code 13 = .ok (.getfield 17, 3) := by decide +kernel
theorem d_p31_m4_16 : decode prog_31_method_4_code 16 = .ok (.aload_n 2, 1) := by decide +kernel
theorem d_p31_m4_17 : decode prog_31_method_4_code 17 = .ok (.getfield 17, 3) := by decide +kernel
theorem d_p31_m4_20 : decode prog_31_method_4_code 20 = .ok (.invokevirtual 26, 3) := by decide +kernel
theorem pd_4 : parseMethodDescriptor "(Ljava/lang/Object;)Z" = some ⟨[(.object "java/lang/Object")], some .boolean⟩ := by decide +kernel
theorem d_p31_m4_23 : decode prog_31_method_4_code 23 = .ok (.ifCond .eq 21, 3) := by decide +kernel
theorem d_p31_m4_26 : decode prog_31_method_4_code 26 = .ok (.aload_n 0, 1) := by decide +kernel
theorem d_p31_m4_27 : decode prog_31_method_4_code 27 = .ok (.getfield 24, 3) := by decide +kernel
theorem d_p31_m4_30 : decode prog_31_method_4_code 30 = .ok (.aload_n 2, 1) := by decide +kernel
theorem d_p31_m4_31 : decode prog_31_method_4_code 31 = .ok (.getfield 24, 3) := by decide +kernel
theorem d_p31_m4_34 : decode prog_31_method_4_code 34 = .ok (.invokevirtual 26, 3) := by decide +kernel
theorem d_p31_m4_37 : decode prog_31_method_4_code 37 = .ok (.ifCond .eq 7, 3) := by decide +kernel
theorem d_p31_m4_40 : decode prog_31_method_4_code 40 = .ok (.iconst 1, 1) := by decide +kernel
theorem d_p31_m4_41 : decode prog_31_method_4_code 41 = .ok (.goto 4, 3) := by decide +kernel
def Q_rm_eq2 (zc : Int32) (a b : Addr) (x1 t1 : Addr) (kb1 : ClassId) (c1 : List Int32) (x2 t2 : Addr) (kb2 : ClassId) (c2 : List Int32) (x3 t3 : Addr) (kb3 : ClassId) (c3 : List Int32) (x4 t4 : Addr) (kb4 : ClassId) (c4 : List Int32) (h0 : Heap) (n0 : Nat) (v : Option Value) (h : Heap) (L : List Loc) : Prop := v = some (.int (eqV c1 c2 c3 c4)) ∧ Fr n0 L ∧ h = h0
set_option maxRecDepth 65536 in
set_option maxHeartbeats 40000000 in
theorem rm_eq2 (l : Launch) (Z : State) (a0 : Array Value) (hw : ∀ d ∈ tables_1, d.before a0 Z = true) (ws : List Jvm.Cond) (zc : Int32) (a b : Addr) (x1 t1 : Addr) (kb1 : ClassId) (c1 : List Int32) (x2 t2 : Addr) (kb2 : ClassId) (c2 : List Int32) (x3 t3 : Addr) (kb3 : ClassId) (c3 : List Int32) (x4 t4 : Addr) (kb4 : ClassId) (c4 : List Int32) (h0 : Heap) (n0 : Nat) (O0 : Old Z n0 h0) (S_COMPACT_STRINGS : Sta Z Z.heap "java/lang/String" "COMPACT_STRINGS" "Z" (.int zc)) (hzc : ¬ zc = 0) (E_a : Exa Z h0 a "com/example/lateral_guard/lateralguard/core/Flow") (F_from_a : Fld Z h0 a "com/example/lateral_guard/lateralguard/core/Flow" "from" "Ljava/lang/String;" (.ref x1)) (F_to_a : Fld Z h0 a "com/example/lateral_guard/lateralguard/core/Flow" "to" "Ljava/lang/String;" (.ref x2)) (E_b : Exa Z h0 b "com/example/lateral_guard/lateralguard/core/Flow") (F_from_b : Fld Z h0 b "com/example/lateral_guard/lateralguard/core/Flow" "from" "Ljava/lang/String;" (.ref x3)) (F_to_b : Fld Z h0 b "com/example/lateral_guard/lateralguard/core/Flow" "to" "Ljava/lang/String;" (.ref x4)) (T_x1 : Str Z h0 x1 t1 kb1 c1) (T_x2 : Str Z h0 x2 t2 kb2 c2) (T_x3 : Str Z h0 x3 t3 kb3 c3) (T_x4 : Str Z h0 x4 t4 kb4 c4) (H1 : In8 c1) (lx1 : c1.length ≤ 4000) (H2 : In8 c2) (lx2 : c2.length ≤ 4000) (H3 : In8 c3) (lx3 : c3.length ≤ 4000) (H4 : In8 c4) (lx4 : c4.length ≤ 4000) :
    Meets l (⟨"com/example/lateral_guard/lateralguard/core/Flow", "equals", "(Ljava/lang/Object;)Z"⟩ : MethodName) prog_31_method_4_code 3 (some .boolean) ws ({ frames := 2, cells := 0, slots := 0, locals := 28 } : Room) Z #[(.ref a), (.ref b)] h0 (Q_rm_eq2 zc a b x1 t1 kb1 c1 x2 t2 kb2 c2 x3 t3 kb3 c3 x4 t4 kb4 c4 h0 n0) 0 0 := by
  refine enter (Ls := #[.val (.ref a), .val (.ref b), .unset]) (plainFor_of_name pn_3) (fun m => by first | (simp [entryFrame, mkF, argsToLocals, Value.category]; done) | rfl) ?_
  intro p e s m below meth c T0 hx hby hml hown hnm hret hlk hZ X0 e0
  have N0 := Fr.nil n0
  replace hown : s.vm.findClass "com/example/lateral_guard/lateralguard/core/Flow" = some m.cls := hown
  show Run p e below _ (T0.setTop (mkF m 0 #[.val (.ref a), .val (.ref b), .unset] []))
  refine go (fun _ => XS.aloadN X0.here hx rfl (hb hby d_p31_m4_0) rfl rfl) ?_
  show Run p e below _ (T0.setTop (mkF m 1 #[.val (.ref a), .val (.ref b), .unset] [(.ref b)]))
  obtain ⟨T53, X53, e53, st53⟩ := instY X0 hx hZ hown (wd hw 55 rfl) e0 (Ins.self E_b) (g := (mkF m 1 #[.val (.ref a), .val (.ref b), .unset] [(.ref b)])) rfl rfl (hb hby d_p31_m4_1)
  refine go st53 ?_
  show Run p e below _ (T53.setTop (mkF m 4 #[.val (.ref a), .val (.ref b), .unset] [(.int (1 : Int32))]))
  refine go (fun _ => XS.ifNo X53.here hx rfl (hb hby d_p31_m4_4) rfl ((if0 _ _).trans (feq (by decide : ¬ ((1 : Int32) = 0))).1)) ?_
  show Run p e below _ (T53.setTop (mkF m 7 #[.val (.ref a), .val (.ref b), .unset] []))
  refine go (fun _ => XS.aloadN X53.here hx rfl (hb hby d_p31_m4_7) rfl rfl) ?_
  show Run p e below _ (T53.setTop (mkF m 8 #[.val (.ref a), .val (.ref b), .unset] [(.ref b)]))
  obtain ⟨T54, X54, e54, st54⟩ := castY X53 hx hZ hown (wd hw 55 rfl) e53 (Ins.self E_b) (g := (mkF m 8 #[.val (.ref a), .val (.ref b), .unset] [(.ref b)])) rfl rfl (hb hby d_p31_m4_8)
  refine go st54 ?_
  show Run p e below _ (T54.setTop (mkF m 11 #[.val (.ref a), .val (.ref b), .unset] [(.ref b)]))
  refine go (fun _ => XS.astoreN X54.here hx rfl (hb hby d_p31_m4_11) rfl rfl (l' := #[.val (.ref a), .val (.ref b), .val (.ref b)]) rfl) ?_
  show Run p e below _ (T54.setTop (mkF m 12 #[.val (.ref a), .val (.ref b), .val (.ref b)] []))
  refine go (fun _ => XS.aloadN X54.here hx rfl (hb hby d_p31_m4_12) rfl rfl) ?_
  show Run p e below _ (T54.setTop (mkF m 13 #[.val (.ref a), .val (.ref b), .val (.ref b)] [(.ref a)]))
  obtain ⟨T55, X55, e55, st55⟩ := getF X54 hx hZ hown (host := "") (Or.inl (wd hw 42 rfl)) Via.refl e54 F_from_a (g := (mkF m 13 #[.val (.ref a), .val (.ref b), .val (.ref b)] [(.ref a)])) rfl rfl (hb hby d_p31_m4_13)
  refine go st55 ?_
  show Run p e below _ (T55.setTop (mkF m 16 #[.val (.ref a), .val (.ref b), .val (.ref b)] [(.ref x1)]))
  refine go (fun _ => XS.aloadN X55.here hx rfl (hb hby d_p31_m4_16) rfl rfl) ?_
  show Run p e below _ (T55.setTop (mkF m 17 #[.val (.ref a), .val (.ref b), .val (.ref b)] [(.ref b), (.ref x1)]))
  obtain ⟨T56, X56, e56, st56⟩ := getF X55 hx hZ hown (host := "") (Or.inl (wd hw 42 rfl)) Via.refl e55 F_from_b (g := (mkF m 17 #[.val (.ref a), .val (.ref b), .val (.ref b)] [(.ref b), (.ref x1)])) rfl rfl (hb hby d_p31_m4_17)
  refine go st56 ?_
  show Run p e below _ (T56.setTop (mkF m 20 #[.val (.ref a), .val (.ref b), .val (.ref b)] [(.ref x3), (.ref x1)]))
  refine callViK X56 hx hZ hown (wd hw 57 rfl) (wd hw 58 rfl) (notFace_of_selects (args := #[]) (mvT hZ (wd hw 60 rfl))) (wd hw 60 rfl) (wd hw 59 rfl) (by decide) e56 T_x1.1 (argsL := [(.ref x3)]) (rest := []) (W := 0) (payEq (n0 := n0) hZ hw (wd hw 11 rfl) O0 T_x1 H1 lx1 T_x3 H3 lx3 S_COMPACT_STRINGS hzc (by decide) (by decide)) (by decide) (by decide) (by rw [hml]; rfl) (lenOf pd_4 rfl) rfl (Nat.le_of_eq rfl) (hb hby d_p31_m4_20) ?_
  intro v57 T57 L57 h57 X57 e57 q57
  obtain ⟨rv, n57, k57⟩ := q57
  replace rv : v57 = some (.int (if c1 = c3 then (1 : Int32) else 0)) := rv
  subst rv
  have e57 := e57.trans k57
  have N57 := Fr.app N0 n57
  show Run p e below _ (T57.setTop (mkF m 23 #[.val (.ref a), .val (.ref b), .val (.ref b)] [(.int (if c1 = c3 then (1 : Int32) else 0))]))
  by_cases c58 : (if c1 = c3 then (1 : Int32) else 0) = 0
  · skip
    refine go (fun _ => XS.ifYes X57.here hx rfl (pc0 := 23) (pc' := 44) rfl (hb hby d_p31_m4_23) rfl ((if0 _ _).trans (teq c58).1) (by decide) (by decide)) ?_
    show Run p e below _ (T57.setTop (mkF m 44 #[.val (.ref a), .val (.ref b), .val (.ref b)] []))
    refine go (fun _ => XS.iconst X57.here hx rfl (hb hby d_p31_m4_44)) ?_
    show Run p e below _ (T57.setTop (mkF m 45 #[.val (.ref a), .val (.ref b), .val (.ref b)] [(.int (0 : Int32))]))
    exact endN X57 hx hlk (t := .boolean) hret (by simp) (hb hby d_p31_m4_45) (⟨congrArg (fun z => some (Value.int z)) (ev_a c58), N57, e57⟩) (by decide) (by decide)
  · skip
    refine go (fun _ => XS.ifNo X57.here hx rfl (hb hby d_p31_m4_23) rfl ((if0 _ _).trans (feq c58).1)) ?_
    show Run p e below _ (T57.setTop (mkF m 26 #[.val (.ref a), .val (.ref b), .val (.ref b)] []))
    refine go (fun _ => XS.aloadN X57.here hx rfl (hb hby d_p31_m4_26) rfl rfl) ?_
    show Run p e below _ (T57.setTop (mkF m 27 #[.val (.ref a), .val (.ref b), .val (.ref b)] [(.ref a)]))
    obtain ⟨T59, X59, e59, st59⟩ := getF X57 hx hZ hown (host := "") (Or.inl (wd hw 45 rfl)) Via.refl e57 F_to_a (g := (mkF m 27 #[.val (.ref a), .val (.ref b), .val (.ref b)] [(.ref a)])) rfl rfl (hb hby d_p31_m4_27)
    refine go st59 ?_
    show Run p e below _ (T59.setTop (mkF m 30 #[.val (.ref a), .val (.ref b), .val (.ref b)] [(.ref x2)]))
    refine go (fun _ => XS.aloadN X59.here hx rfl (hb hby d_p31_m4_30) rfl rfl) ?_
    show Run p e below _ (T59.setTop (mkF m 31 #[.val (.ref a), .val (.ref b), .val (.ref b)] [(.ref b), (.ref x2)]))
    obtain ⟨T60, X60, e60, st60⟩ := getF X59 hx hZ hown (host := "") (Or.inl (wd hw 45 rfl)) Via.refl e59 F_to_b (g := (mkF m 31 #[.val (.ref a), .val (.ref b), .val (.ref b)] [(.ref b), (.ref x2)])) rfl rfl (hb hby d_p31_m4_31)
    refine go st60 ?_
    show Run p e below _ (T60.setTop (mkF m 34 #[.val (.ref a), .val (.ref b), .val (.ref b)] [(.ref x4), (.ref x2)]))
    refine callViK X60 hx hZ hown (wd hw 57 rfl) (wd hw 58 rfl) (notFace_of_selects (args := #[]) (mvT hZ (wd hw 60 rfl))) (wd hw 60 rfl) (wd hw 59 rfl) (by decide) e60 T_x2.1 (argsL := [(.ref x4)]) (rest := []) (W := 0) (payEq (n0 := n0) hZ hw (wd hw 11 rfl) O0 T_x2 H2 lx2 T_x4 H4 lx4 S_COMPACT_STRINGS hzc (by decide) (by decide)) (by decide) (by decide) (by rw [hml]; rfl) (lenOf pd_4 rfl) rfl (Nat.le_of_eq rfl) (hb hby d_p31_m4_34) ?_
    intro v61 T61 L61 h61 X61 e61 q61
    obtain ⟨rv, n61, k61⟩ := q61
    replace rv : v61 = some (.int (if c2 = c4 then (1 : Int32) else 0)) := rv
    subst rv
    have e61 := e61.trans k61
    have N61 := Fr.app N57 n61
    show Run p e below _ (T61.setTop (mkF m 37 #[.val (.ref a), .val (.ref b), .val (.ref b)] [(.int (if c2 = c4 then (1 : Int32) else 0))]))
    by_cases c62 : (if c2 = c4 then (1 : Int32) else 0) = 0
    · skip
      refine go (fun _ => XS.ifYes X61.here hx rfl (pc0 := 37) (pc' := 44) rfl (hb hby d_p31_m4_37) rfl ((if0 _ _).trans (teq c62).1) (by decide) (by decide)) ?_
      show Run p e below _ (T61.setTop (mkF m 44 #[.val (.ref a), .val (.ref b), .val (.ref b)] []))
      refine go (fun _ => XS.iconst X61.here hx rfl (hb hby d_p31_m4_44)) ?_
      show Run p e below _ (T61.setTop (mkF m 45 #[.val (.ref a), .val (.ref b), .val (.ref b)] [(.int (0 : Int32))]))
      exact endN X61 hx hlk (t := .boolean) hret (by simp) (hb hby d_p31_m4_45) (⟨congrArg (fun z => some (Value.int z)) (ev_b c58 c62), N61, e61⟩) (by decide) (by decide)
    · skip
      refine go (fun _ => XS.ifNo X61.here hx rfl (hb hby d_p31_m4_37) rfl ((if0 _ _).trans (feq c62).1)) ?_
      show Run p e below _ (T61.setTop (mkF m 40 #[.val (.ref a), .val (.ref b), .val (.ref b)] []))
      refine go (fun _ => XS.iconst X61.here hx rfl (hb hby d_p31_m4_40)) ?_
      show Run p e below _ (T61.setTop (mkF m 41 #[.val (.ref a), .val (.ref b), .val (.ref b)] [(.int (1 : Int32))]))
      refine go (fun _ => XS.goto X61.here hx rfl (pc0 := 41) (pc' := 45) rfl (hb hby d_p31_m4_41) (by decide) (by decide)) ?_
      show Run p e below _ (T61.setTop (mkF m 45 #[.val (.ref a), .val (.ref b), .val (.ref b)] [(.int (1 : Int32))]))
      exact endN X61 hx hlk (t := .boolean) hret (by simp) (hb hby d_p31_m4_45) (⟨congrArg (fun z => some (Value.int z)) (ev_c c58 c62), N61, e61⟩) (by decide) (by decide)
theorem pd_5 : parseMethodDescriptor "(I)Ljava/lang/String;" = some ⟨[.int], some (.object "java/lang/String")⟩ := by decide +kernel
theorem pd_6 : parseMethodDescriptor "(Ljava/lang/String;Ljava/lang/String;)V" = some ⟨[(.object "java/lang/String"), (.object "java/lang/String")], none⟩ := by decide +kernel
theorem pd_7 : parseMethodDescriptor "(II)Z" = some ⟨[.int, .int], some .boolean⟩ := by decide +kernel
def Q_rmlaw (p0 p1 p2 p3 p4 : Int32) (zc : Int32) (h0 : Heap) (n0 : Nat) (v : Option Value) (h : Heap) (L : List Loc) : Prop := v = some (.int 1) ∧ Fr n0 L
set_option maxRecDepth 65536 in
set_option maxHeartbeats 40000000 in
theorem rmlaw (l : Launch) (Z : State) (a0 : Array Value) (hw : ∀ d ∈ tables_1, d.before a0 Z = true) (ws : List Jvm.Cond) (p0 p1 p2 p3 p4 : Int32) (zc : Int32) (h0 : Heap) (n0 : Nat) (O0 : Old Z n0 h0) (hEL : EW Z a0 consts_1) (S_COMPACT_STRINGS : Sta Z Z.heap "java/lang/String" "COMPACT_STRINGS" "Z" (.int zc)) (hzc : ¬ zc = 0) :
    MeetsS l x code maxLocals ret ws room_1 Z consts_1 [] #[(.int p0), (.int p1), (.int p2), (.int p3), (.int p4)] h0 (Q_rmlaw p0 p1 p2 p3 p4 zc h0 n0) 40 3264 := by
  refine enterS (Ls := #[.val (.int p0), .val (.int p1), .val (.int p2), .val (.int p3), .val (.int p4), .unset, .unset, .unset, .unset]) (plainFor_of_name pn_1) (fun m => by first | (simp [entryFrame, mkF, argsToLocals, Value.category, maxLocals]; done) | rfl) ?_
  intro p e s m below meth c T0 hx hby hml hown hnm hret hlk hZ X0 e0 eS CH hS HS
  have N0 := Fr.nil n0
  replace hown : s.vm.findClass "com/example/lateral_guard/lateralguard/core/FlowEqualsPinLaw" = some m.cls := hown
  show Run p e below _ (T0.setTop (mkF m 0 #[.val (.int p0), .val (.int p1), .val (.int p2), .val (.int p3), .val (.int p4), .unset, .unset, .unset, .unset] []))
  have hk : h0.size ≤ h0.size := Nat.le_refl _
  obtain ⟨T63, h63, X63, e63, E63, A63, D63, -, st63⟩ := newO X0 hx hZ hown (wd hw 0 rfl) (wd hw 1 rfl) (wd hw 2 rfl) e0 (g := (mkF m 0 #[.val (.int p0), .val (.int p1), .val (.int p2), .val (.int p3), .val (.int p4), .unset, .unset, .unset, .unset] [])) rfl (hb hby at_0) (by decide) (by decide)
  obtain ⟨b63, y63⟩ : ∃ z, z = h0.size := ⟨_, rfl⟩
  rw [← y63] at A63 D63 st63
  have g_b63 : n0 ≤ b63 := y63.symm ▸ old_sz O0
  have SF_b63 : Safe Z consts_1 s.vm h0 b63 := Safe.new (Nat.le_of_eq y63.symm)
  have CHo := CH
  have SF_b63o := SF_b63
  have hk := Nat.le_trans hk E63.1
  have O0 := O0.ext E63
  have SF_b63 := Safe.ext E63 CHo.1 SF_b63o
  have CH := CHo.trans (CHr.ext E63 CHo.1)
  have E_b63 := A63
  have F_from_b63 : Fld Z h63 b63 "com/example/lateral_guard/lateralguard/core/Flow" "from" "Ljava/lang/String;" .null := D63 (Or.inr (wd hw 43 rfl)) (ty := (.object "java/lang/String")) (by decide)
  have F_to_b63 : Fld Z h63 b63 "com/example/lateral_guard/lateralguard/core/Flow" "to" "Ljava/lang/String;" .null := D63 (Or.inr (wd hw 46 rfl)) (ty := (.object "java/lang/String")) (by decide)
  refine go st63 ?_
  show Run p e below _ (T63.setTop (mkF m 3 #[.val (.int p0), .val (.int p1), .val (.int p2), .val (.int p3), .val (.int p4), .unset, .unset, .unset, .unset] [(.ref b63)]))
  refine go (fun _ => XS.dup X63.here hx rfl (hb hby at_3) rfl rfl) ?_
  show Run p e below _ (T63.setTop (mkF m 4 #[.val (.int p0), .val (.int p1), .val (.int p2), .val (.int p3), .val (.int p4), .unset, .unset, .unset, .unset] [(.ref b63), (.ref b63)]))
  refine go (fun _ => XS.iloadN X63.here hx rfl (hb hby at_4) rfl) ?_
  show Run p e below _ (T63.setTop (mkF m 5 #[.val (.int p0), .val (.int p1), .val (.int p2), .val (.int p3), .val (.int p4), .unset, .unset, .unset, .unset] [(.int p0), (.ref b63), (.ref b63)]))
  refine callStS X63 hx hZ hown (wd hw 3 rfl) (wd hw 4 rfl) (wd hw 5 rfl) (wd hw 6 rfl) (by decide) e63 hS hk hEL CH (argsL := [(.int p0)]) (rest := [(.ref b63), (.ref b63)]) all0 (rm_mk l Z a0 hw [] p0 zc h63 n0 O0 hEL S_COMPACT_STRINGS hzc) (W := 2) (by decide) (by decide) (by decide) (by decide) (by rw [hml]; rfl) (lenOf pd_5 rfl) rfl (Nat.le_of_eq rfl) (hb hby at_5) ?_
  intro v64 T64 L64 h64 k64 X64 e64 hS hk hZ hown CH' D64 q64
  have lt65_b63 := E_b63.lt
  have SF_b63 := CHr.safe D64 lt65_b63 SF_b63
  obtain ⟨x64, t64, kb64, rfl, n64, K64, T_x64⟩ := q64
  have O0 := O0.keep K64 all0
  have E_b63 := E_b63.keep K64
  have F_from_b63 := F_from_b63.keep K64 nin0
  have F_to_b63 := F_to_b63.keep K64 nin0
  have N64 := Fr.app N0 n64
  have CH := CH'
  show Run p e below _ (T64.setTop (mkF m 8 #[.val (.int p0), .val (.int p1), .val (.int p2), .val (.int p3), .val (.int p4), .unset, .unset, .unset, .unset] [(.ref x64), (.ref b63), (.ref b63)]))
  refine go (fun _ => XS.iloadN X64.here hx rfl (hb hby at_8) rfl) ?_
  show Run p e below _ (T64.setTop (mkF m 9 #[.val (.int p0), .val (.int p1), .val (.int p2), .val (.int p3), .val (.int p4), .unset, .unset, .unset, .unset] [(.int p1), (.ref x64), (.ref b63), (.ref b63)]))
  refine callStS X64 hx hZ hown (wd hw 3 rfl) (wd hw 4 rfl) (wd hw 5 rfl) (wd hw 6 rfl) (by decide) e64 hS hk hEL CH (argsL := [(.int p1)]) (rest := [(.ref x64), (.ref b63), (.ref b63)]) all0 (rm_mk l Z a0 hw [] p1 zc h64 n0 O0 hEL S_COMPACT_STRINGS hzc) (W := 3) (by decide) (by decide) (by decide) (by decide) (by rw [hml]; rfl) (lenOf pd_5 rfl) rfl (Nat.le_of_eq rfl) (hb hby at_9) ?_
  intro v66 T66 L66 h66 k66 X66 e66 hS hk hZ hown CH' D66 q66
  have lt67_b63 := E_b63.lt
  have lt67_x64 := T_x64.1.lt
  have lt67_t64 := T_x64.2.2.2.lt
  have SF_b63 := CHr.safe D66 lt67_b63 SF_b63
  obtain ⟨x66, t66, kb66, rfl, n66, K66, T_x66⟩ := q66
  have O0 := O0.keep K66 all0
  have E_b63 := E_b63.keep K66
  have F_from_b63 := F_from_b63.keep K66 nin0
  have F_to_b63 := F_to_b63.keep K66 nin0
  have T_x64 := T_x64.keep K66 nin0 nin0
  have N66 := Fr.app N64 n66
  have CH := CH'
  show Run p e below _ (T66.setTop (mkF m 12 #[.val (.int p0), .val (.int p1), .val (.int p2), .val (.int p3), .val (.int p4), .unset, .unset, .unset, .unset] [(.ref x66), (.ref x64), (.ref b63), (.ref b63)]))
  refine callSpS rfl X66 hx hZ hown (wd hw 32 rfl) (wd hw 33 rfl) (wd hw 34 rfl) (wd hw 2 rfl) (by decide) e66 hS hk hEL CH (a := b63) (argsL := [(.ref x64), (.ref x66)]) (rest := [(.ref b63)]) (allS ⟨E_b63.lt, SF_b63⟩ all0) (rm_init l Z a0 hw [] b63 x64 t64 kb64 (mkcs p0) x66 t66 kb66 (mkcs p1) h66 n0 O0 hEL E_b63 F_from_b63 F_to_b63 g_b63 T_x64 T_x66) (W := 1) (by decide) (by decide) (by decide) (by decide) (by rw [hml]; rfl) (lenOf pd_6 rfl) rfl (Nat.le_of_eq rfl) (hb hby at_12) ?_
  intro v68 T68 L68 h68 k68 X68 e68 hS hk hZ hown CH' D68 q68
  have lt69_b63 := E_b63.lt
  have lt69_x64 := T_x64.1.lt
  have lt69_t64 := T_x64.2.2.2.lt
  have lt69_x66 := T_x66.1.lt
  have lt69_t66 := T_x66.2.2.2.lt
  have SF_b63 := CHr.safe D68 lt69_b63 SF_b63
  have ne_x64_b63 : x64 ≠ b63 := ne_exa T_x64.1 E_b63 (by decide)
  have ne_t64_b63 : t64 ≠ b63 := Ne.symm (Exa.neArv E_b63 T_x64.2.2.2 (wd hw 1 rfl))
  have ne_x66_b63 : x66 ≠ b63 := ne_exa T_x66.1 E_b63 (by decide)
  have ne_t66_b63 : t66 ≠ b63 := Ne.symm (Exa.neArv E_b63 T_x66.2.2.2 (wd hw 1 rfl))
  obtain ⟨rfl, n68, K68, F_from_b63, F_to_b63⟩ := q68
  have O0 := O0.keep K68 (allS g_b63 all0)
  have E_b63 := E_b63.keep K68
  have T_x64 := T_x64.keep K68 (ninS ne_x64_b63 nin0) (ninS ne_t64_b63 nin0)
  have T_x66 := T_x66.keep K68 (ninS ne_x66_b63 nin0) (ninS ne_t66_b63 nin0)
  have N68 := Fr.app N66 n68
  have CH := CH'
  show Run p e below _ (T68.setTop (mkF m 15 #[.val (.int p0), .val (.int p1), .val (.int p2), .val (.int p3), .val (.int p4), .unset, .unset, .unset, .unset] [(.ref b63)]))
  refine go (fun _ => XS.astore X68.here hx rfl (hb hby at_15) rfl rfl (l' := #[.val (.int p0), .val (.int p1), .val (.int p2), .val (.int p3), .val (.int p4), .val (.ref b63), .unset, .unset, .unset]) rfl) ?_
  show Run p e below _ (T68.setTop (mkF m 17 #[.val (.int p0), .val (.int p1), .val (.int p2), .val (.int p3), .val (.int p4), .val (.ref b63), .unset, .unset, .unset] []))
  refine go (fun _ => XS.iload X68.here hx rfl (hb hby at_17) rfl) ?_
  show Run p e below _ (T68.setTop (mkF m 19 #[.val (.int p0), .val (.int p1), .val (.int p2), .val (.int p3), .val (.int p4), .val (.ref b63), .unset, .unset, .unset] [(.int p4)]))
  refine go (fun _ => XS.iconst X68.here hx rfl (hb hby at_19)) ?_
  show Run p e below _ (T68.setTop (mkF m 20 #[.val (.int p0), .val (.int p1), .val (.int p2), .val (.int p3), .val (.int p4), .val (.ref b63), .unset, .unset, .unset] [(.int (3 : Int32)), (.int p4)]))
  refine go (fun _ => XS.iand X68.here hx rfl (hb hby at_20) rfl) ?_
  show Run p e below _ (T68.setTop (mkF m 21 #[.val (.int p0), .val (.int p1), .val (.int p2), .val (.int p3), .val (.int p4), .val (.ref b63), .unset, .unset, .unset] [(.int (p4 &&& (3 : Int32)))]))
  refine go (fun _ => XS.istore X68.here hx rfl (hb hby at_21) rfl (l' := #[.val (.int p0), .val (.int p1), .val (.int p2), .val (.int p3), .val (.int p4), .val (.ref b63), .val (.int (p4 &&& (3 : Int32))), .unset, .unset]) rfl) ?_
  show Run p e below _ (T68.setTop (mkF m 23 #[.val (.int p0), .val (.int p1), .val (.int p2), .val (.int p3), .val (.int p4), .val (.ref b63), .val (.int (p4 &&& (3 : Int32))), .unset, .unset] []))
  refine go (fun _ => XS.iload X68.here hx rfl (hb hby at_23) rfl) ?_
  show Run p e below _ (T68.setTop (mkF m 25 #[.val (.int p0), .val (.int p1), .val (.int p2), .val (.int p3), .val (.int p4), .val (.ref b63), .val (.int (p4 &&& (3 : Int32))), .unset, .unset] [(.int (p4 &&& (3 : Int32)))]))
  by_cases c70 : (p4 &&& (3 : Int32)) = 0
  · skip
    refine go (fun _ => XS.ifNo X68.here hx rfl (hb hby at_25) rfl ((if0 _ _).trans (teq c70).2)) ?_
    show Run p e below _ (T68.setTop (mkF m 28 #[.val (.int p0), .val (.int p1), .val (.int p2), .val (.int p3), .val (.int p4), .val (.ref b63), .val (.int (p4 &&& (3 : Int32))), .unset, .unset] []))
    obtain ⟨T71, h71, X71, e71, E71, A71, D71, -, st71⟩ := newO X68 hx hZ hown (wd hw 0 rfl) (wd hw 1 rfl) (wd hw 2 rfl) e68 (g := (mkF m 28 #[.val (.int p0), .val (.int p1), .val (.int p2), .val (.int p3), .val (.int p4), .val (.ref b63), .val (.int (p4 &&& (3 : Int32))), .unset, .unset] [])) rfl (hb hby at_28) (by decide) (by decide)
    obtain ⟨b71, y71⟩ : ∃ z, z = h68.size := ⟨_, rfl⟩
    rw [← y71] at A71 D71 st71
    have g_b71 : n0 ≤ b71 := y71.symm ▸ old_sz O0
    have SF_b71 : Safe Z consts_1 T68.vm h68 b71 := Safe.new (Nat.le_of_eq y71.symm)
    have ne_b63_b71 : b63 ≠ b71 := Nat.ne_of_lt (y71.symm ▸ E_b63.lt)
    have ne_x64_b71 : x64 ≠ b71 := Nat.ne_of_lt (y71.symm ▸ T_x64.1.lt)
    have ne_t64_b71 : t64 ≠ b71 := Nat.ne_of_lt (y71.symm ▸ T_x64.2.2.2.lt)
    have ne_x66_b71 : x66 ≠ b71 := Nat.ne_of_lt (y71.symm ▸ T_x66.1.lt)
    have ne_t66_b71 : t66 ≠ b71 := Nat.ne_of_lt (y71.symm ▸ T_x66.2.2.2.lt)
    have CHo := CH
    have SF_b63o := SF_b63
    have SF_b71o := SF_b71
    have hk := Nat.le_trans hk E71.1
    have O0 := O0.ext E71
    have SF_b63 := Safe.ext E71 CHo.1 SF_b63o
    have E_b63 := E_b63.ext E71
    have T_x64 := T_x64.ext E71
    have T_x66 := T_x66.ext E71
    have F_from_b63 := F_from_b63.ext E71
    have F_to_b63 := F_to_b63.ext E71
    have SF_b71 := Safe.ext E71 CHo.1 SF_b71o
    have CH := CHo.trans (CHr.ext E71 CHo.1)
    have E_b71 := A71
    have F_from_b71 : Fld Z h71 b71 "com/example/lateral_guard/lateralguard/core/Flow" "from" "Ljava/lang/String;" .null := D71 (Or.inr (wd hw 43 rfl)) (ty := (.object "java/lang/String")) (by decide)
    have F_to_b71 : Fld Z h71 b71 "com/example/lateral_guard/lateralguard/core/Flow" "to" "Ljava/lang/String;" .null := D71 (Or.inr (wd hw 46 rfl)) (ty := (.object "java/lang/String")) (by decide)
    refine go st71 ?_
    show Run p e below _ (T71.setTop (mkF m 31 #[.val (.int p0), .val (.int p1), .val (.int p2), .val (.int p3), .val (.int p4), .val (.ref b63), .val (.int (p4 &&& (3 : Int32))), .unset, .unset] [(.ref b71)]))
    refine go (fun _ => XS.dup X71.here hx rfl (hb hby at_31) rfl rfl) ?_
    show Run p e below _ (T71.setTop (mkF m 32 #[.val (.int p0), .val (.int p1), .val (.int p2), .val (.int p3), .val (.int p4), .val (.ref b63), .val (.int (p4 &&& (3 : Int32))), .unset, .unset] [(.ref b71), (.ref b71)]))
    refine go (fun _ => XS.iloadN X71.here hx rfl (hb hby at_32) rfl) ?_
    show Run p e below _ (T71.setTop (mkF m 33 #[.val (.int p0), .val (.int p1), .val (.int p2), .val (.int p3), .val (.int p4), .val (.ref b63), .val (.int (p4 &&& (3 : Int32))), .unset, .unset] [(.int p2), (.ref b71), (.ref b71)]))
    refine callStS X71 hx hZ hown (wd hw 3 rfl) (wd hw 4 rfl) (wd hw 5 rfl) (wd hw 6 rfl) (by decide) e71 hS hk hEL CH (argsL := [(.int p2)]) (rest := [(.ref b71), (.ref b71)]) all0 (rm_mk l Z a0 hw [] p2 zc h71 n0 O0 hEL S_COMPACT_STRINGS hzc) (W := 2) (by decide) (by decide) (by decide) (by decide) (by rw [hml]; rfl) (lenOf pd_5 rfl) rfl (Nat.le_of_eq rfl) (hb hby at_33) ?_
    intro v72 T72 L72 h72 k72 X72 e72 hS hk hZ hown CH' D72 q72
    have lt73_b63 := E_b63.lt
    have lt73_x64 := T_x64.1.lt
    have lt73_t64 := T_x64.2.2.2.lt
    have lt73_x66 := T_x66.1.lt
    have lt73_t66 := T_x66.2.2.2.lt
    have lt73_b71 := E_b71.lt
    have SF_b63 := CHr.safe D72 lt73_b63 SF_b63
    have SF_b71 := CHr.safe D72 lt73_b71 SF_b71
    obtain ⟨x72, t72, kb72, rfl, n72, K72, T_x72⟩ := q72
    have O0 := O0.keep K72 all0
    have E_b63 := E_b63.keep K72
    have T_x64 := T_x64.keep K72 nin0 nin0
    have T_x66 := T_x66.keep K72 nin0 nin0
    have F_from_b63 := F_from_b63.keep K72 nin0
    have F_to_b63 := F_to_b63.keep K72 nin0
    have E_b71 := E_b71.keep K72
    have F_from_b71 := F_from_b71.keep K72 nin0
    have F_to_b71 := F_to_b71.keep K72 nin0
    have N72 := Fr.app N68 n72
    have CH := CH'
    show Run p e below _ (T72.setTop (mkF m 36 #[.val (.int p0), .val (.int p1), .val (.int p2), .val (.int p3), .val (.int p4), .val (.ref b63), .val (.int (p4 &&& (3 : Int32))), .unset, .unset] [(.ref x72), (.ref b71), (.ref b71)]))
    refine go (fun _ => XS.iloadN X72.here hx rfl (hb hby at_36) rfl) ?_
    show Run p e below _ (T72.setTop (mkF m 37 #[.val (.int p0), .val (.int p1), .val (.int p2), .val (.int p3), .val (.int p4), .val (.ref b63), .val (.int (p4 &&& (3 : Int32))), .unset, .unset] [(.int p3), (.ref x72), (.ref b71), (.ref b71)]))
    refine callStS X72 hx hZ hown (wd hw 3 rfl) (wd hw 4 rfl) (wd hw 5 rfl) (wd hw 6 rfl) (by decide) e72 hS hk hEL CH (argsL := [(.int p3)]) (rest := [(.ref x72), (.ref b71), (.ref b71)]) all0 (rm_mk l Z a0 hw [] p3 zc h72 n0 O0 hEL S_COMPACT_STRINGS hzc) (W := 3) (by decide) (by decide) (by decide) (by decide) (by rw [hml]; rfl) (lenOf pd_5 rfl) rfl (Nat.le_of_eq rfl) (hb hby at_37) ?_
    intro v74 T74 L74 h74 k74 X74 e74 hS hk hZ hown CH' D74 q74
    have lt75_b63 := E_b63.lt
    have lt75_x64 := T_x64.1.lt
    have lt75_t64 := T_x64.2.2.2.lt
    have lt75_x66 := T_x66.1.lt
    have lt75_t66 := T_x66.2.2.2.lt
    have lt75_b71 := E_b71.lt
    have lt75_x72 := T_x72.1.lt
    have lt75_t72 := T_x72.2.2.2.lt
    have SF_b63 := CHr.safe D74 lt75_b63 SF_b63
    have SF_b71 := CHr.safe D74 lt75_b71 SF_b71
    obtain ⟨x74, t74, kb74, rfl, n74, K74, T_x74⟩ := q74
    have O0 := O0.keep K74 all0
    have E_b63 := E_b63.keep K74
    have T_x64 := T_x64.keep K74 nin0 nin0
    have T_x66 := T_x66.keep K74 nin0 nin0
    have F_from_b63 := F_from_b63.keep K74 nin0
    have F_to_b63 := F_to_b63.keep K74 nin0
    have E_b71 := E_b71.keep K74
    have F_from_b71 := F_from_b71.keep K74 nin0
    have F_to_b71 := F_to_b71.keep K74 nin0
    have T_x72 := T_x72.keep K74 nin0 nin0
    have N74 := Fr.app N72 n74
    have CH := CH'
    show Run p e below _ (T74.setTop (mkF m 40 #[.val (.int p0), .val (.int p1), .val (.int p2), .val (.int p3), .val (.int p4), .val (.ref b63), .val (.int (p4 &&& (3 : Int32))), .unset, .unset] [(.ref x74), (.ref x72), (.ref b71), (.ref b71)]))
    refine callSpS rfl X74 hx hZ hown (wd hw 32 rfl) (wd hw 33 rfl) (wd hw 34 rfl) (wd hw 2 rfl) (by decide) e74 hS hk hEL CH (a := b71) (argsL := [(.ref x72), (.ref x74)]) (rest := [(.ref b71)]) (allS ⟨E_b71.lt, SF_b71⟩ all0) (rm_init l Z a0 hw [] b71 x72 t72 kb72 (mkcs p2) x74 t74 kb74 (mkcs p3) h74 n0 O0 hEL E_b71 F_from_b71 F_to_b71 g_b71 T_x72 T_x74) (W := 1) (by decide) (by decide) (by decide) (by decide) (by rw [hml]; rfl) (lenOf pd_6 rfl) rfl (Nat.le_of_eq rfl) (hb hby at_40) ?_
    intro v76 T76 L76 h76 k76 X76 e76 hS hk hZ hown CH' D76 q76
    have lt77_b63 := E_b63.lt
    have lt77_x64 := T_x64.1.lt
    have lt77_t64 := T_x64.2.2.2.lt
    have lt77_x66 := T_x66.1.lt
    have lt77_t66 := T_x66.2.2.2.lt
    have lt77_b71 := E_b71.lt
    have lt77_x72 := T_x72.1.lt
    have lt77_t72 := T_x72.2.2.2.lt
    have lt77_x74 := T_x74.1.lt
    have lt77_t74 := T_x74.2.2.2.lt
    have SF_b63 := CHr.safe D76 lt77_b63 SF_b63
    have SF_b71 := CHr.safe D76 lt77_b71 SF_b71
    have ne_x72_b71 : x72 ≠ b71 := ne_exa T_x72.1 E_b71 (by decide)
    have ne_t72_b71 : t72 ≠ b71 := Ne.symm (Exa.neArv E_b71 T_x72.2.2.2 (wd hw 1 rfl))
    have ne_x74_b71 : x74 ≠ b71 := ne_exa T_x74.1 E_b71 (by decide)
    have ne_t74_b71 : t74 ≠ b71 := Ne.symm (Exa.neArv E_b71 T_x74.2.2.2 (wd hw 1 rfl))
    obtain ⟨rfl, n76, K76, F_from_b71, F_to_b71⟩ := q76
    have O0 := O0.keep K76 (allS g_b71 all0)
    have E_b63 := E_b63.keep K76
    have T_x64 := T_x64.keep K76 (ninS ne_x64_b71 nin0) (ninS ne_t64_b71 nin0)
    have T_x66 := T_x66.keep K76 (ninS ne_x66_b71 nin0) (ninS ne_t66_b71 nin0)
    have F_from_b63 := F_from_b63.keep K76 (ninS ne_b63_b71 nin0)
    have F_to_b63 := F_to_b63.keep K76 (ninS ne_b63_b71 nin0)
    have E_b71 := E_b71.keep K76
    have T_x72 := T_x72.keep K76 (ninS ne_x72_b71 nin0) (ninS ne_t72_b71 nin0)
    have T_x74 := T_x74.keep K76 (ninS ne_x74_b71 nin0) (ninS ne_t74_b71 nin0)
    have N76 := Fr.app N74 n76
    have CH := CH'
    show Run p e below _ (T76.setTop (mkF m 43 #[.val (.int p0), .val (.int p1), .val (.int p2), .val (.int p3), .val (.int p4), .val (.ref b63), .val (.int (p4 &&& (3 : Int32))), .unset, .unset] [(.ref b71)]))
    refine go (fun _ => XS.astore X76.here hx rfl (hb hby at_43) rfl rfl (l' := #[.val (.int p0), .val (.int p1), .val (.int p2), .val (.int p3), .val (.int p4), .val (.ref b63), .val (.int (p4 &&& (3 : Int32))), .val (.ref b71), .unset]) rfl) ?_
    show Run p e below _ (T76.setTop (mkF m 45 #[.val (.int p0), .val (.int p1), .val (.int p2), .val (.int p3), .val (.int p4), .val (.ref b63), .val (.int (p4 &&& (3 : Int32))), .val (.ref b71), .unset] []))
    refine go (fun _ => XS.iloadN X76.here hx rfl (hb hby at_45) rfl) ?_
    show Run p e below _ (T76.setTop (mkF m 46 #[.val (.int p0), .val (.int p1), .val (.int p2), .val (.int p3), .val (.int p4), .val (.ref b63), .val (.int (p4 &&& (3 : Int32))), .val (.ref b71), .unset] [(.int p0)]))
    refine go (fun _ => XS.iloadN X76.here hx rfl (hb hby at_46) rfl) ?_
    show Run p e below _ (T76.setTop (mkF m 47 #[.val (.int p0), .val (.int p1), .val (.int p2), .val (.int p3), .val (.int p4), .val (.ref b63), .val (.int (p4 &&& (3 : Int32))), .val (.ref b71), .unset] [(.int p2), (.int p0)]))
    refine callSt X76 hx hZ hown (wd hw 47 rfl) (wd hw 48 rfl) (wd hw 5 rfl) (wd hw 49 rfl) (by decide) e76 (argsL := [(.int p0), (.int p2)]) (rest := []) (rm_same l Z a0 hw [] p0 p2 h76 n0 O0) (W := 0) (by decide) (by decide) (by decide) (by decide) (by rw [hml]; rfl) (lenOf pd_7 rfl) rfl (Nat.le_of_eq rfl) (hb hby at_47) ?_
    intro v78 T78 L78 h78 X78 e78 q78
    obtain ⟨rv, n78, k78⟩ := q78
    replace rv : v78 = some (.int (sameV p0 p2)) := rv
    subst rv
    have e78 := e78.trans k78
    have N78 := Fr.app N76 n78
    show Run p e below _ (T78.setTop (mkF m 50 #[.val (.int p0), .val (.int p1), .val (.int p2), .val (.int p3), .val (.int p4), .val (.ref b63), .val (.int (p4 &&& (3 : Int32))), .val (.ref b71), .unset] [(.int (sameV p0 p2))]))
    by_cases c79 : (sameV p0 p2) = 0
    · skip
      refine go (fun _ => XS.ifYes X78.here hx rfl (pc0 := 50) (pc' := 65) rfl (hb hby at_50) rfl ((if0 _ _).trans (teq c79).1) (by decide) (by decide)) ?_
      show Run p e below _ (T78.setTop (mkF m 65 #[.val (.int p0), .val (.int p1), .val (.int p2), .val (.int p3), .val (.int p4), .val (.ref b63), .val (.int (p4 &&& (3 : Int32))), .val (.ref b71), .unset] []))
      refine go (fun _ => XS.iconst X78.here hx rfl (hb hby at_65)) ?_
      show Run p e below _ (T78.setTop (mkF m 66 #[.val (.int p0), .val (.int p1), .val (.int p2), .val (.int p3), .val (.int p4), .val (.ref b63), .val (.int (p4 &&& (3 : Int32))), .val (.ref b71), .unset] [(.int (0 : Int32))]))
      refine go (fun _ => XS.istore X78.here hx rfl (hb hby at_66) rfl (l' := #[.val (.int p0), .val (.int p1), .val (.int p2), .val (.int p3), .val (.int p4), .val (.ref b63), .val (.int (p4 &&& (3 : Int32))), .val (.ref b71), .val (.int (0 : Int32))]) rfl) ?_
      show Run p e below _ (T78.setTop (mkF m 68 #[.val (.int p0), .val (.int p1), .val (.int p2), .val (.int p3), .val (.int p4), .val (.ref b63), .val (.int (p4 &&& (3 : Int32))), .val (.ref b71), .val (.int (0 : Int32))] []))
      refine go (fun _ => XS.goto X78.here hx rfl (pc0 := 68) (pc' := 111) rfl (hb hby at_68) (by decide) (by decide)) ?_
      show Run p e below _ (T78.setTop (mkF m 111 #[.val (.int p0), .val (.int p1), .val (.int p2), .val (.int p3), .val (.int p4), .val (.ref b63), .val (.int (p4 &&& (3 : Int32))), .val (.ref b71), .val (.int (0 : Int32))] []))
      refine go (fun _ => XS.aload X78.here hx rfl (hb hby at_111) rfl rfl) ?_
      show Run p e below _ (T78.setTop (mkF m 113 #[.val (.int p0), .val (.int p1), .val (.int p2), .val (.int p3), .val (.int p4), .val (.ref b63), .val (.int (p4 &&& (3 : Int32))), .val (.ref b71), .val (.int (0 : Int32))] [(.ref b63)]))
      refine go (fun _ => XS.aload X78.here hx rfl (hb hby at_113) rfl rfl) ?_
      show Run p e below _ (T78.setTop (mkF m 115 #[.val (.int p0), .val (.int p1), .val (.int p2), .val (.int p3), .val (.int p4), .val (.ref b63), .val (.int (p4 &&& (3 : Int32))), .val (.ref b71), .val (.int (0 : Int32))] [(.ref b71), (.ref b63)]))
      refine callVi X78 hx hZ hown (wd hw 50 rfl) (wd hw 51 rfl) (notFace_of_selects (args := #[]) (mvT hZ (wd hw 53 rfl))) (wd hw 53 rfl) (wd hw 52 rfl) (wd hw 54 rfl) (wd hw 2 rfl) (by decide) e78 E_b63 (argsL := [(.ref b71)]) (rest := []) (rm_eq2 l Z a0 hw [] zc b63 b71 x64 t64 kb64 (mkcs p0) x66 t66 kb66 (mkcs p1) x72 t72 kb72 (mkcs p2) x74 t74 kb74 (mkcs p3) h76 n0 O0 S_COMPACT_STRINGS hzc E_b63 F_from_b63 F_to_b63 E_b71 F_from_b71 F_to_b71 T_x64 T_x66 T_x72 T_x74 (own_in8 p0) (own_len p0) (own_in8 p1) (own_len p1) (own_in8 p2) (own_len p2) (own_in8 p3) (own_len p3)) (W := 0) (by decide) (by decide) (by decide) (by decide) (by rw [hml]; rfl) (lenOf pd_4 rfl) rfl (Nat.le_of_eq rfl) (hb hby at_115) ?_
      intro v80 T80 L80 h80 X80 e80 q80
      obtain ⟨rv, n80, k80⟩ := q80
      replace rv : v80 = some (.int (eqV (mkcs p0) (mkcs p1) (mkcs p2) (mkcs p3))) := rv
      subst rv
      have e80 := e80.trans k80
      have N80 := Fr.app N78 n80
      show Run p e below _ (T80.setTop (mkF m 118 #[.val (.int p0), .val (.int p1), .val (.int p2), .val (.int p3), .val (.int p4), .val (.ref b63), .val (.int (p4 &&& (3 : Int32))), .val (.ref b71), .val (.int (0 : Int32))] [(.int (eqV (mkcs p0) (mkcs p1) (mkcs p2) (mkcs p3)))]))
      have hR : (eqV (mkcs p0) (mkcs p1) (mkcs p2) (mkcs p3)) = (0 : Int32) := ev_d c79
      refine go (fun _ => XS.iload X80.here hx rfl (hb hby at_118) rfl) ?_
      show Run p e below _ (T80.setTop (mkF m 120 #[.val (.int p0), .val (.int p1), .val (.int p2), .val (.int p3), .val (.int p4), .val (.ref b63), .val (.int (p4 &&& (3 : Int32))), .val (.ref b71), .val (.int (0 : Int32))] [(.int (0 : Int32)), (.int (eqV (mkcs p0) (mkcs p1) (mkcs p2) (mkcs p3)))]))
      refine go (fun _ => XS.icmpNo X80.here hx rfl (hb hby at_120) rfl (teq hR).2) ?_
      show Run p e below _ (T80.setTop (mkF m 123 #[.val (.int p0), .val (.int p1), .val (.int p2), .val (.int p3), .val (.int p4), .val (.ref b63), .val (.int (p4 &&& (3 : Int32))), .val (.ref b71), .val (.int (0 : Int32))] []))
      refine go (fun _ => XS.iconst X80.here hx rfl (hb hby at_123)) ?_
      show Run p e below _ (T80.setTop (mkF m 124 #[.val (.int p0), .val (.int p1), .val (.int p2), .val (.int p3), .val (.int p4), .val (.ref b63), .val (.int (p4 &&& (3 : Int32))), .val (.ref b71), .val (.int (0 : Int32))] [(.int (1 : Int32))]))
      refine go (fun _ => XS.goto X80.here hx rfl (pc0 := 124) (pc' := 128) rfl (hb hby at_124) (by decide) (by decide)) ?_
      show Run p e below _ (T80.setTop (mkF m 128 #[.val (.int p0), .val (.int p1), .val (.int p2), .val (.int p3), .val (.int p4), .val (.ref b63), .val (.int (p4 &&& (3 : Int32))), .val (.ref b71), .val (.int (0 : Int32))] [(.int (1 : Int32))]))
      exact endNS X80 hx hlk hZ hEL e80 eS CH hS hk (t := .boolean) hret (by simp) (hb hby at_128) (⟨rfl, N80⟩) (by decide) (by decide)
    · skip
      refine go (fun _ => XS.ifNo X78.here hx rfl (hb hby at_50) rfl ((if0 _ _).trans (feq c79).1)) ?_
      show Run p e below _ (T78.setTop (mkF m 53 #[.val (.int p0), .val (.int p1), .val (.int p2), .val (.int p3), .val (.int p4), .val (.ref b63), .val (.int (p4 &&& (3 : Int32))), .val (.ref b71), .unset] []))
      refine go (fun _ => XS.iloadN X78.here hx rfl (hb hby at_53) rfl) ?_
      show Run p e below _ (T78.setTop (mkF m 54 #[.val (.int p0), .val (.int p1), .val (.int p2), .val (.int p3), .val (.int p4), .val (.ref b63), .val (.int (p4 &&& (3 : Int32))), .val (.ref b71), .unset] [(.int p1)]))
      refine go (fun _ => XS.iloadN X78.here hx rfl (hb hby at_54) rfl) ?_
      show Run p e below _ (T78.setTop (mkF m 55 #[.val (.int p0), .val (.int p1), .val (.int p2), .val (.int p3), .val (.int p4), .val (.ref b63), .val (.int (p4 &&& (3 : Int32))), .val (.ref b71), .unset] [(.int p3), (.int p1)]))
      refine callSt X78 hx hZ hown (wd hw 47 rfl) (wd hw 48 rfl) (wd hw 5 rfl) (wd hw 49 rfl) (by decide) e78 (argsL := [(.int p1), (.int p3)]) (rest := []) (rm_same l Z a0 hw [] p1 p3 h76 n0 O0) (W := 0) (by decide) (by decide) (by decide) (by decide) (by rw [hml]; rfl) (lenOf pd_7 rfl) rfl (Nat.le_of_eq rfl) (hb hby at_55) ?_
      intro v81 T81 L81 h81 X81 e81 q81
      obtain ⟨rv, n81, k81⟩ := q81
      replace rv : v81 = some (.int (sameV p1 p3)) := rv
      subst rv
      have e81 := e81.trans k81
      have N81 := Fr.app N78 n81
      show Run p e below _ (T81.setTop (mkF m 58 #[.val (.int p0), .val (.int p1), .val (.int p2), .val (.int p3), .val (.int p4), .val (.ref b63), .val (.int (p4 &&& (3 : Int32))), .val (.ref b71), .unset] [(.int (sameV p1 p3))]))
      by_cases c82 : (sameV p1 p3) = 0
      · skip
        refine go (fun _ => XS.ifYes X81.here hx rfl (pc0 := 58) (pc' := 65) rfl (hb hby at_58) rfl ((if0 _ _).trans (teq c82).1) (by decide) (by decide)) ?_
        show Run p e below _ (T81.setTop (mkF m 65 #[.val (.int p0), .val (.int p1), .val (.int p2), .val (.int p3), .val (.int p4), .val (.ref b63), .val (.int (p4 &&& (3 : Int32))), .val (.ref b71), .unset] []))
        refine go (fun _ => XS.iconst X81.here hx rfl (hb hby at_65)) ?_
        show Run p e below _ (T81.setTop (mkF m 66 #[.val (.int p0), .val (.int p1), .val (.int p2), .val (.int p3), .val (.int p4), .val (.ref b63), .val (.int (p4 &&& (3 : Int32))), .val (.ref b71), .unset] [(.int (0 : Int32))]))
        refine go (fun _ => XS.istore X81.here hx rfl (hb hby at_66) rfl (l' := #[.val (.int p0), .val (.int p1), .val (.int p2), .val (.int p3), .val (.int p4), .val (.ref b63), .val (.int (p4 &&& (3 : Int32))), .val (.ref b71), .val (.int (0 : Int32))]) rfl) ?_
        show Run p e below _ (T81.setTop (mkF m 68 #[.val (.int p0), .val (.int p1), .val (.int p2), .val (.int p3), .val (.int p4), .val (.ref b63), .val (.int (p4 &&& (3 : Int32))), .val (.ref b71), .val (.int (0 : Int32))] []))
        refine go (fun _ => XS.goto X81.here hx rfl (pc0 := 68) (pc' := 111) rfl (hb hby at_68) (by decide) (by decide)) ?_
        show Run p e below _ (T81.setTop (mkF m 111 #[.val (.int p0), .val (.int p1), .val (.int p2), .val (.int p3), .val (.int p4), .val (.ref b63), .val (.int (p4 &&& (3 : Int32))), .val (.ref b71), .val (.int (0 : Int32))] []))
        refine go (fun _ => XS.aload X81.here hx rfl (hb hby at_111) rfl rfl) ?_
        show Run p e below _ (T81.setTop (mkF m 113 #[.val (.int p0), .val (.int p1), .val (.int p2), .val (.int p3), .val (.int p4), .val (.ref b63), .val (.int (p4 &&& (3 : Int32))), .val (.ref b71), .val (.int (0 : Int32))] [(.ref b63)]))
        refine go (fun _ => XS.aload X81.here hx rfl (hb hby at_113) rfl rfl) ?_
        show Run p e below _ (T81.setTop (mkF m 115 #[.val (.int p0), .val (.int p1), .val (.int p2), .val (.int p3), .val (.int p4), .val (.ref b63), .val (.int (p4 &&& (3 : Int32))), .val (.ref b71), .val (.int (0 : Int32))] [(.ref b71), (.ref b63)]))
        refine callVi X81 hx hZ hown (wd hw 50 rfl) (wd hw 51 rfl) (notFace_of_selects (args := #[]) (mvT hZ (wd hw 53 rfl))) (wd hw 53 rfl) (wd hw 52 rfl) (wd hw 54 rfl) (wd hw 2 rfl) (by decide) e81 E_b63 (argsL := [(.ref b71)]) (rest := []) (rm_eq2 l Z a0 hw [] zc b63 b71 x64 t64 kb64 (mkcs p0) x66 t66 kb66 (mkcs p1) x72 t72 kb72 (mkcs p2) x74 t74 kb74 (mkcs p3) h76 n0 O0 S_COMPACT_STRINGS hzc E_b63 F_from_b63 F_to_b63 E_b71 F_from_b71 F_to_b71 T_x64 T_x66 T_x72 T_x74 (own_in8 p0) (own_len p0) (own_in8 p1) (own_len p1) (own_in8 p2) (own_len p2) (own_in8 p3) (own_len p3)) (W := 0) (by decide) (by decide) (by decide) (by decide) (by rw [hml]; rfl) (lenOf pd_4 rfl) rfl (Nat.le_of_eq rfl) (hb hby at_115) ?_
        intro v83 T83 L83 h83 X83 e83 q83
        obtain ⟨rv, n83, k83⟩ := q83
        replace rv : v83 = some (.int (eqV (mkcs p0) (mkcs p1) (mkcs p2) (mkcs p3))) := rv
        subst rv
        have e83 := e83.trans k83
        have N83 := Fr.app N81 n83
        show Run p e below _ (T83.setTop (mkF m 118 #[.val (.int p0), .val (.int p1), .val (.int p2), .val (.int p3), .val (.int p4), .val (.ref b63), .val (.int (p4 &&& (3 : Int32))), .val (.ref b71), .val (.int (0 : Int32))] [(.int (eqV (mkcs p0) (mkcs p1) (mkcs p2) (mkcs p3)))]))
        have hR : (eqV (mkcs p0) (mkcs p1) (mkcs p2) (mkcs p3)) = (0 : Int32) := ev_e c79 c82
        refine go (fun _ => XS.iload X83.here hx rfl (hb hby at_118) rfl) ?_
        show Run p e below _ (T83.setTop (mkF m 120 #[.val (.int p0), .val (.int p1), .val (.int p2), .val (.int p3), .val (.int p4), .val (.ref b63), .val (.int (p4 &&& (3 : Int32))), .val (.ref b71), .val (.int (0 : Int32))] [(.int (0 : Int32)), (.int (eqV (mkcs p0) (mkcs p1) (mkcs p2) (mkcs p3)))]))
        refine go (fun _ => XS.icmpNo X83.here hx rfl (hb hby at_120) rfl (teq hR).2) ?_
        show Run p e below _ (T83.setTop (mkF m 123 #[.val (.int p0), .val (.int p1), .val (.int p2), .val (.int p3), .val (.int p4), .val (.ref b63), .val (.int (p4 &&& (3 : Int32))), .val (.ref b71), .val (.int (0 : Int32))] []))
        refine go (fun _ => XS.iconst X83.here hx rfl (hb hby at_123)) ?_
        show Run p e below _ (T83.setTop (mkF m 124 #[.val (.int p0), .val (.int p1), .val (.int p2), .val (.int p3), .val (.int p4), .val (.ref b63), .val (.int (p4 &&& (3 : Int32))), .val (.ref b71), .val (.int (0 : Int32))] [(.int (1 : Int32))]))
        refine go (fun _ => XS.goto X83.here hx rfl (pc0 := 124) (pc' := 128) rfl (hb hby at_124) (by decide) (by decide)) ?_
        show Run p e below _ (T83.setTop (mkF m 128 #[.val (.int p0), .val (.int p1), .val (.int p2), .val (.int p3), .val (.int p4), .val (.ref b63), .val (.int (p4 &&& (3 : Int32))), .val (.ref b71), .val (.int (0 : Int32))] [(.int (1 : Int32))]))
        exact endNS X83 hx hlk hZ hEL e83 eS CH hS hk (t := .boolean) hret (by simp) (hb hby at_128) (⟨rfl, N83⟩) (by decide) (by decide)
      · skip
        refine go (fun _ => XS.ifNo X81.here hx rfl (hb hby at_58) rfl ((if0 _ _).trans (feq c82).1)) ?_
        show Run p e below _ (T81.setTop (mkF m 61 #[.val (.int p0), .val (.int p1), .val (.int p2), .val (.int p3), .val (.int p4), .val (.ref b63), .val (.int (p4 &&& (3 : Int32))), .val (.ref b71), .unset] []))
        refine go (fun _ => XS.iconst X81.here hx rfl (hb hby at_61)) ?_
        show Run p e below _ (T81.setTop (mkF m 62 #[.val (.int p0), .val (.int p1), .val (.int p2), .val (.int p3), .val (.int p4), .val (.ref b63), .val (.int (p4 &&& (3 : Int32))), .val (.ref b71), .unset] [(.int (1 : Int32))]))
        refine go (fun _ => XS.goto X81.here hx rfl (pc0 := 62) (pc' := 66) rfl (hb hby at_62) (by decide) (by decide)) ?_
        show Run p e below _ (T81.setTop (mkF m 66 #[.val (.int p0), .val (.int p1), .val (.int p2), .val (.int p3), .val (.int p4), .val (.ref b63), .val (.int (p4 &&& (3 : Int32))), .val (.ref b71), .unset] [(.int (1 : Int32))]))
        refine go (fun _ => XS.istore X81.here hx rfl (hb hby at_66) rfl (l' := #[.val (.int p0), .val (.int p1), .val (.int p2), .val (.int p3), .val (.int p4), .val (.ref b63), .val (.int (p4 &&& (3 : Int32))), .val (.ref b71), .val (.int (1 : Int32))]) rfl) ?_
        show Run p e below _ (T81.setTop (mkF m 68 #[.val (.int p0), .val (.int p1), .val (.int p2), .val (.int p3), .val (.int p4), .val (.ref b63), .val (.int (p4 &&& (3 : Int32))), .val (.ref b71), .val (.int (1 : Int32))] []))
        refine go (fun _ => XS.goto X81.here hx rfl (pc0 := 68) (pc' := 111) rfl (hb hby at_68) (by decide) (by decide)) ?_
        show Run p e below _ (T81.setTop (mkF m 111 #[.val (.int p0), .val (.int p1), .val (.int p2), .val (.int p3), .val (.int p4), .val (.ref b63), .val (.int (p4 &&& (3 : Int32))), .val (.ref b71), .val (.int (1 : Int32))] []))
        refine go (fun _ => XS.aload X81.here hx rfl (hb hby at_111) rfl rfl) ?_
        show Run p e below _ (T81.setTop (mkF m 113 #[.val (.int p0), .val (.int p1), .val (.int p2), .val (.int p3), .val (.int p4), .val (.ref b63), .val (.int (p4 &&& (3 : Int32))), .val (.ref b71), .val (.int (1 : Int32))] [(.ref b63)]))
        refine go (fun _ => XS.aload X81.here hx rfl (hb hby at_113) rfl rfl) ?_
        show Run p e below _ (T81.setTop (mkF m 115 #[.val (.int p0), .val (.int p1), .val (.int p2), .val (.int p3), .val (.int p4), .val (.ref b63), .val (.int (p4 &&& (3 : Int32))), .val (.ref b71), .val (.int (1 : Int32))] [(.ref b71), (.ref b63)]))
        refine callVi X81 hx hZ hown (wd hw 50 rfl) (wd hw 51 rfl) (notFace_of_selects (args := #[]) (mvT hZ (wd hw 53 rfl))) (wd hw 53 rfl) (wd hw 52 rfl) (wd hw 54 rfl) (wd hw 2 rfl) (by decide) e81 E_b63 (argsL := [(.ref b71)]) (rest := []) (rm_eq2 l Z a0 hw [] zc b63 b71 x64 t64 kb64 (mkcs p0) x66 t66 kb66 (mkcs p1) x72 t72 kb72 (mkcs p2) x74 t74 kb74 (mkcs p3) h76 n0 O0 S_COMPACT_STRINGS hzc E_b63 F_from_b63 F_to_b63 E_b71 F_from_b71 F_to_b71 T_x64 T_x66 T_x72 T_x74 (own_in8 p0) (own_len p0) (own_in8 p1) (own_len p1) (own_in8 p2) (own_len p2) (own_in8 p3) (own_len p3)) (W := 0) (by decide) (by decide) (by decide) (by decide) (by rw [hml]; rfl) (lenOf pd_4 rfl) rfl (Nat.le_of_eq rfl) (hb hby at_115) ?_
        intro v84 T84 L84 h84 X84 e84 q84
        obtain ⟨rv, n84, k84⟩ := q84
        replace rv : v84 = some (.int (eqV (mkcs p0) (mkcs p1) (mkcs p2) (mkcs p3))) := rv
        subst rv
        have e84 := e84.trans k84
        have N84 := Fr.app N81 n84
        show Run p e below _ (T84.setTop (mkF m 118 #[.val (.int p0), .val (.int p1), .val (.int p2), .val (.int p3), .val (.int p4), .val (.ref b63), .val (.int (p4 &&& (3 : Int32))), .val (.ref b71), .val (.int (1 : Int32))] [(.int (eqV (mkcs p0) (mkcs p1) (mkcs p2) (mkcs p3)))]))
        have hR : (eqV (mkcs p0) (mkcs p1) (mkcs p2) (mkcs p3)) = (1 : Int32) := ev_f c79 c82
        refine go (fun _ => XS.iload X84.here hx rfl (hb hby at_118) rfl) ?_
        show Run p e below _ (T84.setTop (mkF m 120 #[.val (.int p0), .val (.int p1), .val (.int p2), .val (.int p3), .val (.int p4), .val (.ref b63), .val (.int (p4 &&& (3 : Int32))), .val (.ref b71), .val (.int (1 : Int32))] [(.int (1 : Int32)), (.int (eqV (mkcs p0) (mkcs p1) (mkcs p2) (mkcs p3)))]))
        refine go (fun _ => XS.icmpNo X84.here hx rfl (hb hby at_120) rfl (teq hR).2) ?_
        show Run p e below _ (T84.setTop (mkF m 123 #[.val (.int p0), .val (.int p1), .val (.int p2), .val (.int p3), .val (.int p4), .val (.ref b63), .val (.int (p4 &&& (3 : Int32))), .val (.ref b71), .val (.int (1 : Int32))] []))
        refine go (fun _ => XS.iconst X84.here hx rfl (hb hby at_123)) ?_
        show Run p e below _ (T84.setTop (mkF m 124 #[.val (.int p0), .val (.int p1), .val (.int p2), .val (.int p3), .val (.int p4), .val (.ref b63), .val (.int (p4 &&& (3 : Int32))), .val (.ref b71), .val (.int (1 : Int32))] [(.int (1 : Int32))]))
        refine go (fun _ => XS.goto X84.here hx rfl (pc0 := 124) (pc' := 128) rfl (hb hby at_124) (by decide) (by decide)) ?_
        show Run p e below _ (T84.setTop (mkF m 128 #[.val (.int p0), .val (.int p1), .val (.int p2), .val (.int p3), .val (.int p4), .val (.ref b63), .val (.int (p4 &&& (3 : Int32))), .val (.ref b71), .val (.int (1 : Int32))] [(.int (1 : Int32))]))
        exact endNS X84 hx hlk hZ hEL e84 eS CH hS hk (t := .boolean) hret (by simp) (hb hby at_128) (⟨rfl, N84⟩) (by decide) (by decide)
  · skip
    refine go (fun _ => XS.ifYes X68.here hx rfl (pc0 := 25) (pc' := 71) rfl (hb hby at_25) rfl ((if0 _ _).trans (feq c70).2) (by decide) (by decide)) ?_
    show Run p e below _ (T68.setTop (mkF m 71 #[.val (.int p0), .val (.int p1), .val (.int p2), .val (.int p3), .val (.int p4), .val (.ref b63), .val (.int (p4 &&& (3 : Int32))), .unset, .unset] []))
    refine go (fun _ => XS.iload X68.here hx rfl (hb hby at_71) rfl) ?_
    show Run p e below _ (T68.setTop (mkF m 73 #[.val (.int p0), .val (.int p1), .val (.int p2), .val (.int p3), .val (.int p4), .val (.ref b63), .val (.int (p4 &&& (3 : Int32))), .unset, .unset] [(.int (p4 &&& (3 : Int32)))]))
    refine go (fun _ => XS.iconst X68.here hx rfl (hb hby at_73)) ?_
    show Run p e below _ (T68.setTop (mkF m 74 #[.val (.int p0), .val (.int p1), .val (.int p2), .val (.int p3), .val (.int p4), .val (.ref b63), .val (.int (p4 &&& (3 : Int32))), .unset, .unset] [(.int (1 : Int32)), (.int (p4 &&& (3 : Int32)))]))
    by_cases c85 : (p4 &&& (3 : Int32)) = (1 : Int32)
    · skip
      refine go (fun _ => XS.icmpNo X68.here hx rfl (hb hby at_74) rfl (teq c85).2) ?_
      show Run p e below _ (T68.setTop (mkF m 77 #[.val (.int p0), .val (.int p1), .val (.int p2), .val (.int p3), .val (.int p4), .val (.ref b63), .val (.int (p4 &&& (3 : Int32))), .unset, .unset] []))
      refine go (fun _ => XS.aconstNull X68.here hx rfl (hb hby at_77)) ?_
      show Run p e below _ (T68.setTop (mkF m 78 #[.val (.int p0), .val (.int p1), .val (.int p2), .val (.int p3), .val (.int p4), .val (.ref b63), .val (.int (p4 &&& (3 : Int32))), .unset, .unset] [.null]))
      refine go (fun _ => XS.astore X68.here hx rfl (hb hby at_78) rfl rfl (l' := #[.val (.int p0), .val (.int p1), .val (.int p2), .val (.int p3), .val (.int p4), .val (.ref b63), .val (.int (p4 &&& (3 : Int32))), .val .null, .unset]) rfl) ?_
      show Run p e below _ (T68.setTop (mkF m 80 #[.val (.int p0), .val (.int p1), .val (.int p2), .val (.int p3), .val (.int p4), .val (.ref b63), .val (.int (p4 &&& (3 : Int32))), .val .null, .unset] []))
      refine go (fun _ => XS.iconst X68.here hx rfl (hb hby at_80)) ?_
      show Run p e below _ (T68.setTop (mkF m 81 #[.val (.int p0), .val (.int p1), .val (.int p2), .val (.int p3), .val (.int p4), .val (.ref b63), .val (.int (p4 &&& (3 : Int32))), .val .null, .unset] [(.int (0 : Int32))]))
      refine go (fun _ => XS.istore X68.here hx rfl (hb hby at_81) rfl (l' := #[.val (.int p0), .val (.int p1), .val (.int p2), .val (.int p3), .val (.int p4), .val (.ref b63), .val (.int (p4 &&& (3 : Int32))), .val .null, .val (.int (0 : Int32))]) rfl) ?_
      show Run p e below _ (T68.setTop (mkF m 83 #[.val (.int p0), .val (.int p1), .val (.int p2), .val (.int p3), .val (.int p4), .val (.ref b63), .val (.int (p4 &&& (3 : Int32))), .val .null, .val (.int (0 : Int32))] []))
      refine go (fun _ => XS.goto X68.here hx rfl (pc0 := 83) (pc' := 111) rfl (hb hby at_83) (by decide) (by decide)) ?_
      show Run p e below _ (T68.setTop (mkF m 111 #[.val (.int p0), .val (.int p1), .val (.int p2), .val (.int p3), .val (.int p4), .val (.ref b63), .val (.int (p4 &&& (3 : Int32))), .val .null, .val (.int (0 : Int32))] []))
      refine go (fun _ => XS.aload X68.here hx rfl (hb hby at_111) rfl rfl) ?_
      show Run p e below _ (T68.setTop (mkF m 113 #[.val (.int p0), .val (.int p1), .val (.int p2), .val (.int p3), .val (.int p4), .val (.ref b63), .val (.int (p4 &&& (3 : Int32))), .val .null, .val (.int (0 : Int32))] [(.ref b63)]))
      refine go (fun _ => XS.aload X68.here hx rfl (hb hby at_113) rfl rfl) ?_
      show Run p e below _ (T68.setTop (mkF m 115 #[.val (.int p0), .val (.int p1), .val (.int p2), .val (.int p3), .val (.int p4), .val (.ref b63), .val (.int (p4 &&& (3 : Int32))), .val .null, .val (.int (0 : Int32))] [.null, (.ref b63)]))
      refine callVi X68 hx hZ hown (wd hw 50 rfl) (wd hw 51 rfl) (notFace_of_selects (args := #[]) (mvT hZ (wd hw 53 rfl))) (wd hw 53 rfl) (wd hw 52 rfl) (wd hw 54 rfl) (wd hw 2 rfl) (by decide) e68 E_b63 (argsL := [.null]) (rest := []) (rm_eq0 l Z a0 hw [] b63 h68 n0 O0) (W := 0) (by decide) (by decide) (by decide) (by decide) (by rw [hml]; rfl) (lenOf pd_4 rfl) rfl (Nat.le_of_eq rfl) (hb hby at_115) ?_
      intro v86 T86 L86 h86 X86 e86 q86
      obtain ⟨rv, n86, k86⟩ := q86
      replace rv : v86 = some (.int (0 : Int32)) := rv
      subst rv
      have e86 := e86.trans k86
      have N86 := Fr.app N68 n86
      show Run p e below _ (T86.setTop (mkF m 118 #[.val (.int p0), .val (.int p1), .val (.int p2), .val (.int p3), .val (.int p4), .val (.ref b63), .val (.int (p4 &&& (3 : Int32))), .val .null, .val (.int (0 : Int32))] [(.int (0 : Int32))]))
      refine go (fun _ => XS.iload X86.here hx rfl (hb hby at_118) rfl) ?_
      show Run p e below _ (T86.setTop (mkF m 120 #[.val (.int p0), .val (.int p1), .val (.int p2), .val (.int p3), .val (.int p4), .val (.ref b63), .val (.int (p4 &&& (3 : Int32))), .val .null, .val (.int (0 : Int32))] [(.int (0 : Int32)), (.int (0 : Int32))]))
      refine go (fun _ => XS.icmpNo X86.here hx rfl (hb hby at_120) rfl (teq (by decide : (0 : Int32) = 0)).2) ?_
      show Run p e below _ (T86.setTop (mkF m 123 #[.val (.int p0), .val (.int p1), .val (.int p2), .val (.int p3), .val (.int p4), .val (.ref b63), .val (.int (p4 &&& (3 : Int32))), .val .null, .val (.int (0 : Int32))] []))
      refine go (fun _ => XS.iconst X86.here hx rfl (hb hby at_123)) ?_
      show Run p e below _ (T86.setTop (mkF m 124 #[.val (.int p0), .val (.int p1), .val (.int p2), .val (.int p3), .val (.int p4), .val (.ref b63), .val (.int (p4 &&& (3 : Int32))), .val .null, .val (.int (0 : Int32))] [(.int (1 : Int32))]))
      refine go (fun _ => XS.goto X86.here hx rfl (pc0 := 124) (pc' := 128) rfl (hb hby at_124) (by decide) (by decide)) ?_
      show Run p e below _ (T86.setTop (mkF m 128 #[.val (.int p0), .val (.int p1), .val (.int p2), .val (.int p3), .val (.int p4), .val (.ref b63), .val (.int (p4 &&& (3 : Int32))), .val .null, .val (.int (0 : Int32))] [(.int (1 : Int32))]))
      exact endNS X86 hx hlk hZ hEL e86 eS CH hS hk (t := .boolean) hret (by simp) (hb hby at_128) (⟨rfl, N86⟩) (by decide) (by decide)
    · skip
      refine go (fun _ => XS.icmpYes X68.here hx rfl (pc0 := 74) (pc' := 86) rfl (hb hby at_74) rfl (feq c85).2 (by decide) (by decide)) ?_
      show Run p e below _ (T68.setTop (mkF m 86 #[.val (.int p0), .val (.int p1), .val (.int p2), .val (.int p3), .val (.int p4), .val (.ref b63), .val (.int (p4 &&& (3 : Int32))), .unset, .unset] []))
      refine go (fun _ => XS.iload X68.here hx rfl (hb hby at_86) rfl) ?_
      show Run p e below _ (T68.setTop (mkF m 88 #[.val (.int p0), .val (.int p1), .val (.int p2), .val (.int p3), .val (.int p4), .val (.ref b63), .val (.int (p4 &&& (3 : Int32))), .unset, .unset] [(.int (p4 &&& (3 : Int32)))]))
      refine go (fun _ => XS.iconst X68.here hx rfl (hb hby at_88)) ?_
      show Run p e below _ (T68.setTop (mkF m 89 #[.val (.int p0), .val (.int p1), .val (.int p2), .val (.int p3), .val (.int p4), .val (.ref b63), .val (.int (p4 &&& (3 : Int32))), .unset, .unset] [(.int (2 : Int32)), (.int (p4 &&& (3 : Int32)))]))
      by_cases c87 : (p4 &&& (3 : Int32)) = (2 : Int32)
      · skip
        refine go (fun _ => XS.icmpNo X68.here hx rfl (hb hby at_89) rfl (teq c87).2) ?_
        show Run p e below _ (T68.setTop (mkF m 92 #[.val (.int p0), .val (.int p1), .val (.int p2), .val (.int p3), .val (.int p4), .val (.ref b63), .val (.int (p4 &&& (3 : Int32))), .unset, .unset] []))
        refine go (fun _ => XS.iloadN X68.here hx rfl (hb hby at_92) rfl) ?_
        show Run p e below _ (T68.setTop (mkF m 93 #[.val (.int p0), .val (.int p1), .val (.int p2), .val (.int p3), .val (.int p4), .val (.ref b63), .val (.int (p4 &&& (3 : Int32))), .unset, .unset] [(.int p2)]))
        refine callStS X68 hx hZ hown (wd hw 3 rfl) (wd hw 4 rfl) (wd hw 5 rfl) (wd hw 6 rfl) (by decide) e68 hS hk hEL CH (argsL := [(.int p2)]) (rest := []) all0 (rm_mk l Z a0 hw [] p2 zc h68 n0 O0 hEL S_COMPACT_STRINGS hzc) (W := 0) (by decide) (by decide) (by decide) (by decide) (by rw [hml]; rfl) (lenOf pd_5 rfl) rfl (Nat.le_of_eq rfl) (hb hby at_93) ?_
        intro v88 T88 L88 h88 k88 X88 e88 hS hk hZ hown CH' D88 q88
        have lt89_b63 := E_b63.lt
        have lt89_x64 := T_x64.1.lt
        have lt89_t64 := T_x64.2.2.2.lt
        have lt89_x66 := T_x66.1.lt
        have lt89_t66 := T_x66.2.2.2.lt
        have SF_b63 := CHr.safe D88 lt89_b63 SF_b63
        obtain ⟨x88, t88, kb88, rfl, n88, K88, T_x88⟩ := q88
        have O0 := O0.keep K88 all0
        have E_b63 := E_b63.keep K88
        have T_x64 := T_x64.keep K88 nin0 nin0
        have T_x66 := T_x66.keep K88 nin0 nin0
        have F_from_b63 := F_from_b63.keep K88 nin0
        have F_to_b63 := F_to_b63.keep K88 nin0
        have N88 := Fr.app N68 n88
        have CH := CH'
        show Run p e below _ (T88.setTop (mkF m 96 #[.val (.int p0), .val (.int p1), .val (.int p2), .val (.int p3), .val (.int p4), .val (.ref b63), .val (.int (p4 &&& (3 : Int32))), .unset, .unset] [(.ref x88)]))
        refine go (fun _ => XS.astore X88.here hx rfl (hb hby at_96) rfl rfl (l' := #[.val (.int p0), .val (.int p1), .val (.int p2), .val (.int p3), .val (.int p4), .val (.ref b63), .val (.int (p4 &&& (3 : Int32))), .val (.ref x88), .unset]) rfl) ?_
        show Run p e below _ (T88.setTop (mkF m 98 #[.val (.int p0), .val (.int p1), .val (.int p2), .val (.int p3), .val (.int p4), .val (.ref b63), .val (.int (p4 &&& (3 : Int32))), .val (.ref x88), .unset] []))
        refine go (fun _ => XS.iconst X88.here hx rfl (hb hby at_98)) ?_
        show Run p e below _ (T88.setTop (mkF m 99 #[.val (.int p0), .val (.int p1), .val (.int p2), .val (.int p3), .val (.int p4), .val (.ref b63), .val (.int (p4 &&& (3 : Int32))), .val (.ref x88), .unset] [(.int (0 : Int32))]))
        refine go (fun _ => XS.istore X88.here hx rfl (hb hby at_99) rfl (l' := #[.val (.int p0), .val (.int p1), .val (.int p2), .val (.int p3), .val (.int p4), .val (.ref b63), .val (.int (p4 &&& (3 : Int32))), .val (.ref x88), .val (.int (0 : Int32))]) rfl) ?_
        show Run p e below _ (T88.setTop (mkF m 101 #[.val (.int p0), .val (.int p1), .val (.int p2), .val (.int p3), .val (.int p4), .val (.ref b63), .val (.int (p4 &&& (3 : Int32))), .val (.ref x88), .val (.int (0 : Int32))] []))
        refine go (fun _ => XS.goto X88.here hx rfl (pc0 := 101) (pc' := 111) rfl (hb hby at_101) (by decide) (by decide)) ?_
        show Run p e below _ (T88.setTop (mkF m 111 #[.val (.int p0), .val (.int p1), .val (.int p2), .val (.int p3), .val (.int p4), .val (.ref b63), .val (.int (p4 &&& (3 : Int32))), .val (.ref x88), .val (.int (0 : Int32))] []))
        refine go (fun _ => XS.aload X88.here hx rfl (hb hby at_111) rfl rfl) ?_
        show Run p e below _ (T88.setTop (mkF m 113 #[.val (.int p0), .val (.int p1), .val (.int p2), .val (.int p3), .val (.int p4), .val (.ref b63), .val (.int (p4 &&& (3 : Int32))), .val (.ref x88), .val (.int (0 : Int32))] [(.ref b63)]))
        refine go (fun _ => XS.aload X88.here hx rfl (hb hby at_113) rfl rfl) ?_
        show Run p e below _ (T88.setTop (mkF m 115 #[.val (.int p0), .val (.int p1), .val (.int p2), .val (.int p3), .val (.int p4), .val (.ref b63), .val (.int (p4 &&& (3 : Int32))), .val (.ref x88), .val (.int (0 : Int32))] [(.ref x88), (.ref b63)]))
        refine callVi X88 hx hZ hown (wd hw 50 rfl) (wd hw 51 rfl) (notFace_of_selects (args := #[]) (mvT hZ (wd hw 53 rfl))) (wd hw 53 rfl) (wd hw 52 rfl) (wd hw 54 rfl) (wd hw 2 rfl) (by decide) e88 E_b63 (argsL := [(.ref x88)]) (rest := []) (rm_eq1 l Z a0 hw [] b63 x88 h88 n0 O0 T_x88.1) (W := 0) (by decide) (by decide) (by decide) (by decide) (by rw [hml]; rfl) (lenOf pd_4 rfl) rfl (Nat.le_of_eq rfl) (hb hby at_115) ?_
        intro v90 T90 L90 h90 X90 e90 q90
        obtain ⟨rv, n90, k90⟩ := q90
        replace rv : v90 = some (.int (0 : Int32)) := rv
        subst rv
        have e90 := e90.trans k90
        have N90 := Fr.app N88 n90
        show Run p e below _ (T90.setTop (mkF m 118 #[.val (.int p0), .val (.int p1), .val (.int p2), .val (.int p3), .val (.int p4), .val (.ref b63), .val (.int (p4 &&& (3 : Int32))), .val (.ref x88), .val (.int (0 : Int32))] [(.int (0 : Int32))]))
        refine go (fun _ => XS.iload X90.here hx rfl (hb hby at_118) rfl) ?_
        show Run p e below _ (T90.setTop (mkF m 120 #[.val (.int p0), .val (.int p1), .val (.int p2), .val (.int p3), .val (.int p4), .val (.ref b63), .val (.int (p4 &&& (3 : Int32))), .val (.ref x88), .val (.int (0 : Int32))] [(.int (0 : Int32)), (.int (0 : Int32))]))
        refine go (fun _ => XS.icmpNo X90.here hx rfl (hb hby at_120) rfl (teq (by decide : (0 : Int32) = 0)).2) ?_
        show Run p e below _ (T90.setTop (mkF m 123 #[.val (.int p0), .val (.int p1), .val (.int p2), .val (.int p3), .val (.int p4), .val (.ref b63), .val (.int (p4 &&& (3 : Int32))), .val (.ref x88), .val (.int (0 : Int32))] []))
        refine go (fun _ => XS.iconst X90.here hx rfl (hb hby at_123)) ?_
        show Run p e below _ (T90.setTop (mkF m 124 #[.val (.int p0), .val (.int p1), .val (.int p2), .val (.int p3), .val (.int p4), .val (.ref b63), .val (.int (p4 &&& (3 : Int32))), .val (.ref x88), .val (.int (0 : Int32))] [(.int (1 : Int32))]))
        refine go (fun _ => XS.goto X90.here hx rfl (pc0 := 124) (pc' := 128) rfl (hb hby at_124) (by decide) (by decide)) ?_
        show Run p e below _ (T90.setTop (mkF m 128 #[.val (.int p0), .val (.int p1), .val (.int p2), .val (.int p3), .val (.int p4), .val (.ref b63), .val (.int (p4 &&& (3 : Int32))), .val (.ref x88), .val (.int (0 : Int32))] [(.int (1 : Int32))]))
        exact endNS X90 hx hlk hZ hEL e90 eS CH hS hk (t := .boolean) hret (by simp) (hb hby at_128) (⟨rfl, N90⟩) (by decide) (by decide)
      · skip
        refine go (fun _ => XS.icmpYes X68.here hx rfl (pc0 := 89) (pc' := 104) rfl (hb hby at_89) rfl (feq c87).2 (by decide) (by decide)) ?_
        show Run p e below _ (T68.setTop (mkF m 104 #[.val (.int p0), .val (.int p1), .val (.int p2), .val (.int p3), .val (.int p4), .val (.ref b63), .val (.int (p4 &&& (3 : Int32))), .unset, .unset] []))
        refine go (fun _ => XS.aload X68.here hx rfl (hb hby at_104) rfl rfl) ?_
        show Run p e below _ (T68.setTop (mkF m 106 #[.val (.int p0), .val (.int p1), .val (.int p2), .val (.int p3), .val (.int p4), .val (.ref b63), .val (.int (p4 &&& (3 : Int32))), .unset, .unset] [(.ref b63)]))
        refine go (fun _ => XS.astore X68.here hx rfl (hb hby at_106) rfl rfl (l' := #[.val (.int p0), .val (.int p1), .val (.int p2), .val (.int p3), .val (.int p4), .val (.ref b63), .val (.int (p4 &&& (3 : Int32))), .val (.ref b63), .unset]) rfl) ?_
        show Run p e below _ (T68.setTop (mkF m 108 #[.val (.int p0), .val (.int p1), .val (.int p2), .val (.int p3), .val (.int p4), .val (.ref b63), .val (.int (p4 &&& (3 : Int32))), .val (.ref b63), .unset] []))
        refine go (fun _ => XS.iconst X68.here hx rfl (hb hby at_108)) ?_
        show Run p e below _ (T68.setTop (mkF m 109 #[.val (.int p0), .val (.int p1), .val (.int p2), .val (.int p3), .val (.int p4), .val (.ref b63), .val (.int (p4 &&& (3 : Int32))), .val (.ref b63), .unset] [(.int (1 : Int32))]))
        refine go (fun _ => XS.istore X68.here hx rfl (hb hby at_109) rfl (l' := #[.val (.int p0), .val (.int p1), .val (.int p2), .val (.int p3), .val (.int p4), .val (.ref b63), .val (.int (p4 &&& (3 : Int32))), .val (.ref b63), .val (.int (1 : Int32))]) rfl) ?_
        show Run p e below _ (T68.setTop (mkF m 111 #[.val (.int p0), .val (.int p1), .val (.int p2), .val (.int p3), .val (.int p4), .val (.ref b63), .val (.int (p4 &&& (3 : Int32))), .val (.ref b63), .val (.int (1 : Int32))] []))
        refine go (fun _ => XS.aload X68.here hx rfl (hb hby at_111) rfl rfl) ?_
        show Run p e below _ (T68.setTop (mkF m 113 #[.val (.int p0), .val (.int p1), .val (.int p2), .val (.int p3), .val (.int p4), .val (.ref b63), .val (.int (p4 &&& (3 : Int32))), .val (.ref b63), .val (.int (1 : Int32))] [(.ref b63)]))
        refine go (fun _ => XS.aload X68.here hx rfl (hb hby at_113) rfl rfl) ?_
        show Run p e below _ (T68.setTop (mkF m 115 #[.val (.int p0), .val (.int p1), .val (.int p2), .val (.int p3), .val (.int p4), .val (.ref b63), .val (.int (p4 &&& (3 : Int32))), .val (.ref b63), .val (.int (1 : Int32))] [(.ref b63), (.ref b63)]))
        refine callVi X68 hx hZ hown (wd hw 50 rfl) (wd hw 51 rfl) (notFace_of_selects (args := #[]) (mvT hZ (wd hw 53 rfl))) (wd hw 53 rfl) (wd hw 52 rfl) (wd hw 54 rfl) (wd hw 2 rfl) (by decide) e68 E_b63 (argsL := [(.ref b63)]) (rest := []) (rm_eq2 l Z a0 hw [] zc b63 b63 x64 t64 kb64 (mkcs p0) x66 t66 kb66 (mkcs p1) x64 t64 kb64 (mkcs p0) x66 t66 kb66 (mkcs p1) h68 n0 O0 S_COMPACT_STRINGS hzc E_b63 F_from_b63 F_to_b63 E_b63 F_from_b63 F_to_b63 T_x64 T_x66 T_x64 T_x66 (own_in8 p0) (own_len p0) (own_in8 p1) (own_len p1) (own_in8 p0) (own_len p0) (own_in8 p1) (own_len p1)) (W := 0) (by decide) (by decide) (by decide) (by decide) (by rw [hml]; rfl) (lenOf pd_4 rfl) rfl (Nat.le_of_eq rfl) (hb hby at_115) ?_
        intro v91 T91 L91 h91 X91 e91 q91
        obtain ⟨rv, n91, k91⟩ := q91
        replace rv : v91 = some (.int (eqV (mkcs p0) (mkcs p1) (mkcs p0) (mkcs p1))) := rv
        subst rv
        have e91 := e91.trans k91
        have N91 := Fr.app N68 n91
        show Run p e below _ (T91.setTop (mkF m 118 #[.val (.int p0), .val (.int p1), .val (.int p2), .val (.int p3), .val (.int p4), .val (.ref b63), .val (.int (p4 &&& (3 : Int32))), .val (.ref b63), .val (.int (1 : Int32))] [(.int (eqV (mkcs p0) (mkcs p1) (mkcs p0) (mkcs p1)))]))
        have hR : (eqV (mkcs p0) (mkcs p1) (mkcs p0) (mkcs p1)) = (1 : Int32) := ev_g
        refine go (fun _ => XS.iload X91.here hx rfl (hb hby at_118) rfl) ?_
        show Run p e below _ (T91.setTop (mkF m 120 #[.val (.int p0), .val (.int p1), .val (.int p2), .val (.int p3), .val (.int p4), .val (.ref b63), .val (.int (p4 &&& (3 : Int32))), .val (.ref b63), .val (.int (1 : Int32))] [(.int (1 : Int32)), (.int (eqV (mkcs p0) (mkcs p1) (mkcs p0) (mkcs p1)))]))
        refine go (fun _ => XS.icmpNo X91.here hx rfl (hb hby at_120) rfl (teq hR).2) ?_
        show Run p e below _ (T91.setTop (mkF m 123 #[.val (.int p0), .val (.int p1), .val (.int p2), .val (.int p3), .val (.int p4), .val (.ref b63), .val (.int (p4 &&& (3 : Int32))), .val (.ref b63), .val (.int (1 : Int32))] []))
        refine go (fun _ => XS.iconst X91.here hx rfl (hb hby at_123)) ?_
        show Run p e below _ (T91.setTop (mkF m 124 #[.val (.int p0), .val (.int p1), .val (.int p2), .val (.int p3), .val (.int p4), .val (.ref b63), .val (.int (p4 &&& (3 : Int32))), .val (.ref b63), .val (.int (1 : Int32))] [(.int (1 : Int32))]))
        refine go (fun _ => XS.goto X91.here hx rfl (pc0 := 124) (pc' := 128) rfl (hb hby at_124) (by decide) (by decide)) ?_
        show Run p e below _ (T91.setTop (mkF m 128 #[.val (.int p0), .val (.int p1), .val (.int p2), .val (.int p3), .val (.int p4), .val (.ref b63), .val (.int (p4 &&& (3 : Int32))), .val (.ref b63), .val (.int (1 : Int32))] [(.int (1 : Int32))]))
        exact endNS X91 hx hlk hZ hEL e91 eS CH hS hk (t := .boolean) hret (by simp) (hb hby at_128) (⟨rfl, N91⟩) (by decide) (by decide)
set_option maxRecDepth 65536 in
set_option maxHeartbeats 40000000 in
theorem comes_1 {Post : Tables → Env → Array Value → State → Outcome → State → Prop} (hpost : ∀ tb e args s v u, (limb_1_1.after args s (.returned v) u = true ∧ limb_1_2.after args s (.returned v) u = true ∧ True) → FramedW s (.returned v) u (Jvm.fieldLocs frame_1_writes args s ++ Jvm.arrayLocs frame_1_arrays args s ++ Jvm.staticLocs frame_1_statics s) 40 3264 → Post tb e args s (.returned v) u) :
    ArmFor flags0 classFile x code maxLocals ret World_1 tables_1 room_1 Calls_1 rest_1 Pre_1 Post := by
  intro l hfl _ _ p e ha hc hk s m args below hf hA hF happ hP
  obtain ⟨hcalls, hrest, hpre⟩ := hP
  obtain ⟨-, -, -, hnamed, -, -, -, hat⟩ := (Spec.applies_iff hf).mp happ
  obtain ⟨hg, hn⟩ := and_e (Cond.before_iff.mp (show (Jvm.Cond.and given_1 narrow_1).before args s = true from hpre))
  obtain ⟨h1, hg⟩ := and_e hg
  obtain ⟨g0, hg⟩ := and_e hg
  obtain ⟨g1, hg⟩ := and_e hg
  obtain ⟨g2, hg⟩ := and_e hg
  obtain ⟨g3, hg⟩ := and_e hg
  have g4 := hg
  obtain ⟨w0, w1, w2, w3, w4, rfl⟩ : ∃ w0 w1 w2 w3 w4 : Value, args = #[w0, w1, w2, w3, w4] := by
    have hs : args.size = 5 := by simpa [Cond.value, given_1] using h1
    obtain ⟨L⟩ := args
    match L, hs with
    | [w0, w1, w2, w3, w4], _ => exact ⟨w0, w1, w2, w3, w4, rfl⟩
  have hw := fun d (hd : d ∈ tables_1) => atoms_spec (ws := Jvm.Cond.code x code maxLocals ret :: tables_1) hat d (List.mem_cons_of_mem _ hd)
  obtain ⟨hsets, hown0⟩ := atoms_of _ (rest_1_c_eq ▸ (show rest_1_c.before _ s = true from hrest))
  have hr0 := Cond.before_iff.mp hown0
  have hfit : Fit s := fun {y c} hc i hi => by
    obtain ⟨ha, rfl⟩ := Array.getElem?_eq_some_iff.mp hc
    have q := List.all_eq_true.mp ((Array.all_eq_true_iff_forall_mem.mp hF) _ (Array.getElem_mem ha)) i (List.mem_range.mpr hi)
    simpa [Array.getElem?_eq_getElem hi] using q
  obtain ⟨i0, ev0⟩ := is_v g0
  obtain rfl : w0 = (.int i0) := Option.some.inj ev0
  obtain ⟨i1, ev1⟩ := is_v g1
  obtain rfl : w1 = (.int i1) := Option.some.inj ev1
  obtain ⟨i2, ev2⟩ := is_v g2
  obtain rfl : w2 = (.int i2) := Option.some.inj ev2
  obtain ⟨i3, ev3⟩ := is_v g3
  obtain rfl : w3 = (.int i3) := Option.some.inj ev3
  obtain ⟨i4, ev4⟩ := is_v g4
  obtain rfl : w4 = (.int i4) := Option.some.inj ev4
  have hnz := not_v (Cond.before_iff.mp (hsets _ (List.mem_of_getElem? (i := 2) rfl)))
  obtain ⟨zc, ezc⟩ := is_v (Cond.before_iff.mp (hsets _ (List.mem_of_getElem? (i := 1) rfl)))
  have S_COMPACT_STRINGS := Sta.start ezc (Or.inl (hsets _ (List.mem_of_getElem? (i := 0) rfl)))
  have hzc : ¬ (zc = (0 : Int32)) := gotF (Cond.eq_ints ezc (Term.int_eval (0))) hnz
  have hEL : EW s _ consts_1 := (EW.cons (wd hw 36 rfl) (by decide) (EW.cons (wd hw 44 rfl) (by decide) (EW.cons (wd hw 24 rfl) (by decide) EW.nil)))
  have hCH := CHv.start hEL (fun p hp => hcalls.1 p hp) (hsets _ (List.mem_of_getElem? (i := 2) rfl)) (wd hw 25 rfl) (wd hw 11 rfl)
  obtain ⟨n, o, h1, h2, h3, _, L, rfl, ⟨rfl, N⟩, -, hq⟩ := rmlaw l s _ hw tables_1 i0 i1 i2 i3 i4 zc s.heap s.heap.size (Old.start s) hEL S_COMPACT_STRINGS hzc p e ha hc hk s m _ below hf ((Spec.applies_iff_loose hf).mp happ).1 ⟨rfl, State.Warmed39.refl s, rfl, hCH, fun _ q => by cases q⟩ trivial
  refine ⟨n, _, h1, h2, h3, hpost _ _ _ _ _ _ ⟨Cond.after_iff.mpr rfl, Cond.after_iff.mpr (eq_i res_at (Term.int_eval (1)) rfl), trivial⟩ ⟨hq.1, hq.2.1, hq.2.2.1, (hq.2.2.2.sift fun y hy => Or.inr (N y hy)).mono (by decide) (by decide)⟩⟩
theorem main_1_1 : Claimed_1_1 := comes_1 fun _ _ _ _ _ _ h hF => ⟨h.1, hF⟩
theorem main_1_2 : Claimed_1_2 := comes_1 fun _ _ _ _ _ _ h hF => ⟨h.2.1, hF⟩
end Jvm.Pilot.@@N@@
namespace Jvm.Pilot.@@N@@
open Jvm Jvm.ClassFile Sem Op Lib Jvm.Free Jvm.Stand Jvm.Pilot.@@N@@.Jvm.D
/-! MADE BY PROGRAM (witnessworld.py) out of the Statement's table words and the real class files: 21 classes; the members and pool entries that the words name. The judged class is class 1, her method 1. -/
namespace start1
open Jvm.ClassFile
def u (s : String) : CpInfo := .utf8 (stringToUtf16 s)
/-- a pool by its gaps: so many unusable entries, then the entry; so many at the end -/
def gap : Nat → List CpInfo → List CpInfo
  | 0, r => r
  | n + 1, r => .unusable :: gap n r
def poolList (es : List (Nat × CpInfo)) (last : Nat) : List CpInfo := es.foldr (fun e r => gap e.1 (e.2 :: r)) (gap last [])
def pool (es : List (Nat × CpInfo)) (last : Nat) : Array CpInfo := ⟨poolList es last⟩
def fileOf (pool : Array CpInfo) (this : Nat) (attrs : Array Attribute := #[]) (ms : Array MethodInfo := #[]) (fl : Nat := 33) (sup : Nat := 0) (ifs : Array Nat := #[]) (fds : Array FieldInfo := #[]) : ClassFile where
  minorVersion := 0
  majorVersion := 65
  constantPool := pool
  accessFlags := fl
  thisClass := this
  superClass := sup
  interfaces := ifs
  fields := fds
  methods := ms
  attributes := attrs
def plain (name : String) (sup : Option ClassId) : Class where
  name := name
  kind := .ordinary
  loader := none
  accessFlags := 33
  super := sup
  interfaces := #[]
  cf := none
  fields := #[]
  methods := #[]
  instanceTypes := #[]
  staticTypes := #[]
  resolved := #[]
  callSites := []
  init := .initialized
  statics := none
  mirror := none

def pool0 : Array CpInfo := pool [(5, u "<init>"), (0, u "()V"), (1, .class_ 10), (1, u "java/lang/Object")] 113

def k0c0 : Code := { maxStack := 0, maxLocals := 1, code := object_method_1_code, exceptionTable := #[], attributes := #[] }
def k0m0 : Method := { name := "<init>", desc := "()V", sig := { parameters := [], returnType := none }, accessFlags := 1, code := some k0c0 }
/-- java/lang/Object -/
def k0 : Class := { plain "java/lang/Object" none with
  accessFlags := 33
  interfaces := #[]
  cf := some (fileOf pool0 8 #[] #[{ accessFlags := 1, nameIndex := 5, descriptorIndex := 6, attributes := #[] }] 33 0 #[] #[])
  fields := #[]
  methods := #[k0m0]
  instanceTypes := #[]
  staticTypes := #[]
  resolved := Array.replicate 124 none
  statics := none }

def pool1 : Array CpInfo := pool [(2, .class_ 4), (1, u "java/lang/Object"), (0, u "<init>"), (0, u "()V"), (0, .class_ 8), (0, u "com/example/lateral_guard/lateralguard/core/Flow"), (0, .methodref 10 11), (0, .class_ 12), (0, .nameAndType 13 14), (0, u "com/example/lateral_guard/lateralguard/core/FlowEqualsPinLaw"), (0, u "mk"), (0, u "(I)Ljava/lang/String;"), (0, .methodref 7 16), (0, .nameAndType 5 17), (0, u "(Ljava/lang/String;Ljava/lang/String;)V"), (0, .methodref 10 19), (0, .nameAndType 20 21), (0, u "same"), (0, u "(II)Z"), (0, .methodref 7 23), (0, .nameAndType 24 25), (0, u "equals"), (0, u "(Ljava/lang/Object;)Z"), (0, .methodref 10 27), (0, .nameAndType 28 29), (0, u "len"), (0, u "(I)I"), (0, .class_ 31), (0, u "java/lang/String"), (0, .methodref 30 33), (0, .nameAndType 5 34), (0, u "([C)V"), (2, u "law"), (0, u "(IIIII)Z")] 3

def k1m0 : Method := { name := "<init>", desc := "()V", sig := { parameters := [], returnType := none }, accessFlags := 1, code := none }
def k1c1 : Code := { maxStack := 4, maxLocals := 9, code := code, exceptionTable := #[], attributes := #[] }
def k1m1 : Method := { name := "law", desc := "(IIIII)Z", sig := { parameters := [.int, .int, .int, .int, .int], returnType := some .boolean }, accessFlags := 9, code := some k1c1 }
def k1c2 : Code := { maxStack := 2, maxLocals := 1, code := method_3_code, exceptionTable := #[], attributes := #[] }
def k1m2 : Method := { name := "len", desc := "(I)I", sig := { parameters := [.int], returnType := some .int }, accessFlags := 10, code := some k1c2 }
def k1c3 : Code := { maxStack := 6, maxLocals := 4, code := method_4_code, exceptionTable := #[], attributes := #[] }
def k1m3 : Method := { name := "mk", desc := "(I)Ljava/lang/String;", sig := { parameters := [.int], returnType := some (.object "java/lang/String") }, accessFlags := 10, code := some k1c3 }
def k1c4 : Code := { maxStack := 3, maxLocals := 4, code := method_5_code, exceptionTable := #[], attributes := #[] }
def k1m4 : Method := { name := "same", desc := "(II)Z", sig := { parameters := [.int, .int], returnType := some .boolean }, accessFlags := 10, code := some k1c4 }
/-- com/example/lateral_guard/lateralguard/core/FlowEqualsPinLaw -/
def k1 : Class := { plain "com/example/lateral_guard/lateralguard/core/FlowEqualsPinLaw" (some 0) with
  accessFlags := 49
  interfaces := #[]
  cf := some (fileOf pool1 10 #[] #[{ accessFlags := 1, nameIndex := 5, descriptorIndex := 6, attributes := #[] }, { accessFlags := 9, nameIndex := 37, descriptorIndex := 38, attributes := #[] }, { accessFlags := 10, nameIndex := 28, descriptorIndex := 29, attributes := #[] }, { accessFlags := 10, nameIndex := 13, descriptorIndex := 14, attributes := #[] }, { accessFlags := 10, nameIndex := 20, descriptorIndex := 21, attributes := #[] }] 49 2 #[] #[])
  fields := #[]
  methods := #[k1m0, k1m1, k1m2, k1m3, k1m4]
  instanceTypes := #[]
  staticTypes := #[]
  resolved := Array.replicate 42 none
  statics := none }

def pool2 : Array CpInfo := pool [(1, .methodref 2 3), (0, .class_ 4), (0, .nameAndType 5 6), (0, u "java/lang/Object"), (0, u "<init>"), (0, u "()V"), (0, .string 8), (0, u "from"), (0, .methodref 10 11), (0, .class_ 12), (0, .nameAndType 13 14), (0, u "java/util/Objects"), (0, u "requireNonNull"), (0, u "(Ljava/lang/Object;Ljava/lang/String;)Ljava/lang/Object;"), (0, .class_ 16), (0, u "java/lang/String"), (0, .fieldref 18 19), (0, .class_ 20), (0, .nameAndType 8 21), (0, u "com/example/lateral_guard/lateralguard/core/Flow"), (0, u "Ljava/lang/String;"), (0, .string 23), (0, u "to"), (0, .fieldref 18 25), (0, .nameAndType 23 21), (0, .methodref 15 27), (0, .nameAndType 28 29), (0, u "equals"), (0, u "(Ljava/lang/Object;)Z"), (8, u "(Ljava/lang/String;Ljava/lang/String;)V")] 24

def k2c0 : Code := { maxStack := 3, maxLocals := 3, code := prog_31_method_1_code, exceptionTable := #[], attributes := #[] }
def k2m0 : Method := { name := "<init>", desc := "(Ljava/lang/String;Ljava/lang/String;)V", sig := { parameters := [(.object "java/lang/String"), (.object "java/lang/String")], returnType := none }, accessFlags := 1, code := some k2c0 }
def k2c1 : Code := { maxStack := 2, maxLocals := 3, code := prog_31_method_4_code, exceptionTable := #[], attributes := #[] }
def k2m1 : Method := { name := "equals", desc := "(Ljava/lang/Object;)Z", sig := { parameters := [(.object "java/lang/Object")], returnType := some .boolean }, accessFlags := 1, code := some k2c1 }
/-- com/example/lateral_guard/lateralguard/core/Flow -/
def k2 : Class := { plain "com/example/lateral_guard/lateralguard/core/Flow" (some 0) with
  accessFlags := 49
  interfaces := #[]
  cf := some (fileOf pool2 18 #[] #[{ accessFlags := 1, nameIndex := 5, descriptorIndex := 38, attributes := #[] }, { accessFlags := 1, nameIndex := 28, descriptorIndex := 29, attributes := #[] }] 49 2 #[] #[{ accessFlags := 18, nameIndex := 8, descriptorIndex := 21, attributes := #[] }, { accessFlags := 18, nameIndex := 23, descriptorIndex := 21, attributes := #[] }])
  fields := #[{ name := "from", type := (.object "java/lang/String"), accessFlags := 18, slot := 0, constantValue := 0 }, { name := "to", type := (.object "java/lang/String"), accessFlags := 18, slot := 1, constantValue := 0 }]
  methods := #[k2m0, k2m1]
  instanceTypes := #[(.object "java/lang/String"), (.object "java/lang/String")]
  staticTypes := #[]
  resolved := Array.replicate 63 none
  statics := none }

def pool3 : Array CpInfo := pool [(1, .class_ 2), (0, u "java/io/Serializable"), (0, .class_ 4), (0, u "java/lang/Object")] 2

/-- java/io/Serializable -/
def k3 : Class := { plain "java/io/Serializable" (some 0) with
  accessFlags := 1537
  interfaces := #[]
  cf := some (fileOf pool3 1 #[] #[] 1537 3 #[] #[])
  fields := #[]
  methods := #[]
  instanceTypes := #[]
  staticTypes := #[]
  resolved := Array.replicate 7 none
  statics := none }

def pool4 : Array CpInfo := pool [(1, .class_ 2), (0, u "java/lang/Comparable"), (0, .class_ 4), (0, u "java/lang/Object")] 7

/-- java/lang/Comparable -/
def k4 : Class := { plain "java/lang/Comparable" (some 0) with
  accessFlags := 1537
  interfaces := #[]
  cf := some (fileOf pool4 1 #[] #[] 1537 3 #[] #[])
  fields := #[]
  methods := #[]
  instanceTypes := #[]
  staticTypes := #[]
  resolved := Array.replicate 12 none
  statics := none }

def pool5 : Array CpInfo := pool [(2, .class_ 4), (1, u "java/lang/CharSequence"), (42, .class_ 48), (0, u "java/lang/CharSequence$1CodePointIterator"), (10, .class_ 60), (0, u "java/lang/CharSequence$1CharIterator"), (5, .class_ 67), (0, u "java/lang/Object")] 63

/-- java/lang/CharSequence -/
def k5 : Class := { plain "java/lang/CharSequence" (some 0) with
  accessFlags := 1537
  interfaces := #[]
  cf := some (fileOf pool5 2 #[.nestMembers #[47, 59]] #[] 1537 66 #[] #[])
  fields := #[]
  methods := #[]
  instanceTypes := #[]
  staticTypes := #[]
  resolved := Array.replicate 131 none
  statics := none }

def pool6 : Array CpInfo := pool [(1, .class_ 2), (0, u "java/lang/constant/Constable"), (0, .class_ 4), (0, u "java/lang/Object")] 6

/-- java/lang/constant/Constable -/
def k6 : Class := { plain "java/lang/constant/Constable" (some 0) with
  accessFlags := 1537
  interfaces := #[]
  cf := some (fileOf pool6 1 #[] #[] 1537 3 #[] #[])
  fields := #[]
  methods := #[]
  instanceTypes := #[]
  staticTypes := #[]
  resolved := Array.replicate 11 none
  statics := none }

def pool7 : Array CpInfo := pool [(1, .class_ 2), (0, u "java/lang/constant/ConstantDesc"), (0, .class_ 4), (0, u "java/lang/Object")] 32

/-- java/lang/constant/ConstantDesc -/
def k7 : Class := { plain "java/lang/constant/ConstantDesc" (some 0) with
  accessFlags := 1537
  interfaces := #[]
  cf := some (fileOf pool7 1 #[] #[] 1537 3 #[] #[])
  fields := #[]
  methods := #[]
  instanceTypes := #[]
  staticTypes := #[]
  resolved := Array.replicate 37 none
  statics := none }

def pool8 : Array CpInfo := pool [(1, .methodref 2 3), (0, .class_ 4), (0, .nameAndType 5 6), (0, u "java/lang/Object"), (0, u "<init>"), (0, u "()V"), (0, .string 8), (0, u ""), (0, .fieldref 10 11), (0, .class_ 12), (0, .nameAndType 13 14), (0, u "java/lang/String"), (0, u "value"), (0, u "[B"), (0, .fieldref 10 16), (0, .nameAndType 17 18), (0, u "coder"), (0, u "B"), (2, u "hash"), (0, u "I"), (2, u "hashIsZero"), (0, u "Z"), (0, .methodref 10 28), (0, .nameAndType 5 29), (0, u "([CIILjava/lang/Void;)V"), (8, .fieldref 10 39), (0, .nameAndType 40 26), (0, u "COMPACT_STRINGS"), (1, .class_ 44), (1, u "java/lang/StringUTF16"), (0, u "compress"), (1, .methodref 42 48), (0, .nameAndType 49 50), (0, u "coderFromArrayLen"), (0, u "([BI)B"), (56, .class_ 109), (1, u "java/lang/StringLatin1"), (67, .methodref 42 178), (0, .nameAndType 45 179), (0, u "([CII)[B"), (361, .methodref 107 542), (0, .nameAndType 543 544), (0, u "equals"), (0, u "([B[B)Z"), (28, u "(Ljava/lang/Object;)Z"), (1, .class_ 576), (0, u "java/lang/CharSequence"), (22, u "CASE_INSENSITIVE_ORDER"), (0, u "Ljava/util/Comparator;"), (409, u "([C)V"), (90, u "serialPersistentFields"), (0, u "[Ljava/io/ObjectStreamField;"), (0, .class_ 1104), (0, u "java/lang/String$CaseInsensitiveComparator"), (1, .class_ 1107), (0, u "java/io/Serializable"), (0, .class_ 1109), (0, u "java/lang/Comparable"), (0, .class_ 1111), (0, u "java/lang/constant/Constable"), (0, .class_ 1113), (0, u "java/lang/constant/ConstantDesc"), (2, u "serialVersionUID"), (0, u "J"), (3, u "REPL"), (0, u "C"), (2, u "LATIN1"), (1, u "UTF16")] 323

def k8m0 : Method := { name := "<init>", desc := "()V", sig := { parameters := [], returnType := none }, accessFlags := 1, code := none }
def k8c1 : Code := { maxStack := 5, maxLocals := 2, code := jdk_42_method_3_code, exceptionTable := #[], attributes := #[] }
def k8m1 : Method := { name := "<init>", desc := "([C)V", sig := { parameters := [(.array .char)], returnType := none }, accessFlags := 1, code := some k8c1 }
def k8c2 : Code := { maxStack := 2, maxLocals := 3, code := jdk_42_method_66_code, exceptionTable := #[], attributes := #[] }
def k8m2 : Method := { name := "equals", desc := "(Ljava/lang/Object;)Z", sig := { parameters := [(.object "java/lang/Object")], returnType := some .boolean }, accessFlags := 1, code := some k8c2 }
def k8c3 : Code := { maxStack := 4, maxLocals := 6, code := jdk_42_method_149_code, exceptionTable := #[], attributes := #[] }
def k8m3 : Method := { name := "<init>", desc := "([CIILjava/lang/Void;)V", sig := { parameters := [(.array .char), .int, .int, (.object "java/lang/Void")], returnType := none }, accessFlags := 2, code := some k8c3 }
/-- java/lang/String -/
def k8 : Class := { plain "java/lang/String" (some 0) with
  accessFlags := 49
  interfaces := #[3, 4, 5, 6, 7]
  cf := some (fileOf pool8 10 #[.nestMembers #[1103]] #[{ accessFlags := 1, nameIndex := 5, descriptorIndex := 6, attributes := #[] }, { accessFlags := 1, nameIndex := 5, descriptorIndex := 1010, attributes := #[] }, { accessFlags := 1, nameIndex := 543, descriptorIndex := 573, attributes := #[] }, { accessFlags := 2, nameIndex := 5, descriptorIndex := 29, attributes := #[] }] 49 2 #[1106, 1108, 575, 1110, 1112] #[{ accessFlags := 18, nameIndex := 13, descriptorIndex := 14, attributes := #[] }, { accessFlags := 18, nameIndex := 17, descriptorIndex := 18, attributes := #[] }, { accessFlags := 2, nameIndex := 21, descriptorIndex := 22, attributes := #[] }, { accessFlags := 2, nameIndex := 25, descriptorIndex := 26, attributes := #[] }, { accessFlags := 26, nameIndex := 1116, descriptorIndex := 1117, attributes := #[] }, { accessFlags := 24, nameIndex := 40, descriptorIndex := 26, attributes := #[] }, { accessFlags := 26, nameIndex := 1101, descriptorIndex := 1102, attributes := #[] }, { accessFlags := 26, nameIndex := 1121, descriptorIndex := 1122, attributes := #[] }, { accessFlags := 25, nameIndex := 599, descriptorIndex := 600, attributes := #[] }, { accessFlags := 24, nameIndex := 1125, descriptorIndex := 18, attributes := #[] }, { accessFlags := 24, nameIndex := 1127, descriptorIndex := 18, attributes := #[] }])
  fields := #[{ name := "value", type := (.array .byte), accessFlags := 18, slot := 0, constantValue := 0 }, { name := "coder", type := .byte, accessFlags := 18, slot := 1, constantValue := 0 }, { name := "hash", type := .int, accessFlags := 2, slot := 2, constantValue := 0 }, { name := "hashIsZero", type := .boolean, accessFlags := 2, slot := 3, constantValue := 0 }, { name := "serialVersionUID", type := .long, accessFlags := 26, slot := 0, constantValue := 0 }, { name := "COMPACT_STRINGS", type := .boolean, accessFlags := 24, slot := 1, constantValue := 0 }, { name := "serialPersistentFields", type := (.array (.object "java/io/ObjectStreamField")), accessFlags := 26, slot := 2, constantValue := 0 }, { name := "REPL", type := .char, accessFlags := 26, slot := 3, constantValue := 0 }, { name := "CASE_INSENSITIVE_ORDER", type := (.object "java/util/Comparator"), accessFlags := 25, slot := 4, constantValue := 0 }, { name := "LATIN1", type := .byte, accessFlags := 24, slot := 5, constantValue := 0 }, { name := "UTF16", type := .byte, accessFlags := 24, slot := 6, constantValue := 0 }]
  methods := #[k8m0, k8m1, k8m2, k8m3]
  instanceTypes := #[(.array .byte), .byte, .int, .boolean]
  staticTypes := #[.long, .boolean, (.array (.object "java/io/ObjectStreamField")), .char, (.object "java/util/Comparator"), .byte, .byte]
  resolved := Array.replicate 1451 none
  statics := some 0 }

def pool9 : Array CpInfo := pool [(2, .class_ 4), (1, u "java/lang/Object"), (0, u "<init>"), (0, u "()V"), (35, .class_ 44), (1, u "java/util/Objects"), (0, u "requireNonNull"), (48, u "(Ljava/lang/Object;Ljava/lang/String;)Ljava/lang/Object;")] 89

def k9m0 : Method := { name := "<init>", desc := "()V", sig := { parameters := [], returnType := none }, accessFlags := 2, code := none }
def k9c1 : Code := { maxStack := 3, maxLocals := 2, code := jdk_31_method_11_code, exceptionTable := #[], attributes := #[] }
def k9m1 : Method := { name := "requireNonNull", desc := "(Ljava/lang/Object;Ljava/lang/String;)Ljava/lang/Object;", sig := { parameters := [(.object "java/lang/Object"), (.object "java/lang/String")], returnType := some (.object "java/lang/Object") }, accessFlags := 9, code := some k9c1 }
/-- java/util/Objects -/
def k9 : Class := { plain "java/util/Objects" (some 0) with
  accessFlags := 49
  interfaces := #[]
  cf := some (fileOf pool9 42 #[] #[{ accessFlags := 2, nameIndex := 5, descriptorIndex := 6, attributes := #[] }, { accessFlags := 9, nameIndex := 45, descriptorIndex := 94, attributes := #[] }] 49 2 #[] #[])
  fields := #[]
  methods := #[k9m0, k9m1]
  instanceTypes := #[]
  staticTypes := #[]
  resolved := Array.replicate 184 none
  statics := none }

def pool10 : Array CpInfo := pool [(4, .class_ 6), (1, u "java/lang/Object"), (0, u "<init>"), (0, u "()V"), (5, .class_ 16), (1, u "java/lang/StringLatin1"), (104, u "$assertionsDisabled"), (0, u "Z"), (98, .class_ 223), (1, u "java/lang/StringLatin1$LinesSpliterator"), (57, u "equals"), (0, u "([B[B)Z"), (107, .class_ 391), (0, u "java/lang/StringLatin1$CharsSpliterator")] 3

def k10m0 : Method := { name := "<init>", desc := "()V", sig := { parameters := [], returnType := none }, accessFlags := 0, code := none }
def k10c1 : Code := { maxStack := 3, maxLocals := 3, code := jdk_43_method_13_code, exceptionTable := #[], attributes := #[] }
def k10m1 : Method := { name := "equals", desc := "([B[B)Z", sig := { parameters := [(.array .byte), (.array .byte)], returnType := some .boolean }, accessFlags := 9, code := some k10c1 }
/-- java/lang/StringLatin1 -/
def k10 : Class := { plain "java/lang/StringLatin1" (some 0) with
  accessFlags := 48
  interfaces := #[]
  cf := some (fileOf pool10 14 #[.nestMembers #[390, 221]] #[{ accessFlags := 0, nameIndex := 7, descriptorIndex := 8, attributes := #[] }, { accessFlags := 9, nameIndex := 281, descriptorIndex := 282, attributes := #[] }] 48 4 #[] #[{ accessFlags := 4120, nameIndex := 121, descriptorIndex := 122, attributes := #[] }])
  fields := #[{ name := "$assertionsDisabled", type := .boolean, accessFlags := 4120, slot := 0, constantValue := 0 }]
  methods := #[k10m0, k10m1]
  instanceTypes := #[]
  staticTypes := #[.boolean]
  resolved := Array.replicate 395 none
  statics := none }

def pool11 : Array CpInfo := pool [(6, .class_ 8), (1, u "java/lang/Object"), (0, u "<init>"), (0, u "()V"), (1, .class_ 14), (1, u "java/lang/StringUTF16"), (31, u "$assertionsDisabled"), (0, u "Z"), (13, u "HI_BYTE_SHIFT"), (0, u "I"), (2, u "LO_BYTE_SHIFT"), (49, .methodref 12 116), (0, .nameAndType 117 118), (0, u "compress"), (0, u "([CI[BII)I"), (3, u "([CII)[B"), (138, u "coderFromArrayLen"), (0, u "([BI)B"), (106, .class_ 371), (1, u "java/lang/StringUTF16$LinesSpliterator"), (58, u "MAX_LENGTH"), (196, .class_ 628), (0, u "java/lang/StringUTF16$CodePointsSpliterator"), (0, .class_ 630), (0, u "java/lang/StringUTF16$CharsSpliterator")] 4

def k11m0 : Method := { name := "<init>", desc := "()V", sig := { parameters := [], returnType := none }, accessFlags := 0, code := none }
def k11c1 : Code := { maxStack := 2, maxLocals := 2, code := jdk_52_method_15_code, exceptionTable := #[], attributes := #[] }
def k11m1 : Method := { name := "coderFromArrayLen", desc := "([BI)B", sig := { parameters := [(.array .byte), .int], returnType := some .byte }, accessFlags := 8, code := some k11c1 }
def k11c2 : Code := { maxStack := 5, maxLocals := 6, code := jdk_52_method_16_code, exceptionTable := #[], attributes := #[] }
def k11m2 : Method := { name := "compress", desc := "([CII)[B", sig := { parameters := [(.array .char), .int, .int], returnType := some (.array .byte) }, accessFlags := 9, code := some k11c2 }
def k11c3 : Code := { maxStack := 3, maxLocals := 7, code := jdk_52_method_21_code, exceptionTable := #[], attributes := #[] }
def k11m3 : Method := { name := "compress", desc := "([CI[BII)I", sig := { parameters := [(.array .char), .int, (.array .byte), .int, .int], returnType := some .int }, accessFlags := 9, code := some k11c3 }
/-- java/lang/StringUTF16 -/
def k11 : Class := { plain "java/lang/StringUTF16" (some 0) with
  accessFlags := 48
  interfaces := #[]
  cf := some (fileOf pool11 12 #[.nestMembers #[627, 629, 369]] #[{ accessFlags := 0, nameIndex := 9, descriptorIndex := 10, attributes := #[] }, { accessFlags := 8, nameIndex := 261, descriptorIndex := 262, attributes := #[] }, { accessFlags := 9, nameIndex := 117, descriptorIndex := 122, attributes := #[] }, { accessFlags := 9, nameIndex := 117, descriptorIndex := 118, attributes := #[] }] 48 6 #[] #[{ accessFlags := 26, nameIndex := 61, descriptorIndex := 62, attributes := #[] }, { accessFlags := 26, nameIndex := 65, descriptorIndex := 62, attributes := #[] }, { accessFlags := 24, nameIndex := 430, descriptorIndex := 62, attributes := #[] }, { accessFlags := 4120, nameIndex := 46, descriptorIndex := 47, attributes := #[] }])
  fields := #[{ name := "HI_BYTE_SHIFT", type := .int, accessFlags := 26, slot := 0, constantValue := 0 }, { name := "LO_BYTE_SHIFT", type := .int, accessFlags := 26, slot := 1, constantValue := 0 }, { name := "MAX_LENGTH", type := .int, accessFlags := 24, slot := 2, constantValue := 0 }, { name := "$assertionsDisabled", type := .boolean, accessFlags := 4120, slot := 3, constantValue := 0 }]
  methods := #[k11m0, k11m1, k11m2, k11m3]
  instanceTypes := #[]
  staticTypes := #[.int, .int, .int, .boolean]
  resolved := Array.replicate 635 none
  statics := none }

def pool12 : Array CpInfo := pool [(2, .class_ 4), (1, u "java/lang/Object"), (0, u "<init>"), (0, u "()V"), (17, .class_ 26), (1, u "jdk/internal/util/Preconditions"), (28, .class_ 56), (0, u "jdk/internal/util/Preconditions$4"), (57, .class_ 115), (0, u "jdk/internal/util/Preconditions$1"), (7, u "SIOOBE_FORMATTER"), (0, u "Ljava/util/function/BiFunction;"), (0, .class_ 126), (0, u "jdk/internal/util/Preconditions$2"), (3, u "AIOOBE_FORMATTER"), (0, .class_ 132), (0, u "jdk/internal/util/Preconditions$3"), (3, u "IOOBE_FORMATTER")] 57

def k12m0 : Method := { name := "<init>", desc := "()V", sig := { parameters := [], returnType := none }, accessFlags := 1, code := none }
/-- jdk/internal/util/Preconditions -/
def k12 : Class := { plain "jdk/internal/util/Preconditions" (some 0) with
  accessFlags := 33
  interfaces := #[]
  cf := some (fileOf pool12 24 #[.nestMembers #[55, 131, 125, 114]] #[{ accessFlags := 1, nameIndex := 5, descriptorIndex := 6, attributes := #[] }] 33 2 #[] #[{ accessFlags := 25, nameIndex := 123, descriptorIndex := 124, attributes := #[] }, { accessFlags := 25, nameIndex := 130, descriptorIndex := 124, attributes := #[] }, { accessFlags := 25, nameIndex := 136, descriptorIndex := 124, attributes := #[] }])
  fields := #[{ name := "SIOOBE_FORMATTER", type := (.object "java/util/function/BiFunction"), accessFlags := 25, slot := 0, constantValue := 0 }, { name := "AIOOBE_FORMATTER", type := (.object "java/util/function/BiFunction"), accessFlags := 25, slot := 1, constantValue := 0 }, { name := "IOOBE_FORMATTER", type := (.object "java/util/function/BiFunction"), accessFlags := 25, slot := 2, constantValue := 0 }]
  methods := #[k12m0]
  instanceTypes := #[]
  staticTypes := #[(.object "java/util/function/BiFunction"), (.object "java/util/function/BiFunction"), (.object "java/util/function/BiFunction")]
  resolved := Array.replicate 194 none
  statics := some 1 }

def pool13 : Array CpInfo := pool [(9, u "<init>"), (6, .class_ 18), (1, u "java/lang/Object"), (0, u "()V"), (1, .class_ 23), (1, u "jdk/internal/util/ArraysSupport"), (0, u "LOG2_ARRAY_LONG_INDEX_SCALE"), (0, u "I"), (2, u "U"), (0, u "Ljdk/internal/misc/Unsafe;"), (8, u "BIG_ENDIAN"), (0, u "Z"), (8, u "LOG2_BYTE_BIT_SIZE"), (4, u "LOG2_ARRAY_INT_INDEX_SCALE"), (54, u "JLA"), (0, u "Ljdk/internal/access/JavaLangAccess;"), (11, u "LOG2_ARRAY_BOOLEAN_INDEX_SCALE"), (9, u "LOG2_ARRAY_BYTE_INDEX_SCALE"), (5, u "LOG2_ARRAY_CHAR_INDEX_SCALE"), (5, u "LOG2_ARRAY_SHORT_INDEX_SCALE"), (18, u "LOG2_ARRAY_FLOAT_INDEX_SCALE"), (24, u "LOG2_ARRAY_DOUBLE_INDEX_SCALE"), (89, u "T_BOOLEAN"), (2, u "T_CHAR"), (1, u "T_FLOAT"), (1, u "T_DOUBLE"), (1, u "T_BYTE"), (1, u "T_SHORT"), (1, u "T_INT"), (1, u "T_LONG"), (1, u "SOFT_MAX_ARRAY_LENGTH")] 83

def k13m0 : Method := { name := "<init>", desc := "()V", sig := { parameters := [], returnType := none }, accessFlags := 2, code := none }
/-- jdk/internal/util/ArraysSupport -/
def k13 : Class := { plain "jdk/internal/util/ArraysSupport" (some 0) with
  accessFlags := 33
  interfaces := #[]
  cf := some (fileOf pool13 21 #[] #[{ accessFlags := 2, nameIndex := 9, descriptorIndex := 19, attributes := #[] }] 33 16 #[] #[{ accessFlags := 24, nameIndex := 28, descriptorIndex := 29, attributes := #[] }, { accessFlags := 26, nameIndex := 38, descriptorIndex := 39, attributes := #[] }, { accessFlags := 25, nameIndex := 121, descriptorIndex := 25, attributes := #[] }, { accessFlags := 25, nameIndex := 131, descriptorIndex := 25, attributes := #[] }, { accessFlags := 25, nameIndex := 137, descriptorIndex := 25, attributes := #[] }, { accessFlags := 25, nameIndex := 143, descriptorIndex := 25, attributes := #[] }, { accessFlags := 25, nameIndex := 53, descriptorIndex := 25, attributes := #[] }, { accessFlags := 25, nameIndex := 24, descriptorIndex := 25, attributes := #[] }, { accessFlags := 25, nameIndex := 162, descriptorIndex := 25, attributes := #[] }, { accessFlags := 25, nameIndex := 187, descriptorIndex := 25, attributes := #[] }, { accessFlags := 26, nameIndex := 48, descriptorIndex := 25, attributes := #[] }, { accessFlags := 25, nameIndex := 277, descriptorIndex := 25, attributes := #[] }, { accessFlags := 25, nameIndex := 280, descriptorIndex := 25, attributes := #[] }, { accessFlags := 25, nameIndex := 282, descriptorIndex := 25, attributes := #[] }, { accessFlags := 25, nameIndex := 284, descriptorIndex := 25, attributes := #[] }, { accessFlags := 25, nameIndex := 286, descriptorIndex := 25, attributes := #[] }, { accessFlags := 25, nameIndex := 288, descriptorIndex := 25, attributes := #[] }, { accessFlags := 25, nameIndex := 290, descriptorIndex := 25, attributes := #[] }, { accessFlags := 25, nameIndex := 292, descriptorIndex := 25, attributes := #[] }, { accessFlags := 26, nameIndex := 108, descriptorIndex := 109, attributes := #[] }, { accessFlags := 25, nameIndex := 294, descriptorIndex := 25, attributes := #[] }])
  fields := #[{ name := "U", type := (.object "jdk/internal/misc/Unsafe"), accessFlags := 24, slot := 0, constantValue := 0 }, { name := "BIG_ENDIAN", type := .boolean, accessFlags := 26, slot := 1, constantValue := 0 }, { name := "LOG2_ARRAY_BOOLEAN_INDEX_SCALE", type := .int, accessFlags := 25, slot := 2, constantValue := 0 }, { name := "LOG2_ARRAY_BYTE_INDEX_SCALE", type := .int, accessFlags := 25, slot := 3, constantValue := 0 }, { name := "LOG2_ARRAY_CHAR_INDEX_SCALE", type := .int, accessFlags := 25, slot := 4, constantValue := 0 }, { name := "LOG2_ARRAY_SHORT_INDEX_SCALE", type := .int, accessFlags := 25, slot := 5, constantValue := 0 }, { name := "LOG2_ARRAY_INT_INDEX_SCALE", type := .int, accessFlags := 25, slot := 6, constantValue := 0 }, { name := "LOG2_ARRAY_LONG_INDEX_SCALE", type := .int, accessFlags := 25, slot := 7, constantValue := 0 }, { name := "LOG2_ARRAY_FLOAT_INDEX_SCALE", type := .int, accessFlags := 25, slot := 8, constantValue := 0 }, { name := "LOG2_ARRAY_DOUBLE_INDEX_SCALE", type := .int, accessFlags := 25, slot := 9, constantValue := 0 }, { name := "LOG2_BYTE_BIT_SIZE", type := .int, accessFlags := 26, slot := 10, constantValue := 0 }, { name := "T_BOOLEAN", type := .int, accessFlags := 25, slot := 11, constantValue := 0 }, { name := "T_CHAR", type := .int, accessFlags := 25, slot := 12, constantValue := 0 }, { name := "T_FLOAT", type := .int, accessFlags := 25, slot := 13, constantValue := 0 }, { name := "T_DOUBLE", type := .int, accessFlags := 25, slot := 14, constantValue := 0 }, { name := "T_BYTE", type := .int, accessFlags := 25, slot := 15, constantValue := 0 }, { name := "T_SHORT", type := .int, accessFlags := 25, slot := 16, constantValue := 0 }, { name := "T_INT", type := .int, accessFlags := 25, slot := 17, constantValue := 0 }, { name := "T_LONG", type := .int, accessFlags := 25, slot := 18, constantValue := 0 }, { name := "JLA", type := (.object "jdk/internal/access/JavaLangAccess"), accessFlags := 26, slot := 19, constantValue := 0 }, { name := "SOFT_MAX_ARRAY_LENGTH", type := .int, accessFlags := 25, slot := 20, constantValue := 0 }]
  methods := #[k13m0]
  instanceTypes := #[]
  staticTypes := #[(.object "jdk/internal/misc/Unsafe"), .boolean, .int, .int, .int, .int, .int, .int, .int, .int, .int, .int, .int, .int, .int, .int, .int, .int, .int, (.object "jdk/internal/access/JavaLangAccess"), .int]
  resolved := Array.replicate 378 none
  statics := none }

def pool14 : Array CpInfo := pool [(1, u "java/lang/Cloneable"), (0, .class_ 1), (0, u "java/lang/Object"), (0, .class_ 3)] 3

/-- java/lang/Cloneable -/
def k14 : Class := { plain "java/lang/Cloneable" (some 0) with
  accessFlags := 1537
  interfaces := #[]
  cf := some (fileOf pool14 2 #[] #[] 1537 4 #[] #[])
  fields := #[]
  methods := #[]
  instanceTypes := #[]
  staticTypes := #[]
  resolved := Array.replicate 8 none
  statics := none }

/-- the primitive byte -/
def k15 : Class := { plain "byte" none with kind := .primitive 'B', accessFlags := 0x411 }
/-- [B -/
def k16 : Class := { plain "[B" (some 0) with kind := .array 15 .byte, interfaces := #[14, 3], accessFlags := 1041 }

/-- the primitive char -/
def k17 : Class := { plain "char" none with kind := .primitive 'C', accessFlags := 0x411 }
/-- [C -/
def k18 : Class := { plain "[C" (some 0) with kind := .array 17 .char, interfaces := #[14, 3], accessFlags := 1041 }

/-- the primitive int -/
def k19 : Class := { plain "int" none with kind := .primitive 'I', accessFlags := 0x411 }
/-- [I -/
def k20 : Class := { plain "[I" (some 0) with kind := .array 19 .int, interfaces := #[14, 3], accessFlags := 1041 }

def heap : Heap := #[{ cls := 8, slots := #[.long 0, .int 1, .null, .int 0, .null, .int 0, .int 0], vm := .statics 8 },
  { cls := 12, slots := #[.null, .null, .null], vm := .statics 12 }]
def classes : Array Class := #[k0, k1, k2, k3, k4, k5, k6, k7, k8, k9, k10, k11, k12, k13, k14, k15, k16, k17, k18, k19, k20]
def interned : List (Array UInt16 × Addr) := []
def slotsUsed : Nat := 10
def theMethod : MethodId := ⟨1, 1⟩
def args0 : Array Value := #[.int 1, .int 2, .int 3, .int 4, .int 0]
def aboutOver (below : List Frame) : State where
  vm := { classes := classes, interned := interned.toArray }
  heap := heap
  slotsUsed := slotsUsed
  threads := #[{ frames := .invoking theMethod args0 :: below }]
def below0 : List Frame := [.native { method := ⟨0, 0⟩, args := #[] }]
def about1 : State := aboutOver below0
def p0 : Program := .bare "" "" ""
def e0 : Env := launch0.env 0 0 0
theorem w_frames : about1.frames = Frame.invoking theMethod args0 :: below0 := rfl
set_option maxRecDepth 65536 in
theorem w_args : argsFit about1.vm theMethod args0 = true := by decide +kernel
set_option maxRecDepth 65536 in
theorem w_heap : heapFits about1 = true := by decide +kernel
set_option maxRecDepth 65536 in
theorem w_runnable : about1.curStatus? = some .runnable := by decide +kernel
set_option maxRecDepth 65536 in
theorem w_alone : about1.alone = true := by decide +kernel
set_option maxRecDepth 65536 in
theorem w_named : about1.methodNamed? x = some theMethod := by decide +kernel
set_option maxRecDepth 65536 in
theorem w_hears : about1.hears theMethod below0 = true := by decide +kernel
set_option maxRecDepth 65536 in
theorem w_ripe : about1.ripe theMethod args0 below0 = true := by decide +kernel
theorem w_running : about1.status = .running := rfl
set_option maxRecDepth 65536 in
theorem w_room : about1.hasRoom e0.platform room_1 = true :=
  launch0.hasRoom_least _ room_1 (by decide +kernel) (by decide +kernel) (by decide +kernel) (by decide +kernel) (by decide +kernel) (by decide +kernel)
theorem allAtoms_all (ts : List Jvm.Cond) (a : Array Jvm.Value) (st : Jvm.State) : (allAtoms ts).before a st = ts.all (fun c => c.before a st) := by
  induction ts with
  | nil => rfl
  | cons c t ih =>
    show (Jvm.Cond.and c (allAtoms t)).before a st = _
    rw [Jvm.Cond.before_and, ih, List.all_cons]
def words1 : List Jvm.Cond := Jvm.Cond.code x code maxLocals ret :: tables_1
/-- a 'code' word, met by the world's own term for the bytes: nothing is compared byte by byte -/
theorem code_word {y : MethodName} {bytes : ByteArray} {mx : Nat} {rt : Option FieldType} {a : Array Value} {s : State} {m : MethodId} {meth : Method} {c : Code} (h1 : s.methodNamed? y = some m) (h2 : s.vm.method? m = some meth) (h3 : meth.code = some c) (h4 : c.code = bytes)
    (h5 : (c.maxLocals == mx && c.exceptionTable.isEmpty && decide (c.maxStack ≤ mostOperands) && decide (meth.sig.returnType = rt) && !meth.locks && decide (parseMethodDescriptor y.desc = some meth.sig)) = true) : (Jvm.Cond.code y bytes mx rt).before a s = true := by
  simp only [Bool.and_eq_true, beq_iff_eq, Bool.not_eq_true', decide_eq_true_eq] at h5
  obtain ⟨⟨⟨⟨⟨g1, g2⟩, g3⟩, g4⟩, g5⟩, g6⟩ := h5
  simp [Cond.before, Cond.holds, Cond.value, h1, h2, h3, h4, g1, g2, g3, g4, g5, g6]
def isCode : Jvm.Cond → Bool
  | .code _ _ _ _ => true
  | _ => false
theorem all_split {L : List Jvm.Cond} {P : Jvm.Cond → Bool} (h1 : L.all (fun c => isCode c || P c) = true) (h2 : ∀ c ∈ L.filter isCode, P c = true) : L.all P = true := by
  refine List.all_eq_true.mpr fun c hc => ?_
  have h := List.all_eq_true.mp h1 c hc
  rcases Bool.eq_false_or_eq_true (isCode c) with hi | hi
  · exact h2 c (List.mem_filter.mpr ⟨hc, hi⟩)
  · simpa [hi] using h
set_option maxRecDepth 65536 in
theorem w_c0 : (Jvm.Cond.code x code maxLocals ret).before args0 about1 = true := code_word (m := ⟨1, 1⟩) (meth := k1m1) (c := k1c1) (by decide +kernel) rfl rfl rfl (by decide +kernel)
set_option maxRecDepth 65536 in
theorem w_c1 : (Jvm.Cond.code ({ cls := "com/example/lateral_guard/lateralguard/core/FlowEqualsPinLaw", name := "mk", desc := "(I)Ljava/lang/String;" } : Jvm.MethodName) method_4_code (4 : Nat) (Option.some (Jvm.ClassFile.FieldType.object "java/lang/String"))).before args0 about1 = true := code_word (m := ⟨1, 3⟩) (meth := k1m3) (c := k1c3) (by decide +kernel) rfl rfl rfl (by decide +kernel)
set_option maxRecDepth 65536 in
theorem w_c2 : (Jvm.Cond.code ({ cls := "com/example/lateral_guard/lateralguard/core/FlowEqualsPinLaw", name := "len", desc := "(I)I" } : Jvm.MethodName) method_3_code (1 : Nat) (Option.some Jvm.ClassFile.FieldType.int)).before args0 about1 = true := code_word (m := ⟨1, 2⟩) (meth := k1m2) (c := k1c2) (by decide +kernel) rfl rfl rfl (by decide +kernel)
set_option maxRecDepth 65536 in
theorem w_c3 : (Jvm.Cond.code ({ cls := "java/lang/String", name := "<init>", desc := "([C)V" } : Jvm.MethodName) jdk_42_method_3_code (2 : Nat) (Option.none : Option Jvm.ClassFile.FieldType)).before args0 about1 = true := code_word (m := ⟨8, 1⟩) (meth := k8m1) (c := k8c1) (by decide +kernel) rfl rfl rfl (by decide +kernel)
set_option maxRecDepth 65536 in
theorem w_c4 : (Jvm.Cond.code ({ cls := "java/lang/String", name := "<init>", desc := "([CIILjava/lang/Void;)V" } : Jvm.MethodName) jdk_42_method_149_code (6 : Nat) (Option.none : Option Jvm.ClassFile.FieldType)).before args0 about1 = true := code_word (m := ⟨8, 3⟩) (meth := k8m3) (c := k8c3) (by decide +kernel) rfl rfl rfl (by decide +kernel)
set_option maxRecDepth 65536 in
theorem w_c5 : (Jvm.Cond.code ({ cls := "java/lang/Object", name := "<init>", desc := "()V" } : Jvm.MethodName) object_method_1_code (1 : Nat) (Option.none : Option Jvm.ClassFile.FieldType)).before args0 about1 = true := code_word (m := ⟨0, 0⟩) (meth := k0m0) (c := k0c0) (by decide +kernel) rfl rfl rfl (by decide +kernel)
set_option maxRecDepth 65536 in
theorem w_c6 : (Jvm.Cond.code ({ cls := "com/example/lateral_guard/lateralguard/core/Flow", name := "<init>", desc := "(Ljava/lang/String;Ljava/lang/String;)V" } : Jvm.MethodName) prog_31_method_1_code (3 : Nat) (Option.none : Option Jvm.ClassFile.FieldType)).before args0 about1 = true := code_word (m := ⟨2, 0⟩) (meth := k2m0) (c := k2c0) (by decide +kernel) rfl rfl rfl (by decide +kernel)
set_option maxRecDepth 65536 in
theorem w_c7 : (Jvm.Cond.code ({ cls := "java/util/Objects", name := "requireNonNull", desc := "(Ljava/lang/Object;Ljava/lang/String;)Ljava/lang/Object;" } : Jvm.MethodName) jdk_31_method_11_code (2 : Nat) (Option.some (Jvm.ClassFile.FieldType.object "java/lang/Object"))).before args0 about1 = true := code_word (m := ⟨9, 1⟩) (meth := k9m1) (c := k9c1) (by decide +kernel) rfl rfl rfl (by decide +kernel)
set_option maxRecDepth 65536 in
theorem w_c8 : (Jvm.Cond.code ({ cls := "com/example/lateral_guard/lateralguard/core/FlowEqualsPinLaw", name := "same", desc := "(II)Z" } : Jvm.MethodName) method_5_code (4 : Nat) (Option.some Jvm.ClassFile.FieldType.boolean)).before args0 about1 = true := code_word (m := ⟨1, 4⟩) (meth := k1m4) (c := k1c4) (by decide +kernel) rfl rfl rfl (by decide +kernel)
set_option maxRecDepth 65536 in
theorem w_c9 : (Jvm.Cond.code ({ cls := "com/example/lateral_guard/lateralguard/core/Flow", name := "equals", desc := "(Ljava/lang/Object;)Z" } : Jvm.MethodName) prog_31_method_4_code (3 : Nat) (Option.some Jvm.ClassFile.FieldType.boolean)).before args0 about1 = true := code_word (m := ⟨2, 1⟩) (meth := k2m1) (c := k2c1) (by decide +kernel) rfl rfl rfl (by decide +kernel)
set_option maxRecDepth 65536 in
theorem w_c10 : (Jvm.Cond.code ({ cls := "java/lang/String", name := "equals", desc := "(Ljava/lang/Object;)Z" } : Jvm.MethodName) jdk_42_method_66_code (3 : Nat) (Option.some Jvm.ClassFile.FieldType.boolean)).before args0 about1 = true := code_word (m := ⟨8, 2⟩) (meth := k8m2) (c := k8c2) (by decide +kernel) rfl rfl rfl (by decide +kernel)
set_option maxRecDepth 65536 in
theorem w_c11 : (Jvm.Cond.code ({ cls := "java/lang/StringLatin1", name := "equals", desc := "([B[B)Z" } : Jvm.MethodName) jdk_43_method_13_code (3 : Nat) (Option.some Jvm.ClassFile.FieldType.boolean)).before args0 about1 = true := code_word (m := ⟨10, 1⟩) (meth := k10m1) (c := k10c1) (by decide +kernel) rfl rfl rfl (by decide +kernel)
set_option maxRecDepth 65536 in
theorem w_c12 : (Jvm.Cond.code ({ cls := "java/lang/StringUTF16", name := "compress", desc := "([CII)[B" } : Jvm.MethodName) jdk_52_method_16_code (6 : Nat) (Option.some (Jvm.ClassFile.FieldType.array Jvm.ClassFile.FieldType.byte))).before args0 about1 = true := code_word (m := ⟨11, 2⟩) (meth := k11m2) (c := k11c2) (by decide +kernel) rfl rfl rfl (by decide +kernel)
set_option maxRecDepth 65536 in
theorem w_c13 : (Jvm.Cond.code ({ cls := "java/lang/StringUTF16", name := "compress", desc := "([CI[BII)I" } : Jvm.MethodName) jdk_52_method_21_code (7 : Nat) (Option.some Jvm.ClassFile.FieldType.int)).before args0 about1 = true := code_word (m := ⟨11, 3⟩) (meth := k11m3) (c := k11c3) (by decide +kernel) rfl rfl rfl (by decide +kernel)
set_option maxRecDepth 65536 in
theorem w_c14 : (Jvm.Cond.code ({ cls := "java/lang/StringUTF16", name := "coderFromArrayLen", desc := "([BI)B" } : Jvm.MethodName) jdk_52_method_15_code (2 : Nat) (Option.some Jvm.ClassFile.FieldType.byte)).before args0 about1 = true := code_word (m := ⟨11, 1⟩) (meth := k11m1) (c := k11c1) (by decide +kernel) rfl rfl rfl (by decide +kernel)
def codes1 : List Jvm.Cond := [Jvm.Cond.code x code maxLocals ret, Jvm.Cond.code ({ cls := "com/example/lateral_guard/lateralguard/core/FlowEqualsPinLaw", name := "mk", desc := "(I)Ljava/lang/String;" } : Jvm.MethodName) method_4_code (4 : Nat) (Option.some (Jvm.ClassFile.FieldType.object "java/lang/String")), Jvm.Cond.code ({ cls := "com/example/lateral_guard/lateralguard/core/FlowEqualsPinLaw", name := "len", desc := "(I)I" } : Jvm.MethodName) method_3_code (1 : Nat) (Option.some Jvm.ClassFile.FieldType.int), Jvm.Cond.code ({ cls := "java/lang/String", name := "<init>", desc := "([C)V" } : Jvm.MethodName) jdk_42_method_3_code (2 : Nat) (Option.none : Option Jvm.ClassFile.FieldType), Jvm.Cond.code ({ cls := "java/lang/String", name := "<init>", desc := "([CIILjava/lang/Void;)V" } : Jvm.MethodName) jdk_42_method_149_code (6 : Nat) (Option.none : Option Jvm.ClassFile.FieldType), Jvm.Cond.code ({ cls := "java/lang/Object", name := "<init>", desc := "()V" } : Jvm.MethodName) object_method_1_code (1 : Nat) (Option.none : Option Jvm.ClassFile.FieldType), Jvm.Cond.code ({ cls := "com/example/lateral_guard/lateralguard/core/Flow", name := "<init>", desc := "(Ljava/lang/String;Ljava/lang/String;)V" } : Jvm.MethodName) prog_31_method_1_code (3 : Nat) (Option.none : Option Jvm.ClassFile.FieldType), Jvm.Cond.code ({ cls := "java/util/Objects", name := "requireNonNull", desc := "(Ljava/lang/Object;Ljava/lang/String;)Ljava/lang/Object;" } : Jvm.MethodName) jdk_31_method_11_code (2 : Nat) (Option.some (Jvm.ClassFile.FieldType.object "java/lang/Object")), Jvm.Cond.code ({ cls := "com/example/lateral_guard/lateralguard/core/FlowEqualsPinLaw", name := "same", desc := "(II)Z" } : Jvm.MethodName) method_5_code (4 : Nat) (Option.some Jvm.ClassFile.FieldType.boolean), Jvm.Cond.code ({ cls := "com/example/lateral_guard/lateralguard/core/Flow", name := "equals", desc := "(Ljava/lang/Object;)Z" } : Jvm.MethodName) prog_31_method_4_code (3 : Nat) (Option.some Jvm.ClassFile.FieldType.boolean), Jvm.Cond.code ({ cls := "java/lang/String", name := "equals", desc := "(Ljava/lang/Object;)Z" } : Jvm.MethodName) jdk_42_method_66_code (3 : Nat) (Option.some Jvm.ClassFile.FieldType.boolean), Jvm.Cond.code ({ cls := "java/lang/StringLatin1", name := "equals", desc := "([B[B)Z" } : Jvm.MethodName) jdk_43_method_13_code (3 : Nat) (Option.some Jvm.ClassFile.FieldType.boolean), Jvm.Cond.code ({ cls := "java/lang/StringUTF16", name := "compress", desc := "([CII)[B" } : Jvm.MethodName) jdk_52_method_16_code (6 : Nat) (Option.some (Jvm.ClassFile.FieldType.array Jvm.ClassFile.FieldType.byte)), Jvm.Cond.code ({ cls := "java/lang/StringUTF16", name := "compress", desc := "([CI[BII)I" } : Jvm.MethodName) jdk_52_method_21_code (7 : Nat) (Option.some Jvm.ClassFile.FieldType.int), Jvm.Cond.code ({ cls := "java/lang/StringUTF16", name := "coderFromArrayLen", desc := "([BI)B" } : Jvm.MethodName) jdk_52_method_15_code (2 : Nat) (Option.some Jvm.ClassFile.FieldType.byte)]
set_option maxRecDepth 65536 in
theorem codes_eq : words1.filter isCode = codes1 := rfl
theorem w_codes : ∀ c ∈ words1.filter isCode, c.before args0 about1 = true := by
  rw [codes_eq]
  intro c hc
  simp only [codes1, List.mem_cons, List.not_mem_nil, or_false] at hc
  rcases hc with rfl | rfl | rfl | rfl | rfl | rfl | rfl | rfl | rfl | rfl | rfl | rfl | rfl | rfl | rfl
  · exact w_c0
  · exact w_c1
  · exact w_c2
  · exact w_c3
  · exact w_c4
  · exact w_c5
  · exact w_c6
  · exact w_c7
  · exact w_c8
  · exact w_c9
  · exact w_c10
  · exact w_c11
  · exact w_c12
  · exact w_c13
  · exact w_c14
set_option maxRecDepth 65536 in
theorem w_t1 : (words1.take 24).all (fun c => isCode c || c.before args0 about1) = true := by decide +kernel
set_option maxRecDepth 65536 in
theorem w_t2 : ((words1.drop 24).take 24).all (fun c => isCode c || c.before args0 about1) = true := by decide +kernel
set_option maxRecDepth 65536 in
theorem w_t3 : (((words1.drop 24).drop 24).take 24).all (fun c => isCode c || c.before args0 about1) = true := by decide +kernel
set_option maxRecDepth 65536 in
theorem w_t4 : (((words1.drop 24).drop 24).drop 24).all (fun c => isCode c || c.before args0 about1) = true := by decide +kernel
theorem w_tables : (allAtoms (Jvm.Cond.code x code maxLocals ret :: tables_1)).before args0 about1 = true := by
  rw [allAtoms_all]
  show words1.all (fun c => c.before args0 about1) = true
  refine all_split ?_ w_codes
  rw [← List.take_append_drop 24 words1, List.all_append, w_t1, ← List.take_append_drop 24 (words1.drop 24), List.all_append, w_t2, ← List.take_append_drop 24 ((words1.drop 24).drop 24), List.all_append, w_t3, w_t4]
  rfl
set_option maxRecDepth 65536 in
theorem w_rest : rest_1_c.before args0 about1 = true := by decide +kernel
set_option maxRecDepth 65536 in
theorem w_case : (Jvm.Cond.and given_1 narrow_1).before args0 about1 = true := by decide +kernel
set_option maxRecDepth 65536 in
theorem w_consts : constsHeld consts_1 about1 := Jvm.Lit.constsHeldB_iff.mp (by decide +kernel)
theorem w_applies : (headSpec (Jvm.Cond.code x code maxLocals ret :: tables_1) room_1).applies x e0.platform about1 = true :=
  (Spec.applies_iff w_frames).mpr ⟨w_running, w_runnable, w_alone, w_named, w_hears, w_ripe, w_room, w_tables⟩
theorem atStart : AtStart classFile x code maxLocals ret World_1 tables_1 room_1 Calls_1 rest_1 Pre_1 launch0 p0 e0 about1 theMethod args0 below0 :=
  ⟨lists_1, trivial, launch0.admits_env _ _ _, launch0.least_env, fairChoices_fair.cas, fairChoices_fair.clock, w_frames, w_args, w_heap, w_applies, ⟨w_consts, trivial⟩, w_rest, w_case⟩
end start1
theorem witness_1 : WitnessClaimed_1 := ⟨start1.p0, start1.e0, start1.about1, start1.theMethod, start1.args0, start1.below0, start1.atStart⟩
end Jvm.Pilot.@@N@@
