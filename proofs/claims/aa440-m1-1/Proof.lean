import JvmDerived
import JvmDerived.Pilot.@@N@@Statement
import JvmDerived.Pilot.@@N@@Code
set_option linter.unusedVariables false
set_option linter.unusedSimpArgs false
/- laws to paste: Road.backV, Road.eqW, Road.codOf (cut by pick.py; bodies as the Statement names them) -/
namespace Jvm.Pilot.@@N@@
namespace StrChars
open Jvm Sem ClassFile Op Lib Jvm.Stand Jvm.Free.XT Jvm.Free.ALB Jvm.Free.JM Jvm.Free
open Jvm.Lib.Cold (StaticIs)
/-- a char array whose places are chars -/
def Ch (a : Addr) (A : Cell) (U : State) : Prop := Arr .char a A U ∧ Typed .char A
theorem Ch.mv {a : Addr} {A : Cell} {U U' : State} (h : Ch a A U) (hal : U.vm.Alike U'.vm) (hh : U'.heap = U.heap) : Ch a A U' := ⟨h.1.mv hal hh, h.2⟩
theorem Ch.keep {a : Addr} {A : Cell} {U U' : State} (h : Ch a A U) (hal : U.vm.Alike U'.vm) (hk : U'.heap[a]? = some A) : Ch a A U' := ⟨h.1.keep hal hk, h.2⟩
/-- what place i of a char[]'s cell holds -/
def cv (A : Cell) (i : Nat) : Int32 := match A.slots[i]? with | some (.int x) => x | _ => 0
theorem Ch.get {a : Addr} {A : Cell} {U : State} (h : Ch a A U) {i : Nat} (hi : i < A.slots.size) : A.slots[i]? = some (.int (cv A i)) := by
  have e := Array.getElem?_eq_getElem hi
  have f := h.2 i _ e
  unfold cv; rw [e]
  generalize A.slots[i] = v at f
  cases v <;> simp [fits] at f ⊢
/-- the byte that i2b leaves of a char -/
def lo8 (x : Int32) : Int32 := x.toInt8.toInt32
theorem fits_lo8 (y : Int32) : fits .byte (.int (lo8 y)) = true := by
  have h1 := y.toInt8.le_toInt
  have h2 := y.toInt8.toInt_lt
  simp only [lo8, fits, Bool.and_eq_true, decide_eq_true_eq, Int32.le_iff_toInt_le, Int8.toInt_toInt32, show (-128 : Int32).toInt = -128 from by decide, show (127 : Int32).toInt = 127 from by decide]
  omega
/-- A' is A but that each place j of lo .. hi - 1 holds f j -/
def Laid (A A' : Cell) (lo hi : Nat) (f : Nat → Value) : Prop := A'.cls = A.cls ∧ A'.vm = A.vm ∧ A'.slots.size = A.slots.size ∧ ∀ i, A'.slots[i]? = if lo ≤ i ∧ i < hi then some (f i) else A.slots[i]?
theorem Laid.zero (A : Cell) (lo : Nat) (f : Nat → Value) : Laid A A lo (lo + 0) f := ⟨rfl, rfl, rfl, fun i => by rw [if_neg (by omega)]⟩
theorem Laid.step {A Ak : Cell} {lo k : Nat} {f : Nat → Value} {v : Value} (h : Laid A Ak lo k f) (hlo : lo ≤ k) (hk : k < Ak.slots.size) (hv : v = f k) : Laid A (Ak.setSlot k v) lo (k + 1) f := by
  refine ⟨h.1, h.2.1, by simpa [Cell.setSlot] using h.2.2.1, fun i => ?_⟩
  by_cases e : k = i
  · subst e; rw [Cell.slots_setSlot_self v hk, if_pos (by omega), hv]
  · rw [Cell.slots_setSlot_ne v e, h.2.2.2 i]
    by_cases q : lo ≤ i ∧ i < k
    · rw [if_pos q, if_pos (by omega)]
    · rw [if_neg q, if_neg (by omega)]
def U16 : String := "java/lang/StringUTF16"
namespace Cmp5
def yN : MethodName := ⟨"java/lang/StringUTF16", "compress", "([CI[BII)I"⟩
abbrev yB : ByteArray := jdk_52_method_21_code
theorem d0 : decode yB 0 = .ok (.iconst 0, 1) := by decide +kernel
theorem d1 : decode yB 1 = .ok (.istore 5, 2) := by decide +kernel
theorem d3 : decode yB 3 = .ok (.iload 5, 2) := by decide +kernel
theorem d5 : decode yB 5 = .ok (.iload 4, 2) := by decide +kernel
theorem d7 : decode yB 7 = .ok (.if_icmp (.ge) 37, 3) := by decide +kernel
theorem d10 : decode yB 10 = .ok (.aload_n 0, 1) := by decide +kernel
theorem d11 : decode yB 11 = .ok (.iload_n 1, 1) := by decide +kernel
theorem d12 : decode yB 12 = .ok (.caload, 1) := by decide +kernel
theorem d13 : decode yB 13 = .ok (.istore 6, 2) := by decide +kernel
theorem d15 : decode yB 15 = .ok (.iload 6, 2) := by decide +kernel
theorem d17 : decode yB 17 = .ok (.sipush 255, 3) := by decide +kernel
theorem d20 : decode yB 20 = .ok (.if_icmp (.le) 6, 3) := by decide +kernel
theorem d26 : decode yB 26 = .ok (.aload_n 2, 1) := by decide +kernel
theorem d27 : decode yB 27 = .ok (.iload_n 3, 1) := by decide +kernel
theorem d28 : decode yB 28 = .ok (.iload 6, 2) := by decide +kernel
theorem d30 : decode yB 30 = .ok (.i2b, 1) := by decide +kernel
theorem d31 : decode yB 31 = .ok (.bastore, 1) := by decide +kernel
theorem d32 : decode yB 32 = .ok (.iinc 1 1, 3) := by decide +kernel
theorem d35 : decode yB 35 = .ok (.iinc 3 1, 3) := by decide +kernel
theorem d38 : decode yB 38 = .ok (.iinc 5 1, 3) := by decide +kernel
theorem d41 : decode yB 41 = .ok (.goto (-38), 3) := by decide +kernel
theorem d44 : decode yB 44 = .ok (.iload 4, 2) := by decide +kernel
theorem d46 : decode yB 46 = .ok (.ireturn, 1) := by decide +kernel
def site : List Cond := []
def tab : Cond := tabOf yN yB 7 (some .int) site
def P (b : Addr) (A : Cell) (d : Addr) (B : Cell) (o q len : Nat) (args : Array Value) (s : State) : Prop := args = #[.ref b, .int (Int32.ofNat o), .ref d, .int (Int32.ofNat q), .int (Int32.ofNat len)] ∧ Ch b A s ∧ Arr .byte d B s ∧ b ≠ d ∧ o + len ≤ A.slots.size ∧ q + len ≤ B.slots.size ∧ ∀ i, i < len → ¬ 255 < cv A (o + i)
def E (b : Addr) (A : Cell) (d : Addr) (B : Cell) (o q len : Nat) (r : Option Value) (s u : State) : Prop := r = some (.int (Int32.ofNat len)) ∧ ∃ B', Put d B' s u ∧ Laid B B' q (q + len) (fun j => Value.int (lo8 (cv A (o + (j - q)))))
/-- no char of the range above 255: len; the places written hold each char's low byte -/
theorem law (l : Launch) (b : Addr) (A : Cell) (d : Addr) (B : Cell) (o q len : Nat) : Law l yN 5 5 0 0 yB 7 (some .int) site (P b A d B o q len) (E b A d B o q len) (copyLocs d q len) 0 0 := by
  refine Law.of_walk (plainFor_of_name (by decide +kernel)) (by decide +kernel) (by decide +kernel) (by decide) (fun _ _ h => by rw [h.1]; rfl) (fun _ U U' hal hh h => ⟨h.1, h.2.1.mv hal hh, h.2.2.1.mv hal hh, h.2.2.2⟩) (fun r U U' V V' h1 hal h2 h => ⟨h.1, h.2.elim fun B' q => ⟨B', q.1.mv h1 h2, q.2⟩⟩) ?_
  intro p e s m args below meth c s₁ X0 hexec hbytes hml hret hlk hnm hown hh0 W hP
  obtain ⟨rfl, hA, hB, hne, l1, l2, hp⟩ := hP
  have c1 : Steps p.tables e below (s₁.setTop (entryFrame m #[.ref b, .int (Int32.ofNat o), .ref d, .int (Int32.ofNat q), .int (Int32.ofNat len)] 7)) (s₁.setTop (mkF m 0 #[.val (.ref b), .val (.int (Int32.ofNat o)), .val (.ref d), .val (.int (Int32.ofNat q)), .val (.int (Int32.ofNat len)), .unset, .unset] [])) := entry rfl
  have hA0 := hA.1.mv X0.warmed.alike hh0
  have hB0 := hB.mv X0.warmed.alike hh0
  have a31 := hA.1.2.2.2
  have c2 : Steps p.tables e below (s₁.setTop (entryFrame m #[.ref b, .int (Int32.ofNat o), .ref d, .int (Int32.ofNat q), .int (Int32.ofNat len)] 7)) (s₁.setTop (mkF m 3 #[.val (.ref b), .val (.int (Int32.ofNat o)), .val (.ref d), .val (.int (Int32.ofNat q)), .val (.int (Int32.ofNat len)), .val (.int 0), .unset] [])) := c1.trans (by
    refine iconstV X0.here hexec rfl 0 (hb hbytes d0) (by decide) ?_
    refine XS.istore X0.here hexec rfl (hb hbytes d1) rfl rfl ?_
    exact Steps.refl _)
  have loop : ∀ (r i : Nat), i + r = len → ∀ (z : Slot), (z = .unset ∨ ∃ w, z = .val w ∧ w.category = 1) → ∀ (Tl : State) (Bk : Cell), Stand p l e { frames := 0, locals := 0, cells := 0, slots := 0 } s m #[.ref b, .int (Int32.ofNat o), .ref d, .int (Int32.ofNat q), .int (Int32.ofNat len)] below meth c Tl ([] ++ copyLocs d q i) 0 0 → Put d Bk s₁ Tl → Laid B Bk q (q + i) (fun j => Value.int (lo8 (cv A (o + (j - q))))) →
      Steps p.tables e below (s₁.setTop (entryFrame m #[.ref b, .int (Int32.ofNat o), .ref d, .int (Int32.ofNat q), .int (Int32.ofNat len)] 7)) (Tl.setTop (mkF m 3 #[.val (.ref b), .val (.int (Int32.ofNat (o + i))), .val (.ref d), .val (.int (Int32.ofNat (q + i))), .val (.int (Int32.ofNat len)), .val (.int (Int32.ofNat i)), z] [])) → ∃ (T' : State) (B' : Cell) (z' : Slot), Stand p l e { frames := 0, locals := 0, cells := 0, slots := 0 } s m #[.ref b, .int (Int32.ofNat o), .ref d, .int (Int32.ofNat q), .int (Int32.ofNat len)] below meth c T' ([] ++ copyLocs d q len) 0 0 ∧ Put d B' s₁ T' ∧ Laid B B' q (q + len) (fun j => Value.int (lo8 (cv A (o + (j - q))))) ∧
      Steps p.tables e below (s₁.setTop (entryFrame m #[.ref b, .int (Int32.ofNat o), .ref d, .int (Int32.ofNat q), .int (Int32.ofNat len)] 7)) (T'.setTop (mkF m 3 #[.val (.ref b), .val (.int (Int32.ofNat (o + len))), .val (.ref d), .val (.int (Int32.ofNat (q + len))), .val (.int (Int32.ofNat len)), .val (.int (Int32.ofNat len)), z'] [])) := by
    intro r
    induction r with
    | zero =>
      intro i hi z hz Tl Bk Xl pl fl cl
      have hil : i = len := by omega
      rw [hil] at Xl fl cl
      exact ⟨Tl, Bk, z, Xl, pl, fl, cl⟩
    | succ r ih =>
      intro i hi z hz Tl Bk Xl pl fl cl
      have all := X0.warmed.alike.symm.trans Xl.warmed.alike
      have hAl := hA0.keep all (pl.other hne hA0.1)
      have hBk := hB0.like all pl.1 fl.1 fl.2.1 fl.2.2.1
      have hlt : q + i < Bk.slots.size := by rw [fl.2.2.1]; omega
      have c3 : Steps p.tables e below (s₁.setTop (entryFrame m #[.ref b, .int (Int32.ofNat o), .ref d, .int (Int32.ofNat q), .int (Int32.ofNat len)] 7)) (Tl.setTop (mkF m 12 #[.val (.ref b), .val (.int (Int32.ofNat (o + i))), .val (.ref d), .val (.int (Int32.ofNat (q + i))), .val (.int (Int32.ofNat len)), .val (.int (Int32.ofNat i)), z] [.int (Int32.ofNat (o + i)), .ref b])) := cl.trans (by
        refine XS.iload Xl.here hexec rfl (hb hbytes d3) rfl ?_
        refine XS.iload Xl.here hexec rfl (hb hbytes d5) rfl ?_
        refine XS.icmpNo Xl.here hexec rfl (hb hbytes d7) rfl (ii_ge_f (lt32 (by omega) (by omega))) ?_
        refine XS.aloadN Xl.here hexec rfl (hb hbytes d10) rfl rfl ?_
        refine XS.iloadN Xl.here hexec rfl (hb hbytes d11) rfl ?_
        exact Steps.refl _)
      have c4 : Steps p.tables e below (s₁.setTop (entryFrame m #[.ref b, .int (Int32.ofNat o), .ref d, .int (Int32.ofNat q), .int (Int32.ofNat len)] 7)) (Tl.setTop (mkF m 13 #[.val (.ref b), .val (.int (Int32.ofNat (o + i))), .val (.ref d), .val (.int (Int32.ofNat (q + i))), .val (.int (Int32.ofNat len)), .val (.int (Int32.ofNat i)), z] [.int (cv A (o + i))])) := c3.trans (by
        refine Xl.aget hexec hAl rfl (hA.get (i := o + i) (by omega)) rfl rfl (hb hbytes d12) ?_
        exact Steps.refl _)
      have c5 : Steps p.tables e below (s₁.setTop (entryFrame m #[.ref b, .int (Int32.ofNat o), .ref d, .int (Int32.ofNat q), .int (Int32.ofNat len)] 7)) (Tl.setTop (mkF m 15 #[.val (.ref b), .val (.int (Int32.ofNat (o + i))), .val (.ref d), .val (.int (Int32.ofNat (q + i))), .val (.int (Int32.ofNat len)), .val (.int (Int32.ofNat i)), .val (.int (cv A (o + i)))] [])) := c4.trans (by
        refine XS.istoreS Xl.here hexec rfl (hb hbytes d13) rfl rfl hz ?_
        exact Steps.refl _)
      have c6 : Steps p.tables e below (s₁.setTop (entryFrame m #[.ref b, .int (Int32.ofNat o), .ref d, .int (Int32.ofNat q), .int (Int32.ofNat len)] 7)) (Tl.setTop (mkF m 31 #[.val (.ref b), .val (.int (Int32.ofNat (o + i))), .val (.ref d), .val (.int (Int32.ofNat (q + i))), .val (.int (Int32.ofNat len)), .val (.int (Int32.ofNat i)), .val (.int (cv A (o + i)))] [.int (lo8 (cv A (o + i))), .int (Int32.ofNat (q + i)), .ref d])) := c5.trans (by
        refine XS.iload Xl.here hexec rfl (hb hbytes d15) rfl ?_
        refine sipushV Xl.here hexec rfl 255 (hb hbytes d17) (by decide) ?_
        refine XS.icmpYes Xl.here hexec rfl (pc0 := 20) rfl (hb hbytes d20) rfl (ii_le_t (hp i (by omega))) (by decide) rfl ?_
        refine XS.aloadN Xl.here hexec rfl (hb hbytes d26) rfl rfl ?_
        refine XS.iloadN Xl.here hexec rfl (hb hbytes d27) rfl ?_
        refine XS.iload Xl.here hexec rfl (hb hbytes d28) rfl ?_
        refine i2b Xl.here hexec rfl (hb hbytes d30) rfl ?_
        exact Steps.refl _)
      obtain ⟨T7, X7, p7, st7⟩ := Xl.aput hexec hBk rfl hlt rfl (fits_lo8 (cv A (o + i))) (g := (mkF m 31 #[.val (.ref b), .val (.int (Int32.ofNat (o + i))), .val (.ref d), .val (.int (Int32.ofNat (q + i))), .val (.int (Int32.ofNat len)), .val (.int (Int32.ofNat i)), .val (.int (cv A (o + i)))] [.int (lo8 (cv A (o + i))), .int (Int32.ofNat (q + i)), .ref d])) rfl (rest := []) rfl (hb hbytes d31)
      have c8 : Steps p.tables e below (s₁.setTop (entryFrame m #[.ref b, .int (Int32.ofNat o), .ref d, .int (Int32.ofNat q), .int (Int32.ofNat len)] 7)) (T7.setTop (mkF m 32 #[.val (.ref b), .val (.int (Int32.ofNat (o + i))), .val (.ref d), .val (.int (Int32.ofNat (q + i))), .val (.int (Int32.ofNat len)), .val (.int (Int32.ofNat i)), .val (.int (cv A (o + i)))] [])) := c6.trans (st7 _ (Steps.refl _))
      have c9 : Steps p.tables e below (s₁.setTop (entryFrame m #[.ref b, .int (Int32.ofNat o), .ref d, .int (Int32.ofNat q), .int (Int32.ofNat len)] 7)) (T7.setTop (mkF m 3 #[.val (.ref b), .val (.int (Int32.ofNat (o + i) + 1)), .val (.ref d), .val (.int (Int32.ofNat (q + i) + 1)), .val (.int (Int32.ofNat len)), .val (.int (Int32.ofNat i + 1)), .val (.int (cv A (o + i)))] [])) := c8.trans (by
        refine iincV X7.here hexec rfl 1 (hb hbytes d32) (by decide) rfl rfl ?_
        refine iincV X7.here hexec rfl 1 (hb hbytes d35) (by decide) rfl rfl ?_
        refine iincV X7.here hexec rfl 1 (hb hbytes d38) (by decide) rfl rfl ?_
        refine XS.goto X7.here hexec rfl (pc0 := 41) rfl (hb hbytes d41) (by decide) rfl ?_
        exact Steps.refl _)
      have c10 : Steps p.tables e below (s₁.setTop (entryFrame m #[.ref b, .int (Int32.ofNat o), .ref d, .int (Int32.ofNat q), .int (Int32.ofNat len)] 7)) (T7.setTop (mkF m 3 #[.val (.ref b), .val (.int (Int32.ofNat (o + (i + 1)))), .val (.ref d), .val (.int (Int32.ofNat (q + (i + 1)))), .val (.int (Int32.ofNat len)), .val (.int (Int32.ofNat (i + 1))), .val (.int (cv A (o + i)))] [])) := by
        have := c9
        rw [succ32, succ32, succ32] at this
        exact this
      exact ih (i + 1) (by omega) _ (Or.inr ⟨_, rfl, rfl⟩) T7 _ (by rw [copyLocs_step, ← List.append_assoc]; exact X7) (pl.trans p7) (fl.step (by omega) hlt (by simp)) c10
  obtain ⟨T9, B9, z9, X9, p9, f9, g9⟩ := loop len 0 (by omega) .unset (Or.inl rfl) s₁ B (by simpa [copyLocs] using X0) ⟨hB0.1, fun _ _ => rfl, rfl⟩ (Laid.zero _ _ _) c2
  have c11 : Steps p.tables e below (s₁.setTop (entryFrame m #[.ref b, .int (Int32.ofNat o), .ref d, .int (Int32.ofNat q), .int (Int32.ofNat len)] 7)) (T9.setTop (mkF m 46 #[.val (.ref b), .val (.int (Int32.ofNat (o + len))), .val (.ref d), .val (.int (Int32.ofNat (q + len))), .val (.int (Int32.ofNat len)), .val (.int (Int32.ofNat len)), z9] [.int (Int32.ofNat len)])) := g9.trans (by
    refine XS.iload X9.here hexec rfl (hb hbytes d3) rfl ?_
    refine XS.iload X9.here hexec rfl (hb hbytes d5) rfl ?_
    refine XS.icmpYes X9.here hexec rfl (pc0 := 7) rfl (hb hbytes d7) rfl (ii_ge_t (nlt32 (by omega) (Nat.le_refl _))) (by decide) rfl ?_
    refine XS.iload X9.here hexec rfl (hb hbytes d44) rfl ?_
    exact Steps.refl _)
  exact ⟨T9, some (.int (Int32.ofNat len)), _, _, _, X9, by simp, rfl, rfl, (fun h => by cases h), ⟨rfl, B9, p9.from hh0, f9⟩, fun fs hl => c11.trans (X9.ireturnOut hexec hret rfl (Or.inl rfl) (hb hbytes d46) hl)⟩
end Cmp5
namespace Cmp3
def yN : MethodName := ⟨"java/lang/StringUTF16", "compress", "([CII)[B"⟩
abbrev yB : ByteArray := jdk_52_method_16_code
theorem d0 : decode yB 0 = .ok (.iload_n 2, 1) := by decide +kernel
theorem d1 : decode yB 1 = .ok (.newarray .byte, 2) := by decide +kernel
theorem d3 : decode yB 3 = .ok (.astore_n 3, 1) := by decide +kernel
theorem d4 : decode yB 4 = .ok (.aload_n 0, 1) := by decide +kernel
theorem d5 : decode yB 5 = .ok (.iload_n 1, 1) := by decide +kernel
theorem d6 : decode yB 6 = .ok (.aload_n 3, 1) := by decide +kernel
theorem d7 : decode yB 7 = .ok (.iconst 0, 1) := by decide +kernel
theorem d8 : decode yB 8 = .ok (.iload_n 2, 1) := by decide +kernel
theorem d9 : decode yB 9 = .ok (.invokestatic 115, 3) := by decide +kernel
theorem d12 : decode yB 12 = .ok (.istore 4, 2) := by decide +kernel
theorem d14 : decode yB 14 = .ok (.iload 4, 2) := by decide +kernel
theorem d16 : decode yB 16 = .ok (.iload_n 2, 1) := by decide +kernel
theorem d17 : decode yB 17 = .ok (.if_icmp (.eq) 40, 3) := by decide +kernel
theorem d57 : decode yB 57 = .ok (.aload_n 3, 1) := by decide +kernel
theorem d58 : decode yB 58 = .ok (.areturn, 1) := by decide +kernel
def site : List Cond := [.arrayClass .byte, Cmp5.tab] ++ staticW U16 115 Cmp5.yN
def tab : Cond := tabOf yN yB 6 (some (.array .byte)) site
def P (b : Addr) (A : Cell) (o len : Nat) (args : Array Value) (s : State) : Prop := args = #[.ref b, .int (Int32.ofNat o), .int (Int32.ofNat len)] ∧ Ch b A s ∧ o + len ≤ A.slots.size ∧ len ≤ 536870912 ∧ ∀ i, i < len → ¬ 255 < cv A (o + i)
def E (b : Addr) (A : Cell) (o len : Nat) (r : Option Value) (s u : State) : Prop := NewArr .byte "[B" len (fun j => .int (lo8 (cv A (o + j)))) r s u ∧ u.heap.size = s.heap.size + 1
/-- no char of the range above 255: a new byte[] of their low bytes -/
theorem law (l : Launch) (b : Addr) (A : Cell) (o len : Nat) : Law l yN 3 3 1 18 yB 6 (some (.array .byte)) site (P b A o len) (E b A o len) [] 1 len := by
  refine Law.of_walk (plainFor_of_name (by decide +kernel)) (by decide +kernel) (by decide +kernel) (by decide) (fun _ _ h => by rw [h.1]; rfl) (fun _ U U' hal hh h => ⟨h.1, h.2.1.mv hal hh, h.2.2⟩) (fun r U U' V V' h1 hal h2 h => ⟨NewArr.mv r U U' V V' h1 hal h2 h.1, by rw [h1, h2]; exact h.2⟩) ?_
  intro p e s m args below meth c s₁ X0 hexec hbytes hml hret hlk hnm hown hh0 W hP
  obtain ⟨rfl, hA, l1, l2, hp⟩ := hP
  have a31 := hA.1.2.2.2
  have c1 : Steps p.tables e below (s₁.setTop (entryFrame m #[.ref b, .int (Int32.ofNat o), .int (Int32.ofNat len)] 6)) (s₁.setTop (mkF m 0 #[.val (.ref b), .val (.int (Int32.ofNat o)), .val (.int (Int32.ofNat len)), .unset, .unset, .unset] [])) := entry rfl
  have c2 : Steps p.tables e below (s₁.setTop (entryFrame m #[.ref b, .int (Int32.ofNat o), .int (Int32.ofNat len)] 6)) (s₁.setTop (mkF m 1 #[.val (.ref b), .val (.int (Int32.ofNat o)), .val (.int (Int32.ofNat len)), .unset, .unset, .unset] [.int (Int32.ofNat len)])) := c1.trans (by
    refine XS.iloadN X0.here hexec rfl (hb hbytes d0) rfl ?_
    exact Steps.refl _)
  obtain ⟨T3, B3, X3, ba3, bs3, bv3, bh3, bf3, st3⟩ := X0.anew hexec (atype := .byte) (wk W (.arrayClass .byte)) rfl (by show len * 1 ≤ _; omega) (by omega) (g := (mkF m 1 #[.val (.ref b), .val (.int (Int32.ofNat o)), .val (.int (Int32.ofNat len)), .unset, .unset, .unset] [.int (Int32.ofNat len)])) rfl (hb hbytes d1) (rest := []) rfl (Nat.le_refl _) (by show 0 + len ≤ len; omega)
  rw [hh0] at ba3 st3
  have kp3 : XT.Kept s T3 := (XT.Kept.of_eq hh0).push bh3
  have hA3 := hA.keep X3.warmed.alike (kp3 _ _ hA.1.1)
  have hne : b ≠ s.heap.size := hA.1.ne
  have c4 : Steps p.tables e below (s₁.setTop (entryFrame m #[.ref b, .int (Int32.ofNat o), .int (Int32.ofNat len)] 6)) (T3.setTop (mkF m 3 #[.val (.ref b), .val (.int (Int32.ofNat o)), .val (.int (Int32.ofNat len)), .unset, .unset, .unset] [.ref s.heap.size])) := c2.trans (st3 _ (Steps.refl _))
  have c5 : Steps p.tables e below (s₁.setTop (entryFrame m #[.ref b, .int (Int32.ofNat o), .int (Int32.ofNat len)] 6)) (T3.setTop (mkF m 9 #[.val (.ref b), .val (.int (Int32.ofNat o)), .val (.int (Int32.ofNat len)), .val (.ref s.heap.size), .unset, .unset] [.int (Int32.ofNat len), .int 0, .ref s.heap.size, .int (Int32.ofNat o), .ref b])) := c4.trans (by
    refine XS.astoreN X3.here hexec rfl (hb hbytes d3) rfl rfl rfl ?_
    refine XS.aloadN X3.here hexec rfl (hb hbytes d4) rfl rfl ?_
    refine XS.iloadN X3.here hexec rfl (hb hbytes d5) rfl ?_
    refine XS.aloadN X3.here hexec rfl (hb hbytes d6) rfl rfl ?_
    refine iconstV X3.here hexec rfl 0 (hb hbytes d7) (by decide) ?_
    refine XS.iloadN X3.here hexec rfl (hb hbytes d8) rfl ?_
    exact Steps.refl _)
  obtain ⟨v6, T6, X6, E6, g6⟩ := X3.callS hexec (Cmp5.law l b A s.heap.size B3 o 0 len) hown (wks W (staticW U16 115 Cmp5.yN)) (wk W Cmp5.tab) (W := 0) (Nat.le_of_ble_eq_true rfl) (Nat.le_of_ble_eq_true rfl) (Nat.le_refl _) (by show 0 + len + 0 ≤ len; omega) (g := (mkF m 9 #[.val (.ref b), .val (.int (Int32.ofNat o)), .val (.int (Int32.ofNat len)), .val (.ref s.heap.size), .unset, .unset] [.int (Int32.ofNat len), .int (Int32.ofNat 0), .ref s.heap.size, .int (Int32.ofNat o), .ref b])) rfl (by rw [hml]; rfl) c5 (argsL := [.ref b, .int (Int32.ofNat o), .ref s.heap.size, .int (Int32.ofNat 0), .int (Int32.ofNat len)]) (rest := []) rfl rfl (by show 2 * 0 + 0 ≤ _; decide) (hb hbytes d9) (⟨rfl, hA3, ba3, hne, l1, by rw [bs3]; simp, hp⟩)
  obtain ⟨rfl, B6, p6, f6⟩ := E6
  have c7 : Steps p.tables e below (s₁.setTop (entryFrame m #[.ref b, .int (Int32.ofNat o), .int (Int32.ofNat len)] 6)) (T6.setTop (mkF m 12 #[.val (.ref b), .val (.int (Int32.ofNat o)), .val (.int (Int32.ofNat len)), .val (.ref s.heap.size), .unset, .unset] [.int (Int32.ofNat len)])) := g6
  have c8 : Steps p.tables e below (s₁.setTop (entryFrame m #[.ref b, .int (Int32.ofNat o), .int (Int32.ofNat len)] 6)) (T6.setTop (mkF m 58 #[.val (.ref b), .val (.int (Int32.ofNat o)), .val (.int (Int32.ofNat len)), .val (.ref s.heap.size), .val (.int (Int32.ofNat len)), .unset] [.ref s.heap.size])) := c7.trans (by
    refine XS.istore X6.here hexec rfl (hb hbytes d12) rfl rfl ?_
    refine XS.iload X6.here hexec rfl (hb hbytes d14) rfl ?_
    refine XS.iloadN X6.here hexec rfl (hb hbytes d16) rfl ?_
    refine XS.icmpYes X6.here hexec rfl (pc0 := 17) rfl (hb hbytes d17) rfl (ii_eq_t rfl) (by decide) rfl ?_
    refine XS.aloadN X6.here hexec rfl (hb hbytes d57) rfl rfl ?_
    exact Steps.refl _)
  have X8 := X6.wide (L' := []) (cells' := 1) (slots' := len) (fun x hx hlt => by
    simp only [List.nil_append, copyLocs, List.mem_map, List.mem_range] at hx
    obtain ⟨i, -, rfl⟩ := hx
    exact absurd hlt (Nat.lt_irrefl _)) (Nat.le_refl _) (by omega)
  exact ⟨T6, some (.ref s.heap.size), _, _, _, X8, rfl, rfl, rfl, (fun h => by cases h), ⟨⟨rfl, B6, ba3.like (X3.warmed.alike.symm.trans X6.warmed.alike) p6.1 f6.1 f6.2.1 f6.2.2.1, f6.2.1.trans bv3, by rw [X6.warmed.alike.findClass, f6.1]; exact bf3, by rw [f6.2.2.1, bs3]; simp, fun j hj => by rw [f6.2.2.2 j, if_pos (by omega)]; rfl, kp3.put p6 (Nat.le_refl _)⟩, by rw [p6.2.2, bh3, hh0]; simp⟩, fun fs hl => c8.trans (X8.areturnOut hexec rfl hret rfl (hb hbytes d58) hl)⟩
end Cmp3
namespace CodL
def yN : MethodName := ⟨"java/lang/StringUTF16", "coderFromArrayLen", "([BI)B"⟩
abbrev yB : ByteArray := jdk_52_method_15_code
theorem d0 : decode yB 0 = .ok (.iload_n 1, 1) := by decide +kernel
theorem d1 : decode yB 1 = .ok (.aload_n 0, 1) := by decide +kernel
theorem d2 : decode yB 2 = .ok (.arraylength, 1) := by decide +kernel
theorem d3 : decode yB 3 = .ok (.isub, 1) := by decide +kernel
theorem d4 : decode yB 4 = .ok (.bipush 31, 2) := by decide +kernel
theorem d6 : decode yB 6 = .ok (.iushr, 1) := by decide +kernel
theorem d7 : decode yB 7 = .ok (.i2b, 1) := by decide +kernel
theorem d8 : decode yB 8 = .ok (.ireturn, 1) := by decide +kernel
def site : List Cond := []
def tab : Cond := tabOf yN yB 2 (some .byte) site
def P (d : Addr) (B : Cell) (args : Array Value) (s : State) : Prop := args = #[.ref d, .int (Int32.ofNat B.slots.size)] ∧ Arr .byte d B s
def E (r : Option Value) (s u : State) : Prop := XT.PureE (some (.int 0)) r s u
/-- an array as long as the number of chars: LATIN1 -/
theorem law (l : Launch) (d : Addr) (B : Cell) : Law l yN 2 2 0 0 yB 2 (some .byte) site (P d B) E [] 0 0 := by
  refine Law.of_walk (plainFor_of_name (by decide +kernel)) (by decide +kernel) (by decide +kernel) (by decide) (fun _ _ h => by rw [h.1]; rfl) (fun _ U U' hal hh h => ⟨h.1, h.2.mv hal hh⟩) (fun r U U' V V' h1 hal h2 h => XT.PureE.mv r U U' V V' h1 hal h2 h) ?_
  intro p e s m args below meth c s₁ X0 hexec hbytes hml hret hlk hnm hown hh0 W hP
  obtain ⟨rfl, hB⟩ := hP
  have hB0 := hB.mv X0.warmed.alike hh0
  have c1 : Steps p.tables e below (s₁.setTop (entryFrame m #[.ref d, .int (Int32.ofNat B.slots.size)] 2)) (s₁.setTop (mkF m 0 #[.val (.ref d), .val (.int (Int32.ofNat B.slots.size))] [])) := entry rfl
  have c2 : Steps p.tables e below (s₁.setTop (entryFrame m #[.ref d, .int (Int32.ofNat B.slots.size)] 2)) (s₁.setTop (mkF m 2 #[.val (.ref d), .val (.int (Int32.ofNat B.slots.size))] [.ref d, .int (Int32.ofNat B.slots.size)])) := c1.trans (by
    refine XS.iloadN X0.here hexec rfl (hb hbytes d0) rfl ?_
    refine XS.aloadN X0.here hexec rfl (hb hbytes d1) rfl rfl ?_
    exact Steps.refl _)
  have c3 : Steps p.tables e below (s₁.setTop (entryFrame m #[.ref d, .int (Int32.ofNat B.slots.size)] 2)) (s₁.setTop (mkF m 8 #[.val (.ref d), .val (.int (Int32.ofNat B.slots.size))] [.int (lo8 (ushr (Int32.ofNat B.slots.size - Int32.ofNat B.slots.size) 31))])) := c2.trans (by
    refine X0.alen hexec hB0 rfl rfl (hb hbytes d2) ?_
    refine XS.isub X0.here hexec rfl (hb hbytes d3) rfl ?_
    refine bipushV X0.here hexec rfl 31 (hb hbytes d4) (by decide) ?_
    refine iushr X0.here hexec rfl (hb hbytes d6) rfl ?_
    refine i2b X0.here hexec rfl (hb hbytes d7) rfl ?_
    exact Steps.refl _)
  have e0 : lo8 (ushr (Int32.ofNat B.slots.size - Int32.ofNat B.slots.size) 31) = 0 := by rw [Int32.sub_self]; decide
  rw [e0] at c3
  exact ⟨s₁, some (.int 0), _, _, _, X0, rfl, rfl, rfl, (fun h => by cases h), ⟨rfl, hh0⟩, fun fs hl => c3.trans (X0.ireturnOut hexec hret rfl (Or.inr (Or.inr (Or.inl rfl))) (hb hbytes d8) hl)⟩
end CodL
/-- the String at a is Latin-1 over a new byte[] (the heap's one new cell): the low bytes of the len chars of A from o on; every cell but a is kept -/
def Got (a : Addr) (D : Cell) (fV fC : Field) (A : Cell) (o len : Nat) (r : Option Value) (s u : State) : Prop := r = none ∧ ∃ D' V : Cell, Blank "java/lang/String" a D' u ∧ Same D D' [fV.slot, fC.slot] ∧ D'.slots[fV.slot]? = some (.ref s.heap.size) ∧ D'.slots[fC.slot]? = some (.int 0) ∧ Arr .byte s.heap.size V u ∧ V.vm = .none ∧ u.vm.findClass "[B" = some V.cls ∧ V.slots.size = len ∧ (∀ j, j < len → V.slots[j]? = some (.int (lo8 (cv A (o + j))))) ∧ (∀ (y : Addr) (c : Cell), y ≠ a → s.heap[y]? = some c → u.heap[y]? = some c) ∧ u.heap.size = s.heap.size + 1
theorem Got.mv {a : Addr} {D A : Cell} {fV fC : Field} {o len : Nat} : ∀ r (U U' V V' : State), U'.heap = U.heap → V.vm.Alike V'.vm → V'.heap = V.heap → Got a D fV fC A o len r U V → Got a D fV fC A o len r U' V' :=
  fun r U U' V V' h1 hal h2 ⟨e0, D', X, a1, a2, a3, a4, a5, a6, a7, a8, a9, a10, a11⟩ => ⟨e0, D', X, a1.mv hal h2, a2, by rw [h1]; exact a3, a4, by rw [h1]; exact a5.mv hal h2, a6, by rw [hal.findClass]; exact a7, a8, a9, by rw [h1, h2]; exact a10, by rw [h1, h2]; exact a11⟩
namespace New4
def yN : MethodName := ⟨"java/lang/String", "<init>", "([CIILjava/lang/Void;)V"⟩
abbrev yB : ByteArray := jdk_42_method_149_code
theorem d0 : decode yB 0 = .ok (.aload_n 0, 1) := by decide +kernel
theorem d1 : decode yB 1 = .ok (.invokespecial 1, 3) := by decide +kernel
theorem d4 : decode yB 4 = .ok (.iload_n 3, 1) := by decide +kernel
theorem d5 : decode yB 5 = .ok (.ifCond (.ne) 22, 3) := by decide +kernel
theorem d27 : decode yB 27 = .ok (.getstatic 38, 3) := by decide +kernel
theorem d30 : decode yB 30 = .ok (.ifCond (.eq) 28, 3) := by decide +kernel
theorem d33 : decode yB 33 = .ok (.aload_n 1, 1) := by decide +kernel
theorem d34 : decode yB 34 = .ok (.iload_n 2, 1) := by decide +kernel
theorem d35 : decode yB 35 = .ok (.iload_n 3, 1) := by decide +kernel
theorem d36 : decode yB 36 = .ok (.invokestatic 177, 3) := by decide +kernel
theorem d39 : decode yB 39 = .ok (.astore 5, 2) := by decide +kernel
theorem d41 : decode yB 41 = .ok (.aload_n 0, 1) := by decide +kernel
theorem d42 : decode yB 42 = .ok (.aload 5, 2) := by decide +kernel
theorem d44 : decode yB 44 = .ok (.iload_n 3, 1) := by decide +kernel
theorem d45 : decode yB 45 = .ok (.invokestatic 47, 3) := by decide +kernel
theorem d48 : decode yB 48 = .ok (.putfield 15, 3) := by decide +kernel
theorem d51 : decode yB 51 = .ok (.aload_n 0, 1) := by decide +kernel
theorem d52 : decode yB 52 = .ok (.aload 5, 2) := by decide +kernel
theorem d54 : decode yB 54 = .ok (.putfield 9, 3) := by decide +kernel
theorem d57 : decode yB 57 = .ok (.return_, 1) := by decide +kernel
def site : List Cond := [.fieldLink "java/lang/String" 38 "java/lang/String" "COMPACT_STRINGS" "Z", Cmp3.tab, CodL.tab, .laysFinal "java/lang/String" "java/lang/String" "value" "[B", .fieldLink "java/lang/String" 9 "java/lang/String" "value" "[B", .laysFinal "java/lang/String" "java/lang/String" "coder" "B", .fieldLink "java/lang/String" 15 "java/lang/String" "coder" "B"] ++ objW "java/lang/String" 1 ++ staticW "java/lang/String" 177 Cmp3.yN ++ staticW "java/lang/String" 47 CodL.yN
def tab : Cond := tabOf yN yB 6 none site
def P (a : Addr) (D : Cell) (fV fC : Field) (b : Addr) (A : Cell) (z : Int32) (o len : Nat) (args : Array Value) (s : State) : Prop := args = #[.ref a, .ref b, .int (Int32.ofNat o), .int (Int32.ofNat len), .null] ∧ Blank "java/lang/String" a D s ∧ Found "java/lang/String" "value" "[B" fV s ∧ Found "java/lang/String" "coder" "B" fC s ∧ Ch b A s ∧ StaticIs s "java/lang/String" "COMPACT_STRINGS" "Z" (.int z) ∧ ¬ z = 0 ∧ 0 < len ∧ o + len ≤ A.slots.size ∧ len ≤ 536870912 ∧ ∀ i, i < len → ¬ 255 < cv A (o + i)
def E (a : Addr) (D : Cell) (fV fC : Field) (A : Cell) (o len : Nat) (r : Option Value) (s u : State) : Prop := Got a D fV fC A o len r s u
/-- len > 0, no char of the range above 255: a Latin-1 String of their low bytes -/
theorem law (l : Launch) (a : Addr) (D : Cell) (fV fC : Field) (b : Addr) (A : Cell) (z : Int32) (o len : Nat) : Law l yN 5 4 2 35 yB 6 none site (P a D fV fC b A z o len) (E a D fV fC A o len) [⟨a, fC.slot⟩, ⟨a, fV.slot⟩] 1 len := by
  refine Law.of_walk (plainFor_of_name (by decide +kernel)) (by decide +kernel) (by decide +kernel) (by decide) (fun _ _ h => by rw [h.1]; rfl) (fun _ U U' hal hh h => ⟨h.1, h.2.1.mv hal hh, h.2.2.1.al hal, h.2.2.2.1.al hal, h.2.2.2.2.1.mv hal hh, h.2.2.2.2.2.1.there hal hh, h.2.2.2.2.2.2⟩) (fun r U U' V V' h1 hal h2 h => Got.mv r U U' V V' h1 hal h2 h) ?_
  intro p e s m args below meth c s₁ X0 hexec hbytes hml hret hlk hnm hown hh0 W hP
  obtain ⟨rfl, hB, f1, f2, hA, s1, hz, l0, l1, l2, hp⟩ := hP
  have a31 := hA.1.2.2.2
  have c1 : Steps p.tables e below (s₁.setTop (entryFrame m #[.ref a, .ref b, .int (Int32.ofNat o), .int (Int32.ofNat len), .null] 6)) (s₁.setTop (mkF m 0 #[.val (.ref a), .val (.ref b), .val (.int (Int32.ofNat o)), .val (.int (Int32.ofNat len)), .val .null, .unset] [])) := entry rfl
  have c2 : Steps p.tables e below (s₁.setTop (entryFrame m #[.ref a, .ref b, .int (Int32.ofNat o), .int (Int32.ofNat len), .null] 6)) (s₁.setTop (mkF m 1 #[.val (.ref a), .val (.ref b), .val (.int (Int32.ofNat o)), .val (.int (Int32.ofNat len)), .val .null, .unset] [.ref a])) := c1.trans (by
    refine XS.aloadN X0.here hexec rfl (hb hbytes d0) rfl rfl ?_
    exact Steps.refl _)
  obtain ⟨T3, X3, q3, st3⟩ := X0.oinit hexec hown (wks W (objW "java/lang/String" 1)) (g := (mkF m 1 #[.val (.ref a), .val (.ref b), .val (.int (Int32.ofNat o)), .val (.int (Int32.ofNat len)), .val .null, .unset] [.ref a])) rfl (by rw [hml]; rfl) (rest := []) rfl (hb hbytes d1) (W := 0) (by show 2 * 0 + 0 ≤ _; decide) (Nat.le_of_ble_eq_true rfl) (Nat.le_of_ble_eq_true rfl)
  have hh3 := q3.trans hh0
  have c4 : Steps p.tables e below (s₁.setTop (entryFrame m #[.ref a, .ref b, .int (Int32.ofNat o), .int (Int32.ofNat len), .null] 6)) (T3.setTop (mkF m 27 #[.val (.ref a), .val (.ref b), .val (.int (Int32.ofNat o)), .val (.int (Int32.ofNat len)), .val .null, .unset] [])) := (c2.trans (st3 _ (Steps.refl _))).trans (by
    refine XS.iloadN X3.here hexec rfl (hb hbytes d4) rfl ?_
    refine XS.ifYes X3.here hexec rfl (pc0 := 5) rfl (hb hbytes d5) rfl (i0_ne_t (nz32 (by omega) l0)) (by decide) rfl ?_
    exact Steps.refl _)
  obtain ⟨T5, X5, q5, st5⟩ := X3.sget hexec hown (wk W (.fieldLink "java/lang/String" 38 "java/lang/String" "COMPACT_STRINGS" "Z")) s1 (fun _ _ h => by rw [hh3]; exact h) (g := (mkF m 27 #[.val (.ref a), .val (.ref b), .val (.int (Int32.ofNat o)), .val (.int (Int32.ofNat len)), .val .null, .unset] [])) rfl (hb hbytes d27)
  have hh5 := q5.trans hh3
  have c6 : Steps p.tables e below (s₁.setTop (entryFrame m #[.ref a, .ref b, .int (Int32.ofNat o), .int (Int32.ofNat len), .null] 6)) (T5.setTop (mkF m 30 #[.val (.ref a), .val (.ref b), .val (.int (Int32.ofNat o)), .val (.int (Int32.ofNat len)), .val .null, .unset] [.int z])) := c4.trans (st5 _ (Steps.refl _))
  have c7 : Steps p.tables e below (s₁.setTop (entryFrame m #[.ref a, .ref b, .int (Int32.ofNat o), .int (Int32.ofNat len), .null] 6)) (T5.setTop (mkF m 36 #[.val (.ref a), .val (.ref b), .val (.int (Int32.ofNat o)), .val (.int (Int32.ofNat len)), .val .null, .unset] [.int (Int32.ofNat len), .int (Int32.ofNat o), .ref b])) := c6.trans (by
    refine XS.ifNo X5.here hexec rfl (hb hbytes d30) rfl (i0_eq_f hz) ?_
    refine XS.aloadN X5.here hexec rfl (hb hbytes d33) rfl rfl ?_
    refine XS.iloadN X5.here hexec rfl (hb hbytes d34) rfl ?_
    refine XS.iloadN X5.here hexec rfl (hb hbytes d35) rfl ?_
    exact Steps.refl _)
  obtain ⟨v8, T8, X8, E8, g8⟩ := X5.callS hexec (Cmp3.law l b A o len) hown (wks W (staticW "java/lang/String" 177 Cmp3.yN)) (wk W Cmp3.tab) (W := 0) (Nat.le_of_ble_eq_true rfl) (Nat.le_of_ble_eq_true rfl) (Nat.le_refl _) (by show 0 + len ≤ len; omega) (g := (mkF m 36 #[.val (.ref a), .val (.ref b), .val (.int (Int32.ofNat o)), .val (.int (Int32.ofNat len)), .val .null, .unset] [.int (Int32.ofNat len), .int (Int32.ofNat o), .ref b])) rfl (by rw [hml]; rfl) c7 (argsL := [.ref b, .int (Int32.ofNat o), .int (Int32.ofNat len)]) (rest := []) rfl rfl (by show 2 * 0 + 0 ≤ _; decide) (hb hbytes d36) (⟨rfl, hA.mv X5.warmed.alike hh5, l1, l2, hp⟩)
  obtain ⟨e8, z8⟩ := E8
  obtain ⟨rfl, N, n1, n2, n3, n4, n5, n6⟩ := NewArr.mv _ T5 s _ _ hh5.symm (Vm.Alike.refl _) rfl e8
  rw [hh5] at z8
  have hB1 := hB.keep X8.warmed.alike (n6 _ _ hB.1)
  have hne : s.heap.size ≠ a := (Nat.ne_of_lt (Array.getElem?_eq_some_iff.mp hB.1).1).symm
  have c9 : Steps p.tables e below (s₁.setTop (entryFrame m #[.ref a, .ref b, .int (Int32.ofNat o), .int (Int32.ofNat len), .null] 6)) (T8.setTop (mkF m 39 #[.val (.ref a), .val (.ref b), .val (.int (Int32.ofNat o)), .val (.int (Int32.ofNat len)), .val .null, .unset] [.ref s.heap.size])) := g8
  have c10 : Steps p.tables e below (s₁.setTop (entryFrame m #[.ref a, .ref b, .int (Int32.ofNat o), .int (Int32.ofNat len), .null] 6)) (T8.setTop (mkF m 45 #[.val (.ref a), .val (.ref b), .val (.int (Int32.ofNat o)), .val (.int (Int32.ofNat len)), .val .null, .val (.ref s.heap.size)] [.int (Int32.ofNat N.slots.size), .ref s.heap.size, .ref a])) := by
    have hc : Steps p.tables e below (s₁.setTop (entryFrame m #[.ref a, .ref b, .int (Int32.ofNat o), .int (Int32.ofNat len), .null] 6)) (T8.setTop (mkF m 45 #[.val (.ref a), .val (.ref b), .val (.int (Int32.ofNat o)), .val (.int (Int32.ofNat len)), .val .null, .val (.ref s.heap.size)] [.int (Int32.ofNat len), .ref s.heap.size, .ref a])) := c9.trans (by
      refine XS.astore X8.here hexec rfl (hb hbytes d39) rfl rfl rfl ?_
      refine XS.aloadN X8.here hexec rfl (hb hbytes d41) rfl rfl ?_
      refine XS.aload X8.here hexec rfl (hb hbytes d42) rfl rfl ?_
      refine XS.iloadN X8.here hexec rfl (hb hbytes d44) rfl ?_
      exact Steps.refl _)
    rw [n4]; exact hc
  obtain ⟨v11, T11, X11, E11, g11⟩ := X8.callS hexec (CodL.law l s.heap.size N) hown (wks W (staticW "java/lang/String" 47 CodL.yN)) (wk W CodL.tab) (W := 1) (Nat.le_of_ble_eq_true rfl) (Nat.le_of_ble_eq_true rfl) (Nat.le_refl _) (by show 0 + len + 0 ≤ len; omega) (g := (mkF m 45 #[.val (.ref a), .val (.ref b), .val (.int (Int32.ofNat o)), .val (.int (Int32.ofNat len)), .val .null, .val (.ref s.heap.size)] [.int (Int32.ofNat N.slots.size), .ref s.heap.size, .ref a])) rfl (by rw [hml]; rfl) c10 (argsL := [.ref s.heap.size, .int (Int32.ofNat N.slots.size)]) (rest := [.ref a]) rfl rfl (by show 2 * 0 + (1 + 0) ≤ _; decide) (hb hbytes d45) (⟨rfl, n1⟩)
  obtain ⟨rfl, q11⟩ := E11
  have hB11 := hB1.mv (X8.warmed.alike.symm.trans X11.warmed.alike) q11
  have c12 : Steps p.tables e below (s₁.setTop (entryFrame m #[.ref a, .ref b, .int (Int32.ofNat o), .int (Int32.ofNat len), .null] 6)) (T11.setTop (mkF m 48 #[.val (.ref a), .val (.ref b), .val (.int (Int32.ofNat o)), .val (.int (Int32.ofNat len)), .val .null, .val (.ref s.heap.size)] [.int 0, .ref a])) := g11
  obtain ⟨T13, X13, p13, bl13, sl13, st13⟩ := X11.finit hexec hown (wk W (.fieldLink "java/lang/String" 15 "java/lang/String" "coder" "B")) (Or.inr ⟨_, (wk W (.laysFinal "java/lang/String" "java/lang/String" "coder" "B"))⟩) (Or.inl ⟨rfl, hnm⟩) f2 (Or.inl rfl) hB11 (t := .byte) (by decide +kernel) rfl (g := (mkF m 48 #[.val (.ref a), .val (.ref b), .val (.int (Int32.ofNat o)), .val (.int (Int32.ofNat len)), .val .null, .val (.ref s.heap.size)] [.int 0, .ref a])) rfl (rest := []) rfl (hb hbytes d48)
  have c14 : Steps p.tables e below (s₁.setTop (entryFrame m #[.ref a, .ref b, .int (Int32.ofNat o), .int (Int32.ofNat len), .null] 6)) (T13.setTop (mkF m 54 #[.val (.ref a), .val (.ref b), .val (.int (Int32.ofNat o)), .val (.int (Int32.ofNat len)), .val .null, .val (.ref s.heap.size)] [.ref s.heap.size, .ref a])) := (c12.trans (st13 _ (Steps.refl _))).trans (by
    refine XS.aloadN X13.here hexec rfl (hb hbytes d51) rfl rfl ?_
    refine XS.aload X13.here hexec rfl (hb hbytes d52) rfl rfl ?_
    exact Steps.refl _)
  obtain ⟨T15, X15, p15, bl15, sl15, st15⟩ := X13.finit hexec hown (wk W (.fieldLink "java/lang/String" 9 "java/lang/String" "value" "[B")) (Or.inr ⟨_, (wk W (.laysFinal "java/lang/String" "java/lang/String" "value" "[B"))⟩) (Or.inl ⟨rfl, hnm⟩) f1 (Or.inl rfl) bl13 (t := (.array .byte)) (by decide +kernel) rfl (g := (mkF m 54 #[.val (.ref a), .val (.ref b), .val (.int (Int32.ofNat o)), .val (.int (Int32.ofNat len)), .val .null, .val (.ref s.heap.size)] [.ref s.heap.size, .ref a])) rfl (rest := []) rfl (hb hbytes d54)
  have c16 : Steps p.tables e below (s₁.setTop (entryFrame m #[.ref a, .ref b, .int (Int32.ofNat o), .int (Int32.ofNat len), .null] 6)) (T15.setTop (mkF m 57 #[.val (.ref a), .val (.ref b), .val (.int (Int32.ofNat o)), .val (.int (Int32.ofNat len)), .val .null, .val (.ref s.heap.size)] [])) := c14.trans (st15 _ (Steps.refl _))
  have ap := apart (Or.inr ⟨_, (wk W (.laysFinal "java/lang/String" "java/lang/String" "value" "[B"))⟩) (Or.inr ⟨_, (wk W (.laysFinal "java/lang/String" "java/lang/String" "coder" "B"))⟩) f1 f2 (t₁ := .array .byte) (t₂ := .byte) (by decide +kernel) (by decide +kernel) (by decide)
  have al := X8.warmed.alike.symm.trans X15.warmed.alike
  have n7 : T11.heap[s.heap.size]? = some N := by rw [q11]; exact n1.1
  exact ⟨T15, none, _, _, _, X15, by simp, rfl, by omega, (fun _ => rfl), ⟨rfl, _, N, bl15, ((Same.refl D _).set _ (by simp)).set _ (by simp), sl15, (Cell.slots_setSlot_ne _ ap).trans sl13, n1.keep al (p15.other hne (p13.other hne n7)), n2, by rw [al.findClass]; exact n3, n4, n5, fun y c h1 h2 => p15.other h1 (p13.other h1 (by rw [q11]; exact n6 y c h2)), by rw [p15.2.2, p13.2.2, q11]; exact z8⟩, fun fs hl => c16.trans (X15.returnOut hexec hret (hb hbytes d57) hl)⟩
end New4
namespace New1
def yN : MethodName := ⟨"java/lang/String", "<init>", "([C)V"⟩
abbrev yB : ByteArray := jdk_42_method_3_code
theorem d0 : decode yB 0 = .ok (.aload_n 0, 1) := by decide +kernel
theorem d1 : decode yB 1 = .ok (.aload_n 1, 1) := by decide +kernel
theorem d2 : decode yB 2 = .ok (.iconst 0, 1) := by decide +kernel
theorem d3 : decode yB 3 = .ok (.aload_n 1, 1) := by decide +kernel
theorem d4 : decode yB 4 = .ok (.arraylength, 1) := by decide +kernel
theorem d5 : decode yB 5 = .ok (.aconst_null, 1) := by decide +kernel
theorem d6 : decode yB 6 = .ok (.invokespecial 27, 3) := by decide +kernel
theorem d9 : decode yB 9 = .ok (.return_, 1) := by decide +kernel
def site : List Cond := [New4.tab] ++ initW "java/lang/String" 27 New4.yN
def tab : Cond := tabOf yN yB 2 none site
def P (a : Addr) (D : Cell) (fV fC : Field) (b : Addr) (A : Cell) (z : Int32) (args : Array Value) (s : State) : Prop := args = #[.ref a, .ref b] ∧ Blank "java/lang/String" a D s ∧ Found "java/lang/String" "value" "[B" fV s ∧ Found "java/lang/String" "coder" "B" fC s ∧ Ch b A s ∧ StaticIs s "java/lang/String" "COMPACT_STRINGS" "Z" (.int z) ∧ ¬ z = 0 ∧ 0 < A.slots.size ∧ A.slots.size ≤ 536870912 ∧ ∀ i, i < A.slots.size → ¬ 255 < cv A i
def E (a : Addr) (D : Cell) (fV fC : Field) (A : Cell) (r : Option Value) (s u : State) : Prop := Got a D fV fC A 0 A.slots.size r s u
/-- new String(chars), not empty, no char above 255: a Latin-1 String of their low bytes -/
theorem law (l : Launch) (a : Addr) (D : Cell) (fV fC : Field) (b : Addr) (A : Cell) (z : Int32) : Law l yN 2 1 3 52 yB 2 none site (P a D fV fC b A z) (E a D fV fC A) [⟨a, fC.slot⟩, ⟨a, fV.slot⟩] 1 A.slots.size := by
  refine Law.of_walk (plainFor_of_name (by decide +kernel)) (by decide +kernel) (by decide +kernel) (by decide) (fun _ _ h => by rw [h.1]; rfl) (fun _ U U' hal hh h => ⟨h.1, h.2.1.mv hal hh, h.2.2.1.al hal, h.2.2.2.1.al hal, h.2.2.2.2.1.mv hal hh, h.2.2.2.2.2.1.there hal hh, h.2.2.2.2.2.2⟩) (fun r U U' V V' h1 hal h2 h => Got.mv r U U' V V' h1 hal h2 h) ?_
  intro p e s m args below meth c s₁ X0 hexec hbytes hml hret hlk hnm hown hh0 W hP
  obtain ⟨rfl, hB, f1, f2, hA, s1, hz, l0, l2, hp⟩ := hP
  have c1 : Steps p.tables e below (s₁.setTop (entryFrame m #[.ref a, .ref b] 2)) (s₁.setTop (mkF m 0 #[.val (.ref a), .val (.ref b)] [])) := entry rfl
  have c2 : Steps p.tables e below (s₁.setTop (entryFrame m #[.ref a, .ref b] 2)) (s₁.setTop (mkF m 6 #[.val (.ref a), .val (.ref b)] [.null, .int (Int32.ofNat A.slots.size), .int 0, .ref b, .ref a])) := c1.trans (by
    refine XS.aloadN X0.here hexec rfl (hb hbytes d0) rfl rfl ?_
    refine XS.aloadN X0.here hexec rfl (hb hbytes d1) rfl rfl ?_
    refine iconstV X0.here hexec rfl 0 (hb hbytes d2) (by decide) ?_
    refine XS.aloadN X0.here hexec rfl (hb hbytes d3) rfl rfl ?_
    refine X0.alen hexec (hA.1.mv X0.warmed.alike hh0) rfl rfl (hb hbytes d4) ?_
    refine XS.aconstNull X0.here hexec rfl (hb hbytes d5) ?_
    exact Steps.refl _)
  obtain ⟨v3, T3, X3, E3, g3⟩ := X0.callN hexec (New4.law l a D fV fC b A z 0 A.slots.size) rfl hown (wks W (initW "java/lang/String" 27 New4.yN)) (W New4.tab (by simp only [site, List.mem_cons, List.mem_append, true_or, or_true])) (W := 0) (Nat.le_of_ble_eq_true rfl) (Nat.le_of_ble_eq_true rfl) (Nat.le_refl _) (by show 0 + A.slots.size ≤ A.slots.size; omega) (g := (mkF m 6 #[.val (.ref a), .val (.ref b)] [.null, .int (Int32.ofNat A.slots.size), .int (Int32.ofNat 0), .ref b, .ref a])) rfl (by rw [hml]; rfl) c2 (argsL := [.ref b, .int (Int32.ofNat 0), .int (Int32.ofNat A.slots.size), .null]) (rest := []) rfl rfl (by show 2 * 0 + 0 ≤ _; decide) (hb hbytes d6) (⟨rfl, hB.mv X0.warmed.alike hh0, f1.al X0.warmed.alike, f2.al X0.warmed.alike, hA.mv X0.warmed.alike hh0, s1.there X0.warmed.alike hh0, hz, l0, by omega, l2, fun i hi => by rw [Nat.zero_add]; exact hp i hi⟩)
  have e0 := Got.mv _ s₁ s _ _ hh0.symm (Vm.Alike.refl _) rfl E3
  obtain rfl := e0.1
  have c4 : Steps p.tables e below (s₁.setTop (entryFrame m #[.ref a, .ref b] 2)) (T3.setTop (mkF m 9 #[.val (.ref a), .val (.ref b)] [])) := g3
  exact ⟨T3, none, _, _, _, X3, by simp, rfl, by omega, (fun _ => rfl), e0, fun fs hl => c4.trans (X3.returnOut hexec hret (hb hbytes d9) hl)⟩
theorem pays {l : Launch} {R : Room} {p : Program} {e : Env} {below : List Frame} {s : State} {sargs : Array Value} {len W : Nat} (a : Addr) (D : Cell) (fV fC : Field) (b : Addr) (A : Cell) (z : Int32) (htab : tab.before sargs s = true) (hfr : 4 ≤ R.frames) (hlo : W + 65 ≤ R.locals) :
    Back l R p e below s sargs yN len W (fun A₁ a₁ => A₁.cells + 1 ≤ R.cells ∧ A₁.slots + A.slots.size ≤ R.slots ∧ P a D fV fC b A z a₁ A₁.U) (fun A₁ _ v₁ B₁ => E a D fV fC A v₁ A₁.U B₁.U ∧ B₁.locs = A₁.locs ++ [⟨a, fC.slot⟩, ⟨a, fV.slot⟩] ∧ B₁.cells = A₁.cells + 1 ∧ B₁.slots = A₁.slots + A.slots.size) :=
  (law l a D fV fC b A z).pays htab hfr (by omega)
end New1
/-- the byte, read back as charAt reads it, is the char -/
theorem lo8_mask {x : Int32} (h0 : ¬ x < 0) (h1 : ¬ 255 < x) : lo8 x &&& 255 = x := by
  have t : ∀ k : Fin 256, lo8 (Int32.ofNat k.val) &&& 255 = Int32.ofNat k.val := by decide +kernel
  rw [Int32.lt_iff_toInt_lt] at h0 h1
  have e0 : (0 : Int32).toInt = 0 := rfl
  have e1 : (255 : Int32).toInt = 255 := rfl
  obtain ⟨k, hk⟩ : ∃ k : Nat, x.toInt = k := ⟨x.toInt.toNat, by omega⟩
  have hx : x = Int32.ofNat k := Int32.toInt_inj.mp (by rw [hk, Int32.toInt_ofNat_small (by omega)])
  rw [hx]
  exact t ⟨k, by omega⟩
end StrChars
namespace StrChars.Road
open Jvm Sem ClassFile Op Lib Jvm.Stand Jvm.Free Jvm.Free.XT
open Jvm.Lib.Cold (StaticIs)
abbrev ST : String := "java/lang/String"
/-- every table word that New1's law asks, flat -/
abbrev words : List Jvm.Cond := [.code New1.yN New1.yB 2 none, .initialized ST, .methodLink ST 27 New4.yN, .instanceMethod New4.yN,
  .code New4.yN New4.yB 6 none, .fieldLink ST 38 ST "COMPACT_STRINGS" "Z", .laysFinal ST ST "value" "[B", .fieldLink ST 9 ST "value" "[B", .laysFinal ST ST "coder" "B", .fieldLink ST 15 ST "coder" "B",
  .methodLink ST 1 Lib.objectInit, .instanceMethod Lib.objectInit, .code Lib.objectInit ⟨#[0xb1]⟩ 1 none, .methodLink ST 177 Cmp3.yN, .static Cmp3.yN, .methodLink ST 47 CodL.yN, .static CodL.yN,
  .code Cmp3.yN Cmp3.yB 6 (some (.array .byte)), .initialized U16, .arrayClass .byte, .methodLink U16 115 Cmp5.yN, .static Cmp5.yN, .code Cmp5.yN Cmp5.yB 7 (some .int), .code CodL.yN CodL.yB 2 (some .byte)]
theorem tab_of {a : Array Value} {s : State} (h : ∀ w ∈ words, w.before a s = true) : New1.tab.before a s = true := by
  have h5 : Cmp5.tab.before a s = true := unparts (wk h (.code Cmp5.yN Cmp5.yB 7 (some .int))) (wks h (.initialized Cmp5.yN.cls :: Cmp5.site))
  have hc : CodL.tab.before a s = true := unparts (wk h (.code CodL.yN CodL.yB 2 (some .byte))) (wks h (.initialized CodL.yN.cls :: CodL.site))
  have q5 : ∀ w ∈ Cmp5.tab :: words, w.before a s = true := fun w hw => (List.mem_cons.mp hw).elim (fun e => e ▸ h5) (h w)
  have h3 : Cmp3.tab.before a s = true := unparts (wk q5 (.code Cmp3.yN Cmp3.yB 6 (some (.array .byte)))) (wks q5 (.initialized Cmp3.yN.cls :: Cmp3.site))
  have q3 : ∀ w ∈ Cmp3.tab :: CodL.tab :: words, w.before a s = true := fun w hw => (List.mem_cons.mp hw).elim (fun e => e ▸ h3) fun hw => (List.mem_cons.mp hw).elim (fun e => e ▸ hc) (h w)
  have h4 : New4.tab.before a s = true := unparts (wk q3 (.code New4.yN New4.yB 6 none)) (wks q3 (.initialized New4.yN.cls :: New4.site))
  have q4 : ∀ w ∈ New4.tab :: words, w.before a s = true := fun w hw => (List.mem_cons.mp hw).elim (fun e => e ▸ h4) (h w)
  exact unparts (wk q4 (.code New1.yN New1.yB 2 none)) (wks q4 (.initialized New1.yN.cls :: New1.site))
/-- the words ride from the start Z to the walk's own state -/
theorem moved {Z s : State} {a0 args : Array Value} (hZ : Z.Warmed39 s.vm) (hw : ∀ d ∈ words, d.before a0 Z = true) : ∀ d ∈ words, d.before args s = true := fun d hd => by
  have q := hw d hd
  have t : ∀ d ∈ words, d = .arrayClass .byte ∨ (d.onTables && d.keepsFace) = true := by decide +kernel
  rcases t d hd with rfl | t
  · exact RoadKit.mvA hZ q
  · exact RoadKit.mv hZ q t
/-- WHAT COMES BACK, over the tables of the start Z: h the heap at the call, h' behind it -/
def Q (Z : State) (x : Addr) (A : Cell) (h : Heap) (v : Option Value) (h' : Heap) (L : List Loc) : Prop := v = none ∧ (∀ y ∈ L, y.base = x) ∧ RoadKit.Keep h h' [x] ∧ h'.size = h.size + 1 ∧ RoadKit.Exa Z h' x ST ∧ RoadKit.Fld Z h' x ST "value" "[B" (.ref h.size) ∧ RoadKit.Fld Z h' x ST "coder" "B" (.int 0) ∧
  (∃ V : Cell, RoadKit.Arr Z h' h.size V .byte ∧ V.vm = .none ∧ Z.vm.findClass "[B" = some V.cls ∧ V.slots.size = A.slots.size ∧ ∀ j, j < A.slots.size → V.slots[j]? = some (.int (lo8 (cv A j)))) ∧
  ∀ (O n d : String) (w : Value), RoadKit.Fld Z h x O n d w → RoadKit.slotOf Z O n d ≠ RoadKit.slotOf Z ST "value" "[B" → RoadKit.slotOf Z O n d ≠ RoadKit.slotOf Z ST "coder" "B" → RoadKit.Fld Z h' x O n d w
/-- **new String(chars) AT A CALL, IN THE ROAD'S FORM**: for specialBack behind newO: x the fresh String, b the char[] with the cell A -/
theorem back {p : Program} {l : Launch} {e : Env} {R : Room} {s : State} {args : Array Value} {below : List Frame} {len W : Nat} {Z : State} {a0 : Array Value} {h : Heap} (hZ : Z.Warmed39 s.vm) (hw : ∀ d ∈ words, d.before a0 Z = true) {kI : Nat} (wi : (Jvm.Cond.instantiable ST kI).before a0 Z = true)
    {x b : Addr} {A : Cell} {z : Int32} {v0 c0 : Value} (E : RoadKit.Exa Z h x ST) (V : RoadKit.Fld Z h x ST "value" "[B" v0) (C : RoadKit.Fld Z h x ST "coder" "B" c0) (K : RoadKit.Arr Z h b A .char) (hty : Typed .char A) (S : RoadKit.Sta Z h ST "COMPACT_STRINGS" "Z" (.int z)) (hz : ¬ z = 0)
    (l0 : 0 < A.slots.size) (l2 : A.slots.size ≤ 536870912) (hp : ∀ i, i < A.slots.size → ¬ 255 < cv A i) (hfr : 4 ≤ R.frames) (hlo : W + 65 ≤ R.locals) :
    Back l R p e below s args New1.yN len W (fun P a => a = #[.ref x, .ref b] ∧ P.U.heap = h ∧ P.cells + 1 ≤ R.cells ∧ P.slots + A.slots.size ≤ R.slots)
      (fun P _ v B => ∃ L, Q Z x A h v B.U.heap L ∧ B.locs = P.locs ++ L ∧ B.cells = P.cells + 1 ∧ B.slots = P.slots + A.slots.size) := by
  intro m meth c P g ig mk a X hg hsize hdg hW hn hp'
  obtain ⟨rfl, rfl, r1, r2⟩ := hp'
  have al : Z.vm.Alike P.U.vm := hZ.alike.trans X.warmed.alike
  obtain ⟨D, cfV, kV, iV, fV, hD, gV, stV, knV, obV, asV, slV⟩ := id V
  obtain ⟨D', cfC, kC, iC, fC, hD', gC, stC, -, -, asC, slC⟩ := id C
  cases hD.symm.trans hD'
  obtain ⟨D2, kD, e1, e2, e3, e4, e5⟩ := id E
  cases hD.symm.trans e1
  obtain ⟨c2, k2, i1, i2, i3, -⟩ := Cond.instantiable_spec wi
  cases e2.symm.trans i1
  cases e3.symm.trans i2
  obtain ⟨kU, u1, u2⟩ := al.2.2 _ _ e3
  have hB : Blank ST x D P.U := ⟨hD, ⟨knV, fun q hq => by rw [hq] at obV; cases obV⟩, by rw [al.findClass]; exact e2, kU, u1, by rw [u2]; exact i3, by rw [u2]; exact e5 i3⟩
  have F1 : Found ST "value" "[B" fV P.U := ⟨SBG.found_only al ⟨cfV, kV, iV, gV⟩, stV⟩
  have F2 : Found ST "coder" "B" fC P.U := ⟨SBG.found_only al ⟨cfC, kC, iC, gC⟩, stC⟩
  have hA : Ch b A P.U := ⟨⟨K.1, State.isArrayOf_alike al K.2.1, K.2.2, by omega⟩, hty⟩
  have hS : StaticIs P.U ST "COMPACT_STRINGS" "Z" (.int z) := by
    obtain ⟨cfS, iS, kS, fS, st, cS, t1, t2, t3, t4, t5, t6, t7⟩ := S
    exact StaticIs.there (s := { Z with heap := P.U.heap }) ⟨cfS, iS, kS, fS, st, cS, t1, t2, t3, t4, t5, (fun q => by rw [q] at t6; cases t6), t7⟩ al rfl
  obtain ⟨v, B, X', ⟨⟨hv, E', V', q1, q2, q3, q4, q5, q6, q7, q8, q9, q10, q11⟩, hl, hc, hs⟩, st⟩ := New1.pays x D fV fC b A z (tab_of (moved hZ hw)) hfr hlo m meth c P g ig mk _ X hg hsize hdg hW hn ⟨r1, r2, rfl, hB, F1, F2, hA, hS, hz, l0, l2, hp⟩
  have al' : Z.vm.Alike B.U.vm := hZ.alike.trans X'.warmed.alike
  have hsz : E'.slots.size = D.slots.size := by
    obtain ⟨-, -, -, kB, w1, w2, w3⟩ := q1
    obtain ⟨kB', y1, y2⟩ := al'.2.2 _ _ e3
    rw [q2.2.1] at w1
    cases w1.symm.trans y1
    rw [w3, e5 i3, y2]
  refine ⟨v, B, X', ⟨_, ⟨hv, ?_, ⟨by omega, fun y cy hy hn' => q10 y cy (by simpa using hn') hy, fun y cy hy => ?_⟩, q11, ⟨E', _, q1.1, by rw [q2.2.1]; exact e2, by rw [q2.2.1]; exact e3, by rw [q2.1]; exact obV, fun _ => by rw [hsz]; exact e5 i3⟩,
    ⟨E', cfV, kV, iV, fV, q1.1, gV, stV, by rw [q2.1]; exact knV, by rw [q2.1]; exact obV, by rw [q2.2.1]; exact asV, q3⟩, ⟨E', cfC, kC, iC, fC, q1.1, gC, stC, by rw [q2.1]; exact knV, by rw [q2.1]; exact obV, by rw [q2.2.1]; exact asC, q4⟩,
    ⟨V', ⟨q5.1, State.isArrayOf_alike al'.symm q5.2.1, q5.2.2.1⟩, q6, by rw [← al'.findClass]; exact q7, q8, fun j hj => by have := q9 j hj; rwa [Nat.zero_add] at this⟩, fun O n d w F n1 n2 => ?_⟩, hl, hc, hs⟩, st⟩
  · intro y hy
    simp only [List.mem_cons, List.not_mem_nil, or_false] at hy
    rcases hy with rfl | rfl <;> rfl
  · by_cases q : y = x
    · subst q
      cases hD.symm.trans hy
      exact ⟨E', q1.1, q2.2.1, q2.1, hsz⟩
    · exact ⟨cy, q10 y cy q hy, rfl, rfl, rfl⟩
  · obtain ⟨D3, cf, k, i, f, g1, g2, g3, g4, g5, g6, g7⟩ := F
    cases hD.symm.trans g1
    simp only [RoadKit.slotOf, g2, gV, gC, Option.map_some, Option.getD_some] at n1 n2
    exact ⟨E', cf, k, i, f, q1.1, g2, g3, by rw [q2.1]; exact g4, by rw [q2.1]; exact g5, by rw [q2.2.1]; exact g6, by rw [q2.2.2 f.slot (by simp [n1, n2])]; exact g7⟩
end StrChars.Road
namespace StrChars.Road
open Jvm Sem ClassFile Op Lib Jvm.Stand Jvm.Free Jvm.Free.XT
/-- WHAT COMES BACK, the byte[] as a list of values -/
def QA (Z : State) (x : Addr) (zn : Int32) (cs : List Int32) (h : Heap) (v : Option Value) (h' : Heap) (L : List Loc) : Prop := v = none ∧ (∀ y ∈ L, y.base = x) ∧ RoadKit.Keep h h' [x] ∧ h'.size = h.size + 1 ∧ RoadKit.Exa Z h' x ST ∧ RoadKit.Fld Z h' x ST "value" "[B" (.ref h.size) ∧ RoadKit.Fld Z h' x ST "coder" "B" (.int 0) ∧
  (∃ kb, Z.vm.findClass "[B" = some kb ∧ RoadKit.Arv Z h' h.size kb .byte zn (cs.map fun c => .int (lo8 c)) (.int 0)) ∧
  ∀ (O n d : String) (w : Value), RoadKit.Fld Z h x O n d w → RoadKit.slotOf Z O n d ≠ RoadKit.slotOf Z ST "value" "[B" → RoadKit.slotOf Z O n d ≠ RoadKit.slotOf Z ST "coder" "B" → RoadKit.Fld Z h' x O n d w
/-- **new String(chars) AT A CALL, THE ARRAYS AS LISTS**: the char[] at b holds cs, not empty, no char above 255 -/
theorem backArv {p : Program} {l : Launch} {e : Env} {R : Room} {s : State} {args : Array Value} {below : List Frame} {len W : Nat} {Z : State} {a0 : Array Value} {h : Heap} (hZ : Z.Warmed39 s.vm) (hw : ∀ d ∈ words, d.before a0 Z = true) {kI : Nat} (wi : (Jvm.Cond.instantiable ST kI).before a0 Z = true)
    {x b : Addr} {k : ClassId} {zn z : Int32} {cs : List Int32} {dv v0 c0 : Value} (E : RoadKit.Exa Z h x ST) (V : RoadKit.Fld Z h x ST "value" "[B" v0) (C : RoadKit.Fld Z h x ST "coder" "B" c0) (K : RoadKit.Arv Z h b k .char zn (cs.map Value.int) dv) (S : RoadKit.Sta Z h ST "COMPACT_STRINGS" "Z" (.int z)) (hz : ¬ z = 0)
    (hlen : zn.toNatClampNeg = cs.length) (h0 : 0 < cs.length) (hbig : cs.length ≤ 536870912) (hall : ∀ c ∈ cs, ¬ 255 < c) (hfr : 4 ≤ R.frames) (hlo : W + 65 ≤ R.locals) :
    Back l R p e below s args New1.yN len W (fun P a => a = #[.ref x, .ref b] ∧ P.U.heap = h ∧ P.cells + 1 ≤ R.cells ∧ P.slots + cs.length ≤ R.slots)
      (fun P _ v B => ∃ L, QA Z x zn cs h v B.U.heap L ∧ B.locs = P.locs ++ L ∧ B.cells = P.cells + 1 ∧ B.slots = P.slots + cs.length) := by
  obtain ⟨A, K1, K2, K3, K4, K5, K6⟩ := K
  have e : A.slots.size = cs.length := K3.trans hlen
  have hat : ∀ (i : Nat) (hi : i < cs.length), A.slots[i]? = some (.int cs[i]) := fun i hi => by rw [K5 i (by omega)]; simp [List.getD_eq_getElem?_getD, hi]
  have hcv : ∀ (i : Nat) (hi : i < cs.length), cv A i = cs[i] := fun i hi => by unfold cv; rw [hat i hi]
  have hty : Typed .char A := fun i v hv => by
    have hi : i < A.slots.size := (Array.getElem?_eq_some_iff.mp hv).1
    have q := K5 i hi
    rw [hv] at q
    rw [Option.some.inj q]
    exact K6 i hi
  refine Back.mono (back hZ hw wi E V C K1 hty S hz (by omega) (by omega) (fun i hi => by rw [hcv i (by omega)]; exact hall _ (List.getElem_mem _)) hfr hlo) (fun P a hp => ⟨hp.1, hp.2.1, hp.2.2.1, by rw [e]; exact hp.2.2.2⟩) (fun P a v B hp hq => ?_)
  obtain ⟨L, ⟨q1, q2, q3, q4, q5, q6, q7, ⟨V', v1, v2, v3, v4, v5⟩, q9⟩, hl, hc, hs⟩ := hq
  refine ⟨L, ⟨q1, q2, q3, q4, q5, q6, q7, ⟨V'.cls, v3, V', v1, rfl, by rw [v4, e, hlen], K4, fun i hi => ?_, fun i hi => ?_⟩, q9⟩, hl, hc, by rw [hs, e]⟩
  · have hi' : i < cs.length := by omega
    rw [v5 i (by omega), hcv i hi']; simp [List.getD_eq_getElem?_getD, hi']
  · have hi' : i < cs.length := by omega
    simp only [List.getD_eq_getElem?_getD, List.getElem?_map, List.getElem?_eq_getElem hi', Option.map_some, Option.getD_some]
    exact fits_lo8 _
end StrChars.Road
namespace StrChars.Road
open Jvm Sem ClassFile Op Lib Jvm.Stand Jvm.Free Jvm.Free.XT
/-- WHAT COMES BACK, in the writer's own shape -/
def QV (Z : State) (x : Addr) (N : Int32) (bs : List Int32) (h : Heap) (n0 : Nat) (v : Option Value) (h' : Heap) (L : List Loc) : Prop := v = none ∧ RoadKit.Fr n0 L ∧ RoadKit.Keep h h' [x] ∧ RoadKit.Exa Z h' x ST ∧ RoadKit.Fld Z h' x ST "coder" "B" (.int 0) ∧
  ∃ (t : Addr) (kb : ClassId), n0 ≤ t ∧ h.size ≤ t ∧ ¬ t = x ∧ RoadKit.Fld Z h' x ST "value" "[B" (.ref t) ∧ RoadKit.Arv Z h' t kb .byte N (bs.map Value.int) (.int 0)
/-- **new String(chars) AT A CALL, FOR THE WRITER**: a char[] of n known ints, each 0 to 255 -/
theorem backV {p : Program} {l : Launch} {e : Env} {R : Room} {s : State} {args : Array Value} {below : List Frame} {len W : Nat} {Z : State} {a0 : Array Value} {h : Heap} (hZ : Z.Warmed39 s.vm) (hw : ∀ d ∈ words, d.before a0 Z = true) {kI : Nat} (wi : (Jvm.Cond.instantiable ST kI).before a0 Z = true)
    {x b : Addr} {kC : ClassId} {cs bs : List Int32} {d v0 c0 : Value} {z N : Int32} {n n0 : Nat} (hx0 : n0 ≤ x) (hh0 : n0 ≤ h.size) (E : RoadKit.Exa Z h x ST) (V : RoadKit.Fld Z h x ST "value" "[B" v0) (C : RoadKit.Fld Z h x ST "coder" "B" c0) (K : RoadKit.Arv Z h b kC .char N (cs.map Value.int) d) (S : RoadKit.Sta Z h ST "COMPACT_STRINGS" "Z" (.int z)) (hz : ¬ z = 0)
    (hn : cs.length = n) (hN : N = Int32.ofNat n) (l0 : 0 < n) (l2 : n ≤ 4000) (hp : ∀ c ∈ cs, ¬ c < 0 ∧ ¬ (255 : Int32) < c) (hb : bs = cs.map (fun c => c.toInt8.toInt32)) (hfr : 4 ≤ R.frames) (hlo : W + 65 ≤ R.locals) :
    Back l R p e below s args (⟨"java/lang/String", "<init>", "([C)V"⟩ : MethodName) len W (fun P a => a = #[.ref x, .ref b] ∧ P.U.heap = h ∧ P.cells + 1 ≤ R.cells ∧ P.slots + n ≤ R.slots)
      (fun P _ v B => ∃ L, QV Z x N bs h n0 v B.U.heap L ∧ B.locs = P.locs ++ L ∧ B.cells = P.cells + 1 ∧ B.slots = P.slots + n) := by
  subst hn hN hb
  refine Back.mono (backArv hZ hw wi E V C K S hz (n32 (by omega)) l0 (by omega) (fun c hc => (hp c hc).2) hfr hlo) (fun P a hp => hp) (fun P a v B hp hq => ?_)
  obtain ⟨L, ⟨q1, q2, q3, q4, q5, q6, q7, ⟨kb, v1, v2⟩, q9⟩, hl, hc, hs⟩ := hq
  exact ⟨L, ⟨q1, fun y hy => by rw [q2 y hy]; exact hx0, q3, q5, q7, h.size, kb, hh0, Nat.le_refl _, Nat.ne_of_gt E.lt, q6, by rw [List.map_map]; exact v2⟩, hl, hc, hs⟩
end StrChars.Road
namespace StrChars
open Jvm Sem ClassFile Op Lib Jvm.Stand Jvm.Free.XT Jvm.Free.ALB Jvm.Free.JM Jvm.Free
open Jvm.Lib.Cold (StaticIs)
def hi8 (x : Int32) : Int32 := lo8 (x >>> ((8 : Int32) &&& 31))
/-- what StringUTF16.getChar makes of two bytes -/
def pairCh (u v : Int32) : Int32 := (((u &&& 255) <<< ((0 : Int32) &&& 31)) ||| ((v &&& 255) <<< ((8 : Int32) &&& 31))).toUInt32.toUInt16.toUInt32.toInt32
theorem lo8_and (x : Int32) : (lo8 x &&& 255).toBitVec.toNat = x.toBitVec.toNat % 256 := by
  have h : (lo8 x).toBitVec = (x.toBitVec.signExtend 8).signExtend 32 := by rw [lo8, Int8.toBitVec_toInt32, Int32.toBitVec_toInt8]
  rw [Int32.toBitVec_and, BitVec.toNat_and, h]
  have e : ((x.toBitVec.signExtend 8).signExtend 32).toNat % 256 = x.toBitVec.toNat % 256 := by
    rw [BitVec.toNat_signExtend]
    have hlt := x.toBitVec.isLt
    simp only [BitVec.toNat_setWidth, BitVec.toNat_signExtend]
    split <;> split <;> omega
  rw [← e]
  exact Nat.and_two_pow_sub_one_eq_mod _ 8
theorem pair_says {c : Int32} (h0 : ¬ c < 0) (h1 : ¬ 65535 < c) : pairCh (lo8 c) (hi8 c) = c := by
  rw [Int32.lt_iff_toInt_lt] at h0 h1
  have e0 : (0 : Int32).toInt = 0 := rfl
  have e1 : (65535 : Int32).toInt = 65535 := rfl
  have hc : c.toInt = c.toBitVec.toNat := by
    have := c.toBitVec.isLt
    have e : c.toInt = c.toBitVec.toInt := rfl
    rw [e] at h0 h1
    rw [e]
    rw [BitVec.toInt_eq_toNat_cond] at h0 h1 ⊢
    split at h0 <;> split <;> omega
  have hn : c.toBitVec.toNat < 65536 := by omega
  have a1 := lo8_and c
  have a2 : (hi8 c &&& 255).toBitVec.toNat = c.toBitVec.toNat / 256 := by
    rw [hi8, lo8_and]
    have e : ((8 : Int32) &&& 31) = 8 := by decide
    rw [e, Int32.toBitVec_shiftRight]
    have e2 : ((8 : Int32).toBitVec.smod 32) = 8#32 := by decide
    rw [e2, BitVec.sshiftRight_eq', BitVec.toNat_sshiftRight_of_msb_false (by rw [BitVec.msb_eq_false_iff_two_mul_lt]; omega)]
    show c.toBitVec.toNat >>> 8 % 256 = _
    rw [Nat.shiftRight_eq_div_pow]
    omega
  unfold pairCh
  apply Int32.toBitVec_inj.mp
  apply BitVec.eq_of_toNat_eq
  have f0 : ((0 : Int32) &&& 31) = 0 := by decide
  have f8 : ((8 : Int32) &&& 31) = 8 := by decide
  rw [f0, f8]
  have g : (((lo8 c &&& 255) <<< (0 : Int32)) ||| ((hi8 c &&& 255) <<< (8 : Int32))).toBitVec.toNat = c.toBitVec.toNat := by
    rw [Int32.toBitVec_or, Int32.toBitVec_shiftLeft, Int32.toBitVec_shiftLeft]
    have s0 : ((0 : Int32).toBitVec.smod 32) = 0#32 := by decide
    have s8 : ((8 : Int32).toBitVec.smod 32) = 8#32 := by decide
    rw [s0, s8, BitVec.toNat_or]
    simp only [BitVec.shiftLeft_eq', BitVec.toNat_shiftLeft, a1, a2]
    show (c.toBitVec.toNat % 256) <<< 0 % 2 ^ 32 ||| (c.toBitVec.toNat / 256) <<< 8 % 2 ^ 32 = _
    rw [Nat.shiftLeft_zero, Nat.mod_eq_of_lt (show c.toBitVec.toNat % 256 < 2 ^ 32 by omega), Nat.mod_eq_of_lt (show (c.toBitVec.toNat / 256) <<< 8 < 2 ^ 32 by rw [Nat.shiftLeft_eq]; omega), Nat.or_comm, ← Nat.shiftLeft_add_eq_or_of_lt (by omega), Nat.shiftLeft_eq]
    omega
  show BitVec.toNat (((((lo8 c &&& 255) <<< (0 : Int32)) ||| ((hi8 c &&& 255) <<< (8 : Int32))).toBitVec.setWidth 16).setWidth 32) = _
  rw [BitVec.toNat_setWidth, BitVec.toNat_setWidth, g]
  omega
end StrChars
namespace StrChars
open Jvm Sem ClassFile Op Lib Jvm.Stand Jvm.Free.XT Jvm.Free.ALB Jvm.Free.JM Jvm.Free
open Jvm.Lib.Cold (StaticIs)
/-- the array's cell V codes the n chars f 0 .. f (n - 1) by the coder cd, as the JDK does: coder 1 just where some char is above 255 -/
def Cod (cd : Int32) (n : Nat) (f : Nat → Int32) (V : Cell) : Prop := (cd = 0 ∧ V.slots.size = n ∧ ∀ j, j < n → V.slots[j]? = some (.int (lo8 (f j))) ∧ ¬ 255 < f j) ∨ (cd = 1 ∧ V.slots.size = 2 * n ∧ (∀ j, j < n → V.slots[2 * j]? = some (.int (lo8 (f j))) ∧ V.slots[2 * j + 1]? = some (.int (hi8 (f j)))) ∧ ∃ j, j < n ∧ 255 < f j)
/-- **x is a String of the n chars f 0 .. f (n - 1)**, Latin-1 or UTF-16; its array at t has the cell V -/
def Txt (x t : Addr) (V : Cell) (cd : Int32) (n : Nat) (f : Nat → Int32) (U : State) : Prop := Exact "java/lang/String" x U ∧ Has x "java/lang/String" "value" "[B" (.ref t) U ∧ Has x "java/lang/String" "coder" "B" (.int cd) U ∧ XT.Arr .byte t V U ∧ Cod cd n f V ∧ ∀ j, j < n → ¬ f j < 0 ∧ ¬ 65535 < f j
theorem Txt.mv {x t : Addr} {V : Cell} {cd : Int32} {n : Nat} {f : Nat → Int32} {U U' : State} (h : Txt x t V cd n f U) (hal : U.vm.Alike U'.vm) (hh : U'.heap = U.heap) : Txt x t V cd n f U' := ⟨h.1.mv hal hh, h.2.1.mv hal hh, h.2.2.1.mv hal hh, h.2.2.2.1.mv hal hh, h.2.2.2.2⟩
end StrChars
namespace StrChars.Road
open Jvm Sem ClassFile Op Lib Jvm.Stand Jvm.Free Jvm.Free.XT
open Jvm.Lib.Cold (StaticIs)
theorem consq {a : Array Value} {s : State} {c : Jvm.Cond} {L : List Jvm.Cond} (h0 : c.before a s = true) (h : ∀ w ∈ L, w.before a s = true) : ∀ w ∈ c :: L, w.before a s = true := fun w hw => (List.mem_cons.mp hw).elim (fun e => e ▸ h0) (h w)
/-- the bytes of the chars cs, low before high -/
def wideBytes : List Int32 → List Value
  | [] => []
  | c :: cs => .int (lo8 c) :: .int (hi8 c) :: wideBytes cs
theorem wide_lo (d : Value) : ∀ (cs : List Int32) (j : Nat), j < cs.length → (wideBytes cs).getD (2 * j) d = .int (lo8 (cs.getD j 0))
  | [], j, h => absurd h (Nat.not_lt_zero j)
  | c :: cs, 0, _ => rfl
  | c :: cs, j + 1, h => by
    have q := wide_lo d cs j (by simpa using h)
    rw [show 2 * (j + 1) = 2 * j + 1 + 1 from by omega]
    simpa [wideBytes] using q
theorem wide_hi (d : Value) : ∀ (cs : List Int32) (j : Nat), j < cs.length → (wideBytes cs).getD (2 * j + 1) d = .int (hi8 (cs.getD j 0))
  | [], j, h => absurd h (Nat.not_lt_zero j)
  | c :: cs, 0, _ => rfl
  | c :: cs, j + 1, h => by
    have q := wide_hi d cs j (by simpa using h)
    rw [show 2 * (j + 1) + 1 = 2 * j + 1 + 1 + 1 from by omega]
    simpa [wideBytes] using q
theorem low_at (d : Value) (cs : List Int32) (j : Nat) (h : j < cs.length) : (cs.map fun c => Value.int (lo8 c)).getD j d = .int (lo8 (cs.getD j 0)) := by
  simp [List.getD_eq_getElem?_getD, h]
/-- an array of N2 bytes vs codes the chars cs by the coder cd -/
def CodA (cs : List Int32) (cd N2 : Int32) (vs : List Value) : Prop := (cd = 0 ∧ N2 = Int32.ofNat cs.length ∧ vs = (cs.map fun c => Value.int (lo8 c)) ∧ ∀ c ∈ cs, ¬ 255 < c) ∨ (cd = 1 ∧ N2 = Int32.ofNat (2 * cs.length) ∧ vs = wideBytes cs ∧ ∃ c ∈ cs, 255 < c)
theorem CodA.cod {cs : List Int32} {cd N2 : Int32} {vs : List Value} {V : Cell} (h : CodA cs cd N2 vs) (hn : 2 * cs.length < 2 ^ 31) (hs : V.slots.size = N2.toNatClampNeg) (hv : RoadKit.Has V vs (.int 0)) : Cod cd cs.length (fun j => cs.getD j 0) V := by
  rcases h with ⟨rfl, rfl, rfl, h⟩ | ⟨rfl, rfl, rfl, c, hc, hw⟩
  · rw [n32 (by omega)] at hs
    exact Or.inl ⟨rfl, hs, fun j hj => ⟨by rw [hv j (by omega), low_at _ _ _ hj], by
      have e : cs.getD j 0 = cs[j] := by simp [List.getD_eq_getElem?_getD, hj]
      show ¬ 255 < cs.getD j 0
      rw [e]; exact h _ (List.getElem_mem _)⟩⟩
  · rw [n32 (by omega)] at hs
    obtain ⟨j, hj, rfl⟩ := List.getElem_of_mem hc
    exact Or.inr ⟨rfl, hs, fun j hj => ⟨by rw [hv _ (by omega), wide_lo _ _ _ hj], by rw [hv _ (by omega), wide_hi _ _ _ hj]⟩, j, hj, by
      have e : cs.getD j 0 = cs[j] := by simp [List.getD_eq_getElem?_getD, hj]
      show 255 < cs.getD j 0
      rw [e]; exact hw⟩
/-- an object of exactly java/lang/String, its two fields found: as the laws ask it -/
theorem strObj {Z U : State} {a0 : Array Value} {kI : Nat} (wi : (Jvm.Cond.instantiable ST kI).before a0 Z = true) (al : Z.vm.Alike U.vm) {x : Addr} {v0 c0 : Value} (E : RoadKit.Exa Z U.heap x ST) (V : RoadKit.Fld Z U.heap x ST "value" "[B" v0) (C : RoadKit.Fld Z U.heap x ST "coder" "B" c0) :
    ∃ (D : Cell) (fV fC : Field), Blank ST x D U ∧ Found ST "value" "[B" fV U ∧ Found ST "coder" "B" fC U ∧ D.slots[fV.slot]? = some v0 ∧ D.slots[fC.slot]? = some c0 ∧ RoadKit.slotOf Z ST "value" "[B" = fV.slot ∧ RoadKit.slotOf Z ST "coder" "B" = fC.slot := by
  obtain ⟨D, cfV, kV, iV, fV, hD, gV, stV, knV, obV, asV, slV⟩ := V
  obtain ⟨D', cfC, kC, iC, fC, hD', gC, stC, -, -, asC, slC⟩ := C
  cases hD.symm.trans hD'
  obtain ⟨D2, kD, e1, e2, e3, e4, e5⟩ := E
  cases hD.symm.trans e1
  obtain ⟨c2, k2, i1, i2, i3, -⟩ := Cond.instantiable_spec wi
  cases e2.symm.trans i1
  cases e3.symm.trans i2
  obtain ⟨kU, u1, u2⟩ := al.2.2 _ _ e3
  exact ⟨D, fV, fC, ⟨hD, ⟨knV, fun q hq => by rw [hq] at obV; cases obV⟩, by rw [al.findClass]; exact e2, kU, u1, by rw [u2]; exact i3, by rw [u2]; exact e5 i3⟩, ⟨SBG.found_only al ⟨cfV, kV, iV, gV⟩, stV⟩, ⟨SBG.found_only al ⟨cfC, kC, iC, gC⟩, stC⟩, slV, slC, by simp [RoadKit.slotOf, gV], by simp [RoadKit.slotOf, gC]⟩
theorem sta_is {Z U : State} (al : Z.vm.Alike U.vm) {C n d : String} {v : Value} (S : RoadKit.Sta Z U.heap C n d v) : StaticIs U C n d v := by
  obtain ⟨cfS, iS, kS, fS, st, cS, t1, t2, t3, t4, t5, t6, t7⟩ := S
  exact StaticIs.there (s := { Z with heap := U.heap }) ⟨cfS, iS, kS, fS, st, cS, t1, t2, t3, t4, t5, (fun q => by rw [q] at t6; cases t6), t7⟩ al rfl
end StrChars.Road
namespace StrChars
open Jvm Sem ClassFile Op Lib Jvm.Stand Jvm.Free.XT Jvm.Free.ALB Jvm.Free.JM Jvm.Free
open Jvm.Lib.Cold (StaticIs)
/-- what place i of a byte[]'s cell holds -/
def yv (A : Cell) (i : Nat) : Int32 := match A.slots[i]? with | some (.int x) => x | _ => 0
theorem yv_get {a : Addr} {A : Cell} {U : State} (h : XT.Arr .byte a A U) (ht : Typed .byte A) {i : Nat} (hi : i < A.slots.size) : A.slots[i]? = some (.int (yv A i)) := by
  have e := Array.getElem?_eq_getElem hi
  have f := ht i _ e
  unfold yv; rw [e]
  generalize A.slots[i] = v at f
  cases v <;> simp [fits] at f ⊢
/-- the two arrays are equal, place for place -/
def EqC (A B : Cell) : Prop := A.slots.size = B.slots.size ∧ ∀ i, i < A.slots.size → yv A i = yv B i
/-- a boolean that says whether p -/
def Says01 (q : Prop) (r : Option Value) (s u : State) : Prop := ∃ v : Int32, r = some (.int v) ∧ u.heap = s.heap ∧ ((v = 1 ∧ q) ∨ (v = 0 ∧ ¬ q))
theorem Says01.mv {q : Prop} : ∀ r (U U' V V' : State), U'.heap = U.heap → V.vm.Alike V'.vm → V'.heap = V.heap → Says01 q r U V → Says01 q r U' V' :=
  fun r U U' V V' h1 _ h2 ⟨v, a, b, c⟩ => ⟨v, a, by rw [h1, h2]; exact b, c⟩
namespace LEq
def yN : MethodName := ⟨"java/lang/StringLatin1", "equals", "([B[B)Z"⟩
abbrev yB : ByteArray := jdk_43_method_13_code
theorem d0 : decode yB 0 = .ok (.aload_n 0, 1) := by decide +kernel
theorem d1 : decode yB 1 = .ok (.arraylength, 1) := by decide +kernel
theorem d2 : decode yB 2 = .ok (.aload_n 1, 1) := by decide +kernel
theorem d3 : decode yB 3 = .ok (.arraylength, 1) := by decide +kernel
theorem d4 : decode yB 4 = .ok (.if_icmp (.ne) 30, 3) := by decide +kernel
theorem d7 : decode yB 7 = .ok (.iconst 0, 1) := by decide +kernel
theorem d8 : decode yB 8 = .ok (.istore_n 2, 1) := by decide +kernel
theorem d9 : decode yB 9 = .ok (.iload_n 2, 1) := by decide +kernel
theorem d10 : decode yB 10 = .ok (.aload_n 0, 1) := by decide +kernel
theorem d11 : decode yB 11 = .ok (.arraylength, 1) := by decide +kernel
theorem d12 : decode yB 12 = .ok (.if_icmp (.ge) 20, 3) := by decide +kernel
theorem d15 : decode yB 15 = .ok (.aload_n 0, 1) := by decide +kernel
theorem d16 : decode yB 16 = .ok (.iload_n 2, 1) := by decide +kernel
theorem d17 : decode yB 17 = .ok (.baload, 1) := by decide +kernel
theorem d18 : decode yB 18 = .ok (.aload_n 1, 1) := by decide +kernel
theorem d19 : decode yB 19 = .ok (.iload_n 2, 1) := by decide +kernel
theorem d20 : decode yB 20 = .ok (.baload, 1) := by decide +kernel
theorem d21 : decode yB 21 = .ok (.if_icmp (.eq) 5, 3) := by decide +kernel
theorem d24 : decode yB 24 = .ok (.iconst 0, 1) := by decide +kernel
theorem d25 : decode yB 25 = .ok (.ireturn, 1) := by decide +kernel
theorem d26 : decode yB 26 = .ok (.iinc 2 1, 3) := by decide +kernel
theorem d29 : decode yB 29 = .ok (.goto (-20), 3) := by decide +kernel
theorem d32 : decode yB 32 = .ok (.iconst 1, 1) := by decide +kernel
theorem d33 : decode yB 33 = .ok (.ireturn, 1) := by decide +kernel
theorem d34 : decode yB 34 = .ok (.iconst 0, 1) := by decide +kernel
theorem d35 : decode yB 35 = .ok (.ireturn, 1) := by decide +kernel
def site : List Cond := []
def tab : Cond := tabOf yN yB 3 (some .boolean) site
def P (a : Addr) (A : Cell) (b : Addr) (B : Cell) (args : Array Value) (s : State) : Prop := args = #[.ref a, .ref b] ∧ XT.Arr .byte a A s ∧ Typed .byte A ∧ XT.Arr .byte b B s ∧ Typed .byte B
/-- whether two byte[] are equal, place for place -/
theorem law (l : Launch) (a : Addr) (A : Cell) (b : Addr) (B : Cell) : Law l yN 2 2 0 0 yB 3 (some .boolean) site (P a A b B) (Says01 (EqC A B)) [] 0 0 := by
  refine Law.of_walk (plainFor_of_name (by decide +kernel)) (by decide +kernel) (by decide +kernel) (by decide) (fun _ _ h => by rw [h.1]; rfl) (fun _ U U' hal hh h => ⟨h.1, h.2.1.mv hal hh, h.2.2.1, h.2.2.2.1.mv hal hh, h.2.2.2.2⟩) (fun r U U' V V' h1 hal h2 h => Says01.mv r U U' V V' h1 hal h2 h) ?_
  intro p e s m args below meth c s₁ X0 hexec hbytes hml hret hlk hnm hown hh0 W hP
  obtain ⟨rfl, hA, tA, hB, tB⟩ := hP
  have a31 := hA.2.2.2
  have b31 := hB.2.2.2
  have hA0 := hA.mv X0.warmed.alike hh0
  have hB0 := hB.mv X0.warmed.alike hh0
  have c1 : Steps p.tables e below (s₁.setTop (entryFrame m #[.ref a, .ref b] 3)) (s₁.setTop (mkF m 0 #[.val (.ref a), .val (.ref b), .unset] [])) := entry rfl
  have c2 : Steps p.tables e below (s₁.setTop (entryFrame m #[.ref a, .ref b] 3)) (s₁.setTop (mkF m 4 #[.val (.ref a), .val (.ref b), .unset] [.int (Int32.ofNat B.slots.size), .int (Int32.ofNat A.slots.size)])) := c1.trans (by
    refine XS.aloadN X0.here hexec rfl (hb hbytes d0) rfl rfl ?_
    refine X0.alen hexec hA0 rfl rfl (hb hbytes d1) ?_
    refine XS.aloadN X0.here hexec rfl (hb hbytes d2) rfl rfl ?_
    refine X0.alen hexec hB0 rfl rfl (hb hbytes d3) ?_
    exact Steps.refl _)
  by_cases hs : A.slots.size = B.slots.size
  · have c3 : Steps p.tables e below (s₁.setTop (entryFrame m #[.ref a, .ref b] 3)) (s₁.setTop (mkF m 9 #[.val (.ref a), .val (.ref b), .val (.int 0)] [])) := c2.trans (by
      refine XS.icmpNo X0.here hexec rfl (hb hbytes d4) rfl (ii_ne_f (by rw [hs])) ?_
      refine iconstV X0.here hexec rfl 0 (hb hbytes d7) (by decide) ?_
      refine XS.istoreN X0.here hexec rfl (hb hbytes d8) rfl rfl ?_
      exact Steps.refl _)
    have loop : ∀ (r i : Nat), i + r = A.slots.size → (∀ j, j < i → yv A j = yv B j) → Steps p.tables e below (s₁.setTop (entryFrame m #[.ref a, .ref b] 3)) (s₁.setTop (mkF m 9 #[.val (.ref a), .val (.ref b), .val (.int (Int32.ofNat i))] [])) → ∃ (pc : Nat) (Ls : Array Slot) (v : Int32), (pc = 25 ∨ pc = 33) ∧ ((v = 1 ∧ EqC A B) ∨ (v = 0 ∧ ¬ EqC A B)) ∧ Steps p.tables e below (s₁.setTop (entryFrame m #[.ref a, .ref b] 3)) (s₁.setTop (mkF m pc Ls [.int v])) := by
      intro r
      induction r with
      | zero =>
        intro i hi he cl
        exact ⟨33, _, 1, Or.inr rfl, Or.inl ⟨rfl, hs, fun j hj => he j (by omega)⟩, cl.trans (by
          refine XS.iloadN X0.here hexec rfl (hb hbytes d9) rfl ?_
          refine XS.aloadN X0.here hexec rfl (hb hbytes d10) rfl rfl ?_
          refine X0.alen hexec hA0 rfl rfl (hb hbytes d11) ?_
          refine XS.icmpYes X0.here hexec rfl (pc0 := 12) rfl (hb hbytes d12) rfl (ii_ge_t (nlt32 (by omega) (by omega))) (by decide) rfl ?_
          refine iconstV X0.here hexec rfl 1 (hb hbytes d32) (by decide) ?_
          exact Steps.refl _)⟩
      | succ r ih =>
        intro i hi he cl
        have c4 : Steps p.tables e below (s₁.setTop (entryFrame m #[.ref a, .ref b] 3)) (s₁.setTop (mkF m 21 #[.val (.ref a), .val (.ref b), .val (.int (Int32.ofNat i))] [.int (yv B i), .int (yv A i)])) := cl.trans (by
          refine XS.iloadN X0.here hexec rfl (hb hbytes d9) rfl ?_
          refine XS.aloadN X0.here hexec rfl (hb hbytes d10) rfl rfl ?_
          refine X0.alen hexec hA0 rfl rfl (hb hbytes d11) ?_
          refine XS.icmpNo X0.here hexec rfl (hb hbytes d12) rfl (ii_ge_f (lt32 (by omega) (by omega))) ?_
          refine XS.aloadN X0.here hexec rfl (hb hbytes d15) rfl rfl ?_
          refine XS.iloadN X0.here hexec rfl (hb hbytes d16) rfl ?_
          refine X0.aget hexec hA0 rfl (yv_get hA tA (i := i) (by omega)) rfl rfl (hb hbytes d17) ?_
          refine XS.aloadN X0.here hexec rfl (hb hbytes d18) rfl rfl ?_
          refine XS.iloadN X0.here hexec rfl (hb hbytes d19) rfl ?_
          refine X0.aget hexec hB0 rfl (yv_get hB tB (i := i) (by omega)) rfl rfl (hb hbytes d20) ?_
          exact Steps.refl _)
        by_cases hv : yv A i = yv B i
        · have c5 : Steps p.tables e below (s₁.setTop (entryFrame m #[.ref a, .ref b] 3)) (s₁.setTop (mkF m 9 #[.val (.ref a), .val (.ref b), .val (.int (Int32.ofNat i + 1))] [])) := c4.trans (by
            refine XS.icmpYes X0.here hexec rfl (pc0 := 21) rfl (hb hbytes d21) rfl (ii_eq_t hv) (by decide) rfl ?_
            refine iincV X0.here hexec rfl 1 (hb hbytes d26) (by decide) rfl rfl ?_
            refine XS.goto X0.here hexec rfl (pc0 := 29) rfl (hb hbytes d29) (by decide) rfl ?_
            exact Steps.refl _)
          rw [succ32] at c5
          exact ih (i + 1) (by omega) (fun j hj => by
            by_cases e : j = i
            · rw [e]; exact hv
            · exact he j (by omega)) c5
        · exact ⟨25, _, 0, Or.inl rfl, Or.inr ⟨rfl, fun q => hv (q.2 i (by omega))⟩, c4.trans (by
            refine XS.icmpNo X0.here hexec rfl (hb hbytes d21) rfl (ii_eq_f hv) ?_
            refine iconstV X0.here hexec rfl 0 (hb hbytes d24) (by decide) ?_
            exact Steps.refl _)⟩
    obtain ⟨pc, Ls, v, hpc, hv, cz⟩ := loop A.slots.size 0 (by omega) (fun j hj => absurd hj (Nat.not_lt_zero j)) c3
    have nv : narrow .boolean (.int v) = .int v := by rcases hv with ⟨rfl, -⟩ | ⟨rfl, -⟩ <;> rfl
    rcases hpc with rfl | rfl
    · exact ⟨s₁, some (.int v), _, _, _, X0, rfl, rfl, rfl, (fun h => by cases h), ⟨v, rfl, hh0, hv⟩, fun fs hl => cz.trans (X0.ireturnOut hexec hret nv (Or.inr (Or.inl rfl)) (hb hbytes d25) hl)⟩
    · exact ⟨s₁, some (.int v), _, _, _, X0, rfl, rfl, rfl, (fun h => by cases h), ⟨v, rfl, hh0, hv⟩, fun fs hl => cz.trans (X0.ireturnOut hexec hret nv (Or.inr (Or.inl rfl)) (hb hbytes d33) hl)⟩
  · have c3 : Steps p.tables e below (s₁.setTop (entryFrame m #[.ref a, .ref b] 3)) (s₁.setTop (mkF m 35 #[.val (.ref a), .val (.ref b), .unset] [.int 0])) := c2.trans (by
      refine XS.icmpYes X0.here hexec rfl (pc0 := 4) rfl (hb hbytes d4) rfl (ii_ne_t (ne32 a31 b31 hs)) (by decide) rfl ?_
      refine iconstV X0.here hexec rfl 0 (hb hbytes d34) (by decide) ?_
      exact Steps.refl _)
    exact ⟨s₁, some (.int 0), _, _, _, X0, rfl, rfl, rfl, (fun h => by cases h), ⟨0, rfl, hh0, Or.inr ⟨rfl, fun q => hs q.1⟩⟩, fun fs hl => c3.trans (X0.ireturnOut hexec hret rfl (Or.inr (Or.inl rfl)) (hb hbytes d35) hl)⟩
end LEq
theorem Cod.ty {cd : Int32} {n : Nat} {f : Nat → Int32} {V : Cell} (h : Cod cd n f V) : Typed .byte V := fun i v hv => by
  have hi : i < V.slots.size := (Array.getElem?_eq_some_iff.mp hv).1
  rcases h with ⟨-, k1, k2⟩ | ⟨-, k1, k2, -⟩
  · rw [(k2 i (by omega)).1] at hv; cases hv; exact fits_lo8 _
  · rcases Nat.mod_two_eq_zero_or_one i with e | e
    · obtain ⟨j, rfl⟩ : ∃ j, i = 2 * j := ⟨i / 2, by omega⟩
      rw [(k2 j (by omega)).1] at hv; cases hv; exact fits_lo8 _
    · obtain ⟨j, rfl⟩ : ∃ j, i = 2 * j + 1 := ⟨i / 2, by omega⟩
      rw [(k2 j (by omega)).2] at hv; cases hv; exact fits_lo8 _
/-- the same text -/
def SameT (n : Nat) (f : Nat → Int32) (k : Nat) (g : Nat → Int32) : Prop := n = k ∧ ∀ j, j < n → f j = g j
theorem lo8_inj {x y : Int32} (h0 : ¬ x < 0) (h1 : ¬ 255 < x) (k0 : ¬ y < 0) (k1 : ¬ 255 < y) (h : lo8 x = lo8 y) : x = y := by
  rw [← lo8_mask h0 h1, ← lo8_mask k0 k1, h]
/-- arrays coded by one coder are equal just where the texts are -/
theorem Cod.eqv {cd : Int32} {n k : Nat} {f g : Nat → Int32} {V V' : Cell} (h : Cod cd n f V) (h' : Cod cd k g V') (hf : ∀ j, j < n → ¬ f j < 0 ∧ ¬ 65535 < f j) (hg : ∀ j, j < k → ¬ g j < 0 ∧ ¬ 65535 < g j) : EqC V V' ↔ SameT n f k g := by
  have yvv : ∀ {W : Cell} {i : Nat} {x : Int32}, W.slots[i]? = some (.int x) → yv W i = x := fun q => by unfold yv; rw [q]
  rcases h with ⟨rfl, k1, k2⟩ | ⟨rfl, k1, k2, -⟩
  · rcases h' with ⟨-, m1, m2⟩ | ⟨e, -⟩
    · constructor
      · rintro ⟨e1, e2⟩
        refine ⟨by omega, fun j hj => ?_⟩
        have q := e2 j (by omega)
        rw [yvv (k2 j hj).1, yvv (m2 j (by omega)).1] at q
        exact lo8_inj (hf j hj).1 (k2 j hj).2 (hg j (by omega)).1 (m2 j (by omega)).2 q
      · rintro ⟨rfl, e2⟩
        refine ⟨by omega, fun j hj => ?_⟩
        rw [yvv (k2 j (by omega)).1, yvv (m2 j (by omega)).1, e2 j (by omega)]
    · exact absurd e (by decide)
  · rcases h' with ⟨e, -⟩ | ⟨-, m1, m2, -⟩
    · exact absurd e (by decide)
    · constructor
      · rintro ⟨e1, e2⟩
        refine ⟨by omega, fun j hj => ?_⟩
        have q1 := e2 (2 * j) (by omega)
        have q2 := e2 (2 * j + 1) (by omega)
        rw [yvv (k2 j hj).1, yvv (m2 j (by omega)).1] at q1
        rw [yvv (k2 j hj).2, yvv (m2 j (by omega)).2] at q2
        rw [← pair_says (hf j hj).1 (hf j hj).2, ← pair_says (hg j (by omega)).1 (hg j (by omega)).2, q1, q2]
      · rintro ⟨rfl, e2⟩
        refine ⟨by omega, fun i hi => ?_⟩
        rcases Nat.mod_two_eq_zero_or_one i with e | e
        · obtain ⟨j, rfl⟩ : ∃ j, i = 2 * j := ⟨i / 2, by omega⟩
          rw [yvv (k2 j (by omega)).1, yvv (m2 j (by omega)).1, e2 j (by omega)]
        · obtain ⟨j, rfl⟩ : ∃ j, i = 2 * j + 1 := ⟨i / 2, by omega⟩
          rw [yvv (k2 j (by omega)).2, yvv (m2 j (by omega)).2, e2 j (by omega)]
/-- two codings differ: so do the texts -/
theorem Cod.dif {cd cd' : Int32} {n k : Nat} {f g : Nat → Int32} {V V' : Cell} (h : Cod cd n f V) (h' : Cod cd' k g V') (hne : ¬ cd = cd') : ¬ SameT n f k g := by
  rintro ⟨rfl, e⟩
  rcases h with ⟨rfl, -, k2⟩ | ⟨rfl, -, -, j, hj, hw⟩
  · rcases h' with ⟨rfl, -⟩ | ⟨-, -, -, j, hj, hw⟩
    · exact hne rfl
    · exact (k2 j hj).2 (by rw [e j hj]; exact hw)
  · rcases h' with ⟨-, -, m2⟩ | ⟨rfl, -⟩
    · exact (m2 j hj).2 (by rw [← e j hj]; exact hw)
    · exact hne rfl
/-- an object of exactly C is an instance of C -/
theorem cinst {p : Program} {l : Launch} {e : Env} {R : Room} {s : State} {m : MethodId} {args : Array Value} {below : List Frame} {meth : Method} {c : Code} {T : State} {locs : List Loc} {cells slots : Nat} (X : Stand p l e R s m args below meth c T locs cells slots) (hexec : p.tables.exec = Jvm.exec) {own C : String} {index : Nat} (hown : s.vm.findClass own = some m.cls) (hlink : (Cond.classLink own index C).before args s = true) {a : Addr} (hE : Exact C a T)
    {g : JFrame} (hg : g.method = m) {rest : List Value} (hstack : g.stack = .ref a :: rest) (hdg : decode c.code g.pc = .ok (.instanceof index, 3)) :
    ∃ T', Stand p l e R s m args below meth c T' locs cells slots ∧ T'.heap = T.heap ∧ ∀ target, Steps p.tables e below (T'.setTop { g with pc := g.pc + 3, stack := .int 1 :: rest }) target → Steps p.tables e below (T.setTop g) target := by
  obtain ⟨cB, h1, D, h2, h3, h4⟩ := hE
  have h1' : s.vm.findClass C = some cB := by rw [← X.warmed.alike.findClass]; exact h1
  obtain ⟨vm', X', st⟩ := X.instanceofYes hexec hown hlink h2 h4 h1' (by rw [h3]; exact Jvm.Free.SB.assignable_self _ _) hg hstack hdg
  exact ⟨_, X', rfl, st⟩
theorem cself {p : Program} {l : Launch} {e : Env} {R : Room} {s : State} {m : MethodId} {args : Array Value} {below : List Frame} {meth : Method} {c : Code} {T : State} {locs : List Loc} {cells slots : Nat} (X : Stand p l e R s m args below meth c T locs cells slots) (hexec : p.tables.exec = Jvm.exec) {own C : String} {index : Nat} (hown : s.vm.findClass own = some m.cls) (hlink : (Cond.classLink own index C).before args s = true) {a : Addr} (hE : Exact C a T)
    {g : JFrame} (hg : g.method = m) {rest : List Value} (hstack : g.stack = .ref a :: rest) (hdg : decode c.code g.pc = .ok (.checkcast index, 3)) :
    ∃ T', Stand p l e R s m args below meth c T' locs cells slots ∧ T'.heap = T.heap ∧ ∀ target, Steps p.tables e below (T'.setTop { g with pc := g.pc + 3, stack := .ref a :: rest }) target → Steps p.tables e below (T.setTop g) target := by
  obtain ⟨cB, h1, D, h2, h3, h4⟩ := hE
  have h1' : s.vm.findClass C = some cB := by rw [← X.warmed.alike.findClass]; exact h1
  obtain ⟨vm', X', st⟩ := X.checkcastYes hexec hown hlink h2 h4 h1' (by rw [h3]; exact Jvm.Free.SB.assignable_self _ _) hg hstack hdg
  exact ⟨_, X', rfl, fun t h => st t (by rw [← hstack] at h; exact h)⟩
namespace SEq
def yN : MethodName := ⟨"java/lang/String", "equals", "(Ljava/lang/Object;)Z"⟩
abbrev yB : ByteArray := jdk_42_method_66_code
theorem d0 : decode yB 0 = .ok (.aload_n 0, 1) := by decide +kernel
theorem d1 : decode yB 1 = .ok (.aload_n 1, 1) := by decide +kernel
theorem d2 : decode yB 2 = .ok (.if_acmp (.ne) 5, 3) := by decide +kernel
theorem d5 : decode yB 5 = .ok (.iconst 1, 1) := by decide +kernel
theorem d6 : decode yB 6 = .ok (.ireturn, 1) := by decide +kernel
theorem d7 : decode yB 7 = .ok (.aload_n 1, 1) := by decide +kernel
theorem d8 : decode yB 8 = .ok (.instanceof 10, 3) := by decide +kernel
theorem d11 : decode yB 11 = .ok (.ifCond (.eq) 43, 3) := by decide +kernel
theorem d14 : decode yB 14 = .ok (.aload_n 1, 1) := by decide +kernel
theorem d15 : decode yB 15 = .ok (.checkcast 10, 3) := by decide +kernel
theorem d18 : decode yB 18 = .ok (.astore_n 2, 1) := by decide +kernel
theorem d19 : decode yB 19 = .ok (.getstatic 38, 3) := by decide +kernel
theorem d22 : decode yB 22 = .ok (.ifCond (.eq) 14, 3) := by decide +kernel
theorem d25 : decode yB 25 = .ok (.aload_n 0, 1) := by decide +kernel
theorem d26 : decode yB 26 = .ok (.getfield 15, 3) := by decide +kernel
theorem d29 : decode yB 29 = .ok (.aload_n 2, 1) := by decide +kernel
theorem d30 : decode yB 30 = .ok (.getfield 15, 3) := by decide +kernel
theorem d33 : decode yB 33 = .ok (.if_icmp (.ne) 21, 3) := by decide +kernel
theorem d36 : decode yB 36 = .ok (.aload_n 0, 1) := by decide +kernel
theorem d37 : decode yB 37 = .ok (.getfield 9, 3) := by decide +kernel
theorem d40 : decode yB 40 = .ok (.aload_n 2, 1) := by decide +kernel
theorem d41 : decode yB 41 = .ok (.getfield 9, 3) := by decide +kernel
theorem d44 : decode yB 44 = .ok (.invokestatic 541, 3) := by decide +kernel
theorem d47 : decode yB 47 = .ok (.ifCond (.eq) 7, 3) := by decide +kernel
theorem d50 : decode yB 50 = .ok (.iconst 1, 1) := by decide +kernel
theorem d51 : decode yB 51 = .ok (.goto 4, 3) := by decide +kernel
theorem d54 : decode yB 54 = .ok (.iconst 0, 1) := by decide +kernel
theorem d55 : decode yB 55 = .ok (.ireturn, 1) := by decide +kernel
def site : List Cond := [.classLink "java/lang/String" 10 "java/lang/String", .fieldLink "java/lang/String" 38 "java/lang/String" "COMPACT_STRINGS" "Z", .fieldLink "java/lang/String" 15 "java/lang/String" "coder" "B", .fieldLink "java/lang/String" 9 "java/lang/String" "value" "[B", LEq.tab] ++ staticW "java/lang/String" 541 LEq.yN
def tab : Cond := tabOf yN yB 3 (some .boolean) site
def P (x t : Addr) (V : Cell) (cd : Int32) (n : Nat) (f : Nat → Int32) (y t' : Addr) (V' : Cell) (cd' : Int32) (k : Nat) (g : Nat → Int32) (z : Int32) (args : Array Value) (s : State) : Prop := args = #[.ref x, .ref y] ∧ Txt x t V cd n f s ∧ Txt y t' V' cd' k g s ∧ StaticIs s "java/lang/String" "COMPACT_STRINGS" "Z" (.int z) ∧ ¬ z = 0
/-- equals(Object) of two Strings: whether the texts are the same -/
theorem law (l : Launch) (x t : Addr) (V : Cell) (cd : Int32) (n : Nat) (f : Nat → Int32) (y t' : Addr) (V' : Cell) (cd' : Int32) (k : Nat) (g : Nat → Int32) (z : Int32) : Law l yN 2 1 1 14 yB 3 (some .boolean) site (P x t V cd n f y t' V' cd' k g z) (Says01 (SameT n f k g)) [] 0 0 := by
  refine Law.of_walk (plainFor_of_name (by decide +kernel)) (by decide +kernel) (by decide +kernel) (by decide) (fun _ _ h => by rw [h.1]; rfl) (fun _ U U' hal hh h => ⟨h.1, h.2.1.mv hal hh, h.2.2.1.mv hal hh, h.2.2.2.1.there hal hh, h.2.2.2.2⟩) (fun r U U' V V' h1 hal h2 h => Says01.mv r U U' V V' h1 hal h2 h) ?_
  intro p e s m args below meth c s₁ X0 hexec hbytes hml hret hlk hnm hown hh0 W hP
  obtain ⟨rfl, hx, hy, s1, hz⟩ := hP
  have c1 : Steps p.tables e below (s₁.setTop (entryFrame m #[.ref x, .ref y] 3)) (s₁.setTop (mkF m 2 #[.val (.ref x), .val (.ref y), .unset] [.ref y, .ref x])) := Steps.trans (entry rfl) (by
    show Steps p.tables e below (s₁.setTop (mkF m 0 #[.val (.ref x), .val (.ref y), .unset] [])) _
    refine XS.aloadN X0.here hexec rfl (hb hbytes d0) rfl rfl ?_
    refine XS.aloadN X0.here hexec rfl (hb hbytes d1) rfl rfl ?_
    exact Steps.refl _)
  by_cases hxy : x = y
  · have c2 : Steps p.tables e below (s₁.setTop (entryFrame m #[.ref x, .ref y] 3)) (s₁.setTop (mkF m 6 #[.val (.ref x), .val (.ref y), .unset] [.int 1])) := c1.trans (by
      refine acmpNo X0.here hexec rfl (hb hbytes d2) rfl rfl rfl (by simp [acmp, hxy]) ?_
      refine iconstV X0.here hexec rfl 1 (hb hbytes d5) (by decide) ?_
      exact Steps.refl _)
    subst hxy
    have ec : cd = cd' := by
      obtain ⟨D, fd, a1, a2, a3⟩ := hx.2.2.1
      obtain ⟨D', fd', b1, b2, b3⟩ := hy.2.2.1
      cases a1.symm.trans b1
      obtain ⟨q1, q2, q3, q4⟩ := a2.1
      obtain ⟨r1, r2, r3, r4⟩ := b2.1
      cases q4.symm.trans r4
      cases a3.symm.trans b3; rfl
    have et : t = t' := by
      obtain ⟨D, fd, a1, a2, a3⟩ := hx.2.1
      obtain ⟨D', fd', b1, b2, b3⟩ := hy.2.1
      cases a1.symm.trans b1
      obtain ⟨q1, q2, q3, q4⟩ := a2.1
      obtain ⟨r1, r2, r3, r4⟩ := b2.1
      cases q4.symm.trans r4
      cases a3.symm.trans b3; rfl
    subst ec et
    have ev : V = V' := by cases hx.2.2.2.1.1.symm.trans hy.2.2.2.1.1; rfl
    subst ev
    have hs : SameT n f k g := (Cod.eqv hx.2.2.2.2.1 hy.2.2.2.2.1 hx.2.2.2.2.2 hy.2.2.2.2.2).mp ⟨rfl, fun _ _ => rfl⟩
    exact ⟨s₁, some (.int 1), _, _, _, X0, rfl, rfl, rfl, (fun h => by cases h), ⟨1, rfl, hh0, Or.inl ⟨rfl, hs⟩⟩, fun fs hl => c2.trans (X0.ireturnOut hexec hret rfl (Or.inr (Or.inl rfl)) (hb hbytes d6) hl)⟩
  · have c2 : Steps p.tables e below (s₁.setTop (entryFrame m #[.ref x, .ref y] 3)) (s₁.setTop (mkF m 8 #[.val (.ref x), .val (.ref y), .unset] [.ref y])) := c1.trans (by
      refine acmpYes X0.here hexec rfl (pc0 := 2) rfl (hb hbytes d2) rfl rfl rfl (by simp [acmp, hxy]) (by decide) rfl ?_
      refine XS.aloadN X0.here hexec rfl (hb hbytes d7) rfl rfl ?_
      exact Steps.refl _)
    obtain ⟨T3, X3, q3, st3⟩ := cinst X0 hexec hown (wk W (.classLink "java/lang/String" 10 "java/lang/String")) (hy.mv X0.warmed.alike hh0).1 (g := (mkF m 8 #[.val (.ref x), .val (.ref y), .unset] [.ref y])) rfl (rest := []) rfl (hb hbytes d8)
    have hh3 := q3.trans hh0
    have c4 : Steps p.tables e below (s₁.setTop (entryFrame m #[.ref x, .ref y] 3)) (T3.setTop (mkF m 15 #[.val (.ref x), .val (.ref y), .unset] [.ref y])) := (c2.trans (st3 _ (Steps.refl _))).trans (by
      refine XS.ifNo X3.here hexec rfl (hb hbytes d11) rfl (i0_eq_f (by decide)) ?_
      refine XS.aloadN X3.here hexec rfl (hb hbytes d14) rfl rfl ?_
      exact Steps.refl _)
    obtain ⟨T5, X5, q5, st5⟩ := cself X3 hexec hown (wk W (.classLink "java/lang/String" 10 "java/lang/String")) (hy.mv X3.warmed.alike hh3).1 (g := (mkF m 15 #[.val (.ref x), .val (.ref y), .unset] [.ref y])) rfl (rest := []) rfl (hb hbytes d15)
    have hh5 := q5.trans hh3
    have c6 : Steps p.tables e below (s₁.setTop (entryFrame m #[.ref x, .ref y] 3)) (T5.setTop (mkF m 19 #[.val (.ref x), .val (.ref y), .val (.ref y)] [])) := (c4.trans (st5 _ (Steps.refl _))).trans (by
      refine XS.astoreN X5.here hexec rfl (hb hbytes d18) rfl rfl rfl ?_
      exact Steps.refl _)
    obtain ⟨T7, X7, q7, st7⟩ := X5.sget hexec hown (wk W (.fieldLink "java/lang/String" 38 "java/lang/String" "COMPACT_STRINGS" "Z")) s1 (fun _ _ h => by rw [hh5]; exact h) (g := (mkF m 19 #[.val (.ref x), .val (.ref y), .val (.ref y)] [])) rfl (hb hbytes d19)
    have hh7 := q7.trans hh5
    have c8 : Steps p.tables e below (s₁.setTop (entryFrame m #[.ref x, .ref y] 3)) (T7.setTop (mkF m 26 #[.val (.ref x), .val (.ref y), .val (.ref y)] [.ref x])) := (c6.trans (st7 _ (Steps.refl _))).trans (by
      refine XS.ifNo X7.here hexec rfl (hb hbytes d22) rfl (i0_eq_f hz) ?_
      refine XS.aloadN X7.here hexec rfl (hb hbytes d25) rfl rfl ?_
      exact Steps.refl _)
    obtain ⟨T9, X9, q9, st9⟩ := X7.hget hexec hown (wk W (.fieldLink "java/lang/String" 15 "java/lang/String" "coder" "B")) (hx.mv X7.warmed.alike hh7).2.2.1 (g := (mkF m 26 #[.val (.ref x), .val (.ref y), .val (.ref y)] [.ref x])) rfl (rest := []) rfl (hb hbytes d26)
    have hh9 := q9.trans hh7
    have c10 : Steps p.tables e below (s₁.setTop (entryFrame m #[.ref x, .ref y] 3)) (T9.setTop (mkF m 30 #[.val (.ref x), .val (.ref y), .val (.ref y)] [.ref y, .int cd])) := (c8.trans (st9 _ (Steps.refl _))).trans (by
      refine XS.aloadN X9.here hexec rfl (hb hbytes d29) rfl rfl ?_
      exact Steps.refl _)
    obtain ⟨T11, X11, q11, st11⟩ := X9.hget hexec hown (wk W (.fieldLink "java/lang/String" 15 "java/lang/String" "coder" "B")) (hy.mv X9.warmed.alike hh9).2.2.1 (g := (mkF m 30 #[.val (.ref x), .val (.ref y), .val (.ref y)] [.ref y, .int cd])) rfl (rest := [.int cd]) rfl (hb hbytes d30)
    have hh11 := q11.trans hh9
    have c12 : Steps p.tables e below (s₁.setTop (entryFrame m #[.ref x, .ref y] 3)) (T11.setTop (mkF m 33 #[.val (.ref x), .val (.ref y), .val (.ref y)] [.int cd', .int cd])) := c10.trans (st11 _ (Steps.refl _))
    by_cases hcd : cd = cd'
    · subst hcd
      have c13 : Steps p.tables e below (s₁.setTop (entryFrame m #[.ref x, .ref y] 3)) (T11.setTop (mkF m 37 #[.val (.ref x), .val (.ref y), .val (.ref y)] [.ref x])) := c12.trans (by
        refine XS.icmpNo X11.here hexec rfl (hb hbytes d33) rfl (ii_ne_f rfl) ?_
        refine XS.aloadN X11.here hexec rfl (hb hbytes d36) rfl rfl ?_
        exact Steps.refl _)
      obtain ⟨T14, X14, q14, st14⟩ := X11.hget hexec hown (wk W (.fieldLink "java/lang/String" 9 "java/lang/String" "value" "[B")) (hx.mv X11.warmed.alike hh11).2.1 (g := (mkF m 37 #[.val (.ref x), .val (.ref y), .val (.ref y)] [.ref x])) rfl (rest := []) rfl (hb hbytes d37)
      have hh14 := q14.trans hh11
      have c15 : Steps p.tables e below (s₁.setTop (entryFrame m #[.ref x, .ref y] 3)) (T14.setTop (mkF m 41 #[.val (.ref x), .val (.ref y), .val (.ref y)] [.ref y, .ref t])) := (c13.trans (st14 _ (Steps.refl _))).trans (by
        refine XS.aloadN X14.here hexec rfl (hb hbytes d40) rfl rfl ?_
        exact Steps.refl _)
      obtain ⟨T16, X16, q16, st16⟩ := X14.hget hexec hown (wk W (.fieldLink "java/lang/String" 9 "java/lang/String" "value" "[B")) (hy.mv X14.warmed.alike hh14).2.1 (g := (mkF m 41 #[.val (.ref x), .val (.ref y), .val (.ref y)] [.ref y, .ref t])) rfl (rest := [.ref t]) rfl (hb hbytes d41)
      have hh16 := q16.trans hh14
      have c17 : Steps p.tables e below (s₁.setTop (entryFrame m #[.ref x, .ref y] 3)) (T16.setTop (mkF m 44 #[.val (.ref x), .val (.ref y), .val (.ref y)] [.ref t', .ref t])) := c15.trans (st16 _ (Steps.refl _))
      obtain ⟨v18, T18, X18, E18, g18⟩ := X16.callS hexec (LEq.law l t V t' V') hown (wks W (staticW "java/lang/String" 541 LEq.yN)) (wk W LEq.tab) (W := 0) (Nat.le_of_ble_eq_true rfl) (Nat.le_of_ble_eq_true rfl) (Nat.le_refl _) (Nat.le_refl _) (g := (mkF m 44 #[.val (.ref x), .val (.ref y), .val (.ref y)] [.ref t', .ref t])) rfl (by rw [hml]; rfl) c17 (argsL := [.ref t, .ref t']) (rest := []) rfl rfl (by show 2 * 0 + 0 ≤ _; decide) (hb hbytes d44) (⟨rfl, hx.2.2.2.1.mv X16.warmed.alike hh16, hx.2.2.2.2.1.ty, hy.2.2.2.1.mv X16.warmed.alike hh16, hy.2.2.2.2.1.ty⟩)
      obtain ⟨v, rfl, q18, hv⟩ := E18
      have iff := Cod.eqv hx.2.2.2.2.1 hy.2.2.2.2.1 hx.2.2.2.2.2 hy.2.2.2.2.2
      rcases hv with ⟨rfl, he⟩ | ⟨rfl, he⟩
      · have c19 : Steps p.tables e below (s₁.setTop (entryFrame m #[.ref x, .ref y] 3)) (T18.setTop (mkF m 55 #[.val (.ref x), .val (.ref y), .val (.ref y)] [.int 1])) := Steps.trans g18 (by
          refine XS.ifNo X18.here hexec rfl (hb hbytes d47) rfl (i0_eq_f (by decide)) ?_
          refine iconstV X18.here hexec rfl 1 (hb hbytes d50) (by decide) ?_
          refine XS.goto X18.here hexec rfl (pc0 := 51) rfl (hb hbytes d51) (by decide) rfl ?_
          exact Steps.refl _)
        exact ⟨T18, some (.int 1), _, _, _, X18, rfl, rfl, rfl, (fun h => by cases h), ⟨1, rfl, q18.trans hh16, Or.inl ⟨rfl, iff.mp he⟩⟩, fun fs hl => c19.trans (X18.ireturnOut hexec hret rfl (Or.inr (Or.inl rfl)) (hb hbytes d55) hl)⟩
      · have c19 : Steps p.tables e below (s₁.setTop (entryFrame m #[.ref x, .ref y] 3)) (T18.setTop (mkF m 55 #[.val (.ref x), .val (.ref y), .val (.ref y)] [.int 0])) := Steps.trans g18 (by
          refine XS.ifYes X18.here hexec rfl (pc0 := 47) rfl (hb hbytes d47) rfl (i0_eq_t rfl) (by decide) rfl ?_
          refine iconstV X18.here hexec rfl 0 (hb hbytes d54) (by decide) ?_
          exact Steps.refl _)
        exact ⟨T18, some (.int 0), _, _, _, X18, rfl, rfl, rfl, (fun h => by cases h), ⟨0, rfl, q18.trans hh16, Or.inr ⟨rfl, fun q => he (iff.mpr q)⟩⟩, fun fs hl => c19.trans (X18.ireturnOut hexec hret rfl (Or.inr (Or.inl rfl)) (hb hbytes d55) hl)⟩
    · have c13 : Steps p.tables e below (s₁.setTop (entryFrame m #[.ref x, .ref y] 3)) (T11.setTop (mkF m 55 #[.val (.ref x), .val (.ref y), .val (.ref y)] [.int 0])) := c12.trans (by
        refine XS.icmpYes X11.here hexec rfl (pc0 := 33) rfl (hb hbytes d33) rfl (ii_ne_t hcd) (by decide) rfl ?_
        refine iconstV X11.here hexec rfl 0 (hb hbytes d54) (by decide) ?_
        exact Steps.refl _)
      exact ⟨T11, some (.int 0), _, _, _, X11, rfl, rfl, rfl, (fun h => by cases h), ⟨0, rfl, hh11, Or.inr ⟨rfl, Cod.dif hx.2.2.2.2.1 hy.2.2.2.2.1 hcd⟩⟩, fun fs hl => c13.trans (X11.ireturnOut hexec hret rfl (Or.inr (Or.inl rfl)) (hb hbytes d55) hl)⟩
theorem pays {l : Launch} {R : Room} {p : Program} {e : Env} {below : List Frame} {s : State} {sargs : Array Value} {len W : Nat} (x t : Addr) (V : Cell) (cd : Int32) (n : Nat) (f : Nat → Int32) (y t' : Addr) (V' : Cell) (cd' : Int32) (k : Nat) (g : Nat → Int32) (z : Int32) (htab : tab.before sargs s = true) (hfr : 2 ≤ R.frames) (hlo : W + 28 ≤ R.locals) :
    Back l R p e below s sargs yN len W (fun A₁ a₁ => A₁.cells + 0 ≤ R.cells ∧ A₁.slots + 0 ≤ R.slots ∧ P x t V cd n f y t' V' cd' k g z a₁ A₁.U) (fun A₁ _ v₁ B₁ => Says01 (SameT n f k g) v₁ A₁.U B₁.U ∧ B₁.locs = A₁.locs ++ [] ∧ B₁.cells = A₁.cells + 0 ∧ B₁.slots = A₁.slots + 0) :=
  (law l x t V cd n f y t' V' cd' k g z).pays htab hfr (by omega)
end SEq
end StrChars
namespace StrChars.Road
open Jvm Sem ClassFile Op Lib Jvm.Stand Jvm.Free Jvm.Free.XT
open Jvm.Lib.Cold (StaticIs)
/-- the words of String.equals(Object) -/
abbrev wordsEq : List Jvm.Cond := [.code SEq.yN SEq.yB 3 (some .boolean), .initialized ST, .classLink ST 10 ST, .fieldLink ST 38 ST "COMPACT_STRINGS" "Z", .fieldLink ST 15 ST "coder" "B", .fieldLink ST 9 ST "value" "[B", .methodLink ST 541 LEq.yN, .static LEq.yN, .code LEq.yN LEq.yB 3 (some .boolean), .initialized "java/lang/StringLatin1"]
theorem tabEq_of {a : Array Value} {s : State} (h : ∀ w ∈ wordsEq, w.before a s = true) : SEq.tab.before a s = true := by
  have hl : LEq.tab.before a s = true := unparts (wk h (.code LEq.yN LEq.yB 3 (some .boolean))) (wks h (.initialized LEq.yN.cls :: LEq.site))
  have q := consq hl h
  exact unparts (wk q (.code SEq.yN SEq.yB 3 (some .boolean))) (wks q (.initialized SEq.yN.cls :: SEq.site))
theorem movedEq {Z s : State} {a0 args : Array Value} (hZ : Z.Warmed39 s.vm) (hw : ∀ d ∈ wordsEq, d.before a0 Z = true) : ∀ d ∈ wordsEq, d.before args s = true := fun d hd => by
  have t : ∀ d ∈ wordsEq, (d.onTables && d.keepsFace) = true := by decide +kernel
  exact RoadKit.mv hZ (hw d hd) (t d hd)
/-- the road's facts of a String, as the laws ask it -/
theorem txt_of {Z U : State} {a0 : Array Value} {kI : Nat} (wi : (Jvm.Cond.instantiable ST kI).before a0 Z = true) (al : Z.vm.Alike U.vm) {x t : Addr} {kb : ClassId} {cs : List Int32} {cd N2 : Int32} {vs : List Value} (E : RoadKit.Exa Z U.heap x ST) (V : RoadKit.Fld Z U.heap x ST "value" "[B" (.ref t)) (C : RoadKit.Fld Z U.heap x ST "coder" "B" (.int cd)) (K : RoadKit.Arv Z U.heap t kb .byte N2 vs (.int 0)) (hc : CodA cs cd N2 vs) (hb : ∀ c ∈ cs, ¬ c < 0 ∧ ¬ (65535 : Int32) < c) (l2 : cs.length ≤ 4000) :
    ∃ A, Txt x t A cd cs.length (fun j => cs.getD j 0) U := by
  obtain ⟨A, K1, K2, K3, K4, K5, K6⟩ := K
  have hcod := hc.cod (by omega) K3 K5
  obtain ⟨D, fV, fC, hB, F1, F2, g1, g2, -, -⟩ := strObj wi al E V C
  exact ⟨A, ⟨_, hB.2.2.1, D, hB.1, rfl, by cases q : D.vm <;> first | rfl | exact absurd q (hB.2.1.2 _)⟩, Has.of hB F1 g1, Has.of hB F2 g2, ⟨K1.1, State.isArrayOf_alike al K1.2.1, K1.2.2, by rcases hcod with ⟨-, q, -⟩ | ⟨-, q, -⟩ <;> omega⟩, hcod, fun j hj => by
    have e : cs.getD j 0 = cs[j] := by simp [List.getD_eq_getElem?_getD, hj]
    show ¬ cs.getD j 0 < 0 ∧ ¬ 65535 < cs.getD j 0
    rw [e]; exact hb _ (List.getElem_mem _)⟩
theorem same_list (cs ds : List Int32) : SameT cs.length (fun j => cs.getD j 0) ds.length (fun j => ds.getD j 0) ↔ cs = ds := by
  constructor
  · rintro ⟨e, q⟩
    refine List.ext_getElem e fun j h1 h2 => ?_
    have := q j h1
    simpa [List.getD_eq_getElem?_getD, h1, h2] using this
  · rintro rfl
    exact ⟨rfl, fun _ _ => rfl⟩
/-- **equals(Object) OF TWO SUCH STRINGS**: 1 just where the chars are the same -/
theorem eqW {p : Program} {l : Launch} {e : Env} {R : Room} {s : State} {args : Array Value} {below : List Frame} {len W : Nat} {Z : State} {a0 : Array Value} {h : Heap} (hZ : Z.Warmed39 s.vm) (hw : ∀ d ∈ wordsEq, d.before a0 Z = true) {kI : Nat} (wi : (Jvm.Cond.instantiable ST kI).before a0 Z = true)
    {x t : Addr} {kb : ClassId} {cs : List Int32} {cd N2 : Int32} {vs : List Value} (E : RoadKit.Exa Z h x ST) (V : RoadKit.Fld Z h x ST "value" "[B" (.ref t)) (C : RoadKit.Fld Z h x ST "coder" "B" (.int cd)) (K : RoadKit.Arv Z h t kb .byte N2 vs (.int 0)) (hc : CodA cs cd N2 vs) (hb : ∀ c ∈ cs, ¬ c < 0 ∧ ¬ (65535 : Int32) < c) (l2 : cs.length ≤ 4000)
    {y t' : Addr} {kb' : ClassId} {ds : List Int32} {cd' N2' : Int32} {vs' : List Value} (E' : RoadKit.Exa Z h y ST) (V' : RoadKit.Fld Z h y ST "value" "[B" (.ref t')) (C' : RoadKit.Fld Z h y ST "coder" "B" (.int cd')) (K' : RoadKit.Arv Z h t' kb' .byte N2' vs' (.int 0)) (hc' : CodA ds cd' N2' vs') (hb' : ∀ c ∈ ds, ¬ c < 0 ∧ ¬ (65535 : Int32) < c) (l2' : ds.length ≤ 4000)
    {z : Int32} (S : RoadKit.Sta Z h ST "COMPACT_STRINGS" "Z" (.int z)) (hz : ¬ z = 0) (hfr : 2 ≤ R.frames) (hlo : W + 28 ≤ R.locals) :
    Back l R p e below s args (⟨"java/lang/String", "equals", "(Ljava/lang/Object;)Z"⟩ : MethodName) len W (fun P a => a = #[.ref x, .ref y] ∧ P.U.heap = h ∧ P.cells + 0 ≤ R.cells ∧ P.slots + 0 ≤ R.slots)
      (fun P _ v B => ∃ L, (((v = some (.int 1) ∧ cs = ds) ∨ (v = some (.int 0) ∧ ¬ cs = ds)) ∧ L = [] ∧ B.U.heap = h) ∧ B.locs = P.locs ++ L ∧ B.cells = P.cells + 0 ∧ B.slots = P.slots + 0) := by
  intro m meth c P g ig mk a X hg hsize hdg hW hn hp'
  obtain ⟨rfl, rfl, r1, r2⟩ := hp'
  have al : Z.vm.Alike P.U.vm := hZ.alike.trans X.warmed.alike
  obtain ⟨A, hx⟩ := txt_of wi al E V C K hc hb l2
  obtain ⟨A', hy⟩ := txt_of wi al E' V' C' K' hc' hb' l2'
  obtain ⟨v, B, X', ⟨⟨w, hv, hh, hq⟩, hl, hk, hs⟩, st⟩ := SEq.pays x t A cd cs.length (fun j => cs.getD j 0) y t' A' cd' ds.length (fun j => ds.getD j 0) z (tabEq_of (movedEq hZ hw)) hfr hlo m meth c P g ig mk _ X hg hsize hdg hW hn ⟨r1, r2, rfl, hx, hy, sta_is al S, hz⟩
  refine ⟨v, B, X', ⟨[], ⟨?_, rfl, hh⟩, hl, hk, hs⟩, st⟩
  rcases hq with ⟨rfl, q⟩ | ⟨rfl, q⟩
  · exact Or.inl ⟨hv, (same_list cs ds).mp q⟩
  · exact Or.inr ⟨hv, fun e => q ((same_list cs ds).mpr e)⟩
end StrChars.Road
namespace StrChars.Road
open Jvm Sem ClassFile Op Lib Jvm.Stand Jvm.Free Jvm.Free.XT
open Jvm.Lib.Cold (StaticIs)
/-- what backV says of its String, as the contracts of this text ask it: cs's low bytes, coder 0 -/
theorem codOf {cs : List Int32} {n : Nat} (hn : cs.length = n) (hb : ∀ c ∈ cs, ¬ 255 < c) : CodA cs 0 (Int32.ofNat n) ((cs.map lo8).map Value.int) := Or.inl ⟨rfl, by rw [hn], by simp [List.map_map, Function.comp_def], hb⟩
end StrChars.Road
end Jvm.Pilot.@@N@@
namespace Jvm.Pilot.@@N@@
open Jvm Jvm.ClassFile Sem Op Lib Jvm.Free Jvm.Stand Jvm.LawKit Jvm.RoadKit Bundle Jvm.Pilot.@@N@@.Jvm.D
section Own
variable {p : Program} {l : Launch} {e : Env} {R : Room} {s : State} {m : MethodId} {args : Array Value} {below : List Frame} {meth : Method} {c : Code} {T : State} {locs : List Loc} {cells slots : Nat} {Z : State} {a0 : Array Value} {h : Heap}
theorem wd (hw : ∀ d ∈ tables_1, d.before a0 Z = true) (k : Nat) {d : Jvm.Cond} (q : tables_1[k]? = some d) : d.before a0 Z = true := hw d (List.mem_of_getElem? q)
theorem old_sz {n0 : Nat} (O : Old Z n0 h) : n0 ≤ h.size := O.1 ▸ O.2.1
/-- what is left to show from the state t on -/
def Run (p : Program) (e : Env) (below : List Frame) (A : Outcome → State → Prop) (t : State) : Prop := ∃ u o, Steps p.tables e below t u ∧ u.status = .running ∧ Ended u below o ∧ A o u
theorem go {A : Outcome → State → Prop} {t t' : State} (st : ∀ u, Steps p.tables e below t' u → Steps p.tables e below t u) (k : Run p e below A t') : Run p e below A t := by
  obtain ⟨u, o, k1, k2⟩ := k
  exact ⟨u, o, st u k1, k2⟩
theorem goT {A : Outcome → State → Prop} {t t' : State} (st : Steps p.tables e below t t') (k : Run p e below A t') : Run p e below A t := by
  obtain ⟨u, o, k1, k2⟩ := k
  exact ⟨u, o, st.trans k1, k2⟩
theorem goTsw {A : Outcome → State → Prop} (h : At T m c below) (hx : p.tables.exec = Jvm.exec) {pc pc' len : Nat} {Ls : Array Slot} {rest : List Value} {i : Int32} {dflt low high o : Int} {offs : Array Int} (hd : decode c.code pc = .ok (.tableswitch dflt low high offs, len)) (hin : ¬ (i.toInt < low ∨ i.toInt > high)) (hoff : offs[(i.toInt - low).toNat]? = some o) (ho : 0 ≤ (pc : Int) + o) (hp : ((pc : Int) + o).toNat = pc')
    (k : Run p e below A (T.setTop (mkF m pc' Ls rest))) : Run p e below A (T.setTop (mkF m pc Ls (.int i :: rest))) := go (fun _ => XS.tswIn (g := mkF m pc Ls (.int i :: rest)) h hx rfl (pc0 := pc) rfl hd rfl hin hoff ho hp) k
theorem goTswD {A : Outcome → State → Prop} (h : At T m c below) (hx : p.tables.exec = Jvm.exec) {pc pc' len : Nat} {Ls : Array Slot} {rest : List Value} {i : Int32} {dflt low high : Int} {offs : Array Int} (hd : decode c.code pc = .ok (.tableswitch dflt low high offs, len)) (hout : i.toInt < low ∨ i.toInt > high) (ho : 0 ≤ (pc : Int) + dflt) (hp : ((pc : Int) + dflt).toNat = pc')
    (k : Run p e below A (T.setTop (mkF m pc' Ls rest))) : Run p e below A (T.setTop (mkF m pc Ls (.int i :: rest))) := go (fun _ => XS.tswOut (g := mkF m pc Ls (.int i :: rest)) h hx rfl (pc0 := pc) rfl hd rfl hout ho hp) k
def Ends (s : State) (Q : Option Value → Heap → List Loc → Prop) (k n : Nat) (o : Outcome) (U : State) : Prop := ∃ v L, o = .returned v ∧ Q v U.heap L ∧ FrameEnd s o U L k n
def Meets (l : Launch) (y : MethodName) (bytes : ByteArray) (maxL : Nat) (ret : Option FieldType) (ws : List Jvm.Cond) (rm : Room) (Z : State) (as' : Array Value) (h0 : Heap) (Q : Option Value → Heap → List Loc → Prop) (k n : Nat) : Prop :=
  MetFree l y (head1 (Jvm.Cond.code y bytes maxL ret :: ws) rm) (fun a U => a = as' ∧ Z.Warmed39 U.vm ∧ U.heap = h0) (fun _ _ _ _ _ => True) (fun _ U o U' => ∃ v L, o = .returned v ∧ Q v U'.heap L ∧ FrameEnd U o U' L k n)
theorem enter {y : MethodName} {bytes : ByteArray} {maxL : Nat} {ret : Option FieldType} {ws : List Jvm.Cond} {rm : Room} {as' : Array Value} {h0 : Heap} {Q : Option Value → Heap → List Loc → Prop} {k n : Nat} {Ls : Array Slot} (pf : plainFor y = true) (ef : ∀ m, entryFrame m as' maxL = mkF m 0 Ls [])
    (body : ∀ (p : Program) (e : Env) (s : State) (m : MethodId) (below : List Frame) (meth : Method) (c : Code) (T : State), p.tables.exec = Jvm.exec → c.code = bytes → c.maxLocals = maxL → s.vm.findClass y.cls = some m.cls → meth.name = y.name → meth.sig.returnType = ret → meth.locks = false → Z.Warmed39 s.vm → Stand p l e rm s m as' below meth c T [] 0 0 → T.heap = h0 → Run p e below (Ends s Q k n) (T.setTop (mkF m 0 Ls []))) :
    Meets l y bytes maxL ret ws rm Z as' h0 Q k n := by
  refine MetFree.of_bodySF pf hisR ?_
  intro p e s m args below meth c s₁ Bd hml0 hP hK
  obtain ⟨rfl, hZ, hh⟩ := hP
  obtain ⟨u, o, k1, k2, k3, k4⟩ := body p e s m below meth c s₁ Bd.exec Bd.bytes hml0 (findClass_of_methodNamed Bd.named) (name_of_methodNamed Bd.named Bd.method).1 Bd.returns (BodyLoose.notSynchronized Bd) hZ (Stand.of_body Bd) (by rw [← hh, Bd.state]; rfl)
  exact ⟨u, o, castTop (ef m) k1, k2, k3, k4⟩
theorem smono (X : Stand p l e R s m args below meth c T locs cells slots) {k n : Nat} (hk : cells ≤ k) (hn : slots ≤ n) : Stand p l e R s m args below meth c T locs k n :=
  ⟨X.admits, X.cas, X.clock, X.frames, X.room, X.hears, X.method, X.code, X.here, X.tail, X.warmed, X.limits, X.bytes, X.same.mono hk hn⟩
theorem retI (X : Stand p l e R s m args below meth c T locs cells slots) (hx : p.tables.exec = Jvm.exec) {pc : Nat} {Ls : Array Slot} {z : Int32} {rest : List Value} (hret : meth.sig.returnType = some .int) (hd : decode c.code pc = .ok (.ireturn, 1)) {fs : List Frame}
    (hl : ∀ (f : JFrame) (acts : List Action), f.method = m → f.locked = none → f.entered = [] → (doReturn e (T.setTop f) acts (some (.int z))).1 = T.setFrames fs) : Steps p.tables e below (T.setTop (mkF m pc Ls (.int z :: rest))) (T.setFrames fs) :=
  retOut X hx hret rfl (Or.inl ⟨rfl, Or.inl rfl, _, rfl⟩) hd hl
theorem endI (X : Stand p l e R s m args below meth c T locs cells slots) (hx : p.tables.exec = Jvm.exec) (hlk : meth.locks = false) {Q : Option Value → Heap → List Loc → Prop} {k n pc : Nat} {Ls : Array Slot} {z : Int32} {rest : List Value} (hret : meth.sig.returnType = some .int) (hd : decode c.code pc = .ok (.ireturn, 1)) (hq : Q (some (.int z)) T.heap locs) (hk : cells ≤ k) (hn : slots ≤ n) :
    Run p e below (Ends s Q k n) (T.setTop (mkF m pc Ls (.int z :: rest))) := by
  obtain ⟨fs, hr, hrun, hended, hW, hsame⟩ := X.leave (v := some (.int z)) (fun h => by rw [hret] at h; cases h) hlk
  exact ⟨_, _, retI X hx hret hd hr, hrun, hended, _, _, rfl, hq, ⟨_, rfl⟩, hW, hsame.mono hk hn⟩
theorem endN (X : Stand p l e R s m args below meth c T locs cells slots) (hx : p.tables.exec = Jvm.exec) (hlk : meth.locks = false) {Q : Option Value → Heap → List Loc → Prop} {k n pc : Nat} {Ls : Array Slot} {z : Int32} {rest : List Value} {t : FieldType} (hret : meth.sig.returnType = some t) (ht : t = .boolean ∨ t = .byte ∨ t = .char ∨ t = .short) (hd : decode c.code pc = .ok (.ireturn, 1)) (hq : Q (some (.int (nar t z))) T.heap locs) (hk : cells ≤ k) (hn : slots ≤ n) :
    Run p e below (Ends s Q k n) (T.setTop (mkF m pc Ls (.int z :: rest))) := by
  obtain ⟨fs, hr, hrun, hended, hW, hsame⟩ := X.leave (v := some (.int (nar t z))) (fun h => by rw [hret] at h; cases h) hlk
  exact ⟨_, _, retN X hx hret ht hd hr, hrun, hended, _, _, rfl, hq, ⟨_, rfl⟩, hW, hsame.mono hk hn⟩
theorem endA (X : Stand p l e R s m args below meth c T locs cells slots) (hx : p.tables.exec = Jvm.exec) (hlk : meth.locks = false) {Q : Option Value → Heap → List Loc → Prop} {k n pc : Nat} {Ls : Array Slot} {w : Value} {rest : List Value} {t : FieldType} (hret : meth.sig.returnType = some t) (ht : t.isReference = true) (hv : w.isRef = true) (hd : decode c.code pc = .ok (.areturn, 1)) (hq : Q (some w) T.heap locs) (hk : cells ≤ k) (hn : slots ≤ n) :
    Run p e below (Ends s Q k n) (T.setTop (mkF m pc Ls (w :: rest))) := by
  obtain ⟨fs, hr, hrun, hended, hW, hsame⟩ := X.leave (v := some w) (fun h => by rw [hret] at h; cases h) hlk
  have hn' : narrow t w = w := by cases w <;> first | (cases hv; done) | (cases t <;> first | rfl | (cases ht; done))
  exact ⟨_, _, retOut X hx hret hn' (Or.inr (Or.inr (Or.inr (Or.inr ⟨rfl, ht, hv⟩)))) hd hr, hrun, hended, _, _, rfl, hq, ⟨_, rfl⟩, hW, hsame.mono hk hn⟩
theorem endJ (X : Stand p l e R s m args below meth c T locs cells slots) (hx : p.tables.exec = Jvm.exec) (hlk : meth.locks = false) {Q : Option Value → Heap → List Loc → Prop} {k n pc : Nat} {Ls : Array Slot} {z : Int64} {rest : List Value} (hret : meth.sig.returnType = some .long) (hd : decode c.code pc = .ok (.lreturn, 1)) (hq : Q (some (.long z)) T.heap locs) (hk : cells ≤ k) (hn : slots ≤ n) :
    Run p e below (Ends s Q k n) (T.setTop (mkF m pc Ls (.long z :: rest))) := by
  obtain ⟨fs, hr, hrun, hended, hW, hsame⟩ := X.leave (v := some (.long z)) (fun h => by rw [hret] at h; cases h) hlk
  exact ⟨_, _, retOut X hx hret rfl (Or.inr (Or.inl ⟨rfl, rfl, _, rfl⟩)) hd hr, hrun, hended, _, _, rfl, hq, ⟨_, rfl⟩, hW, hsame.mono hk hn⟩
theorem endD (X : Stand p l e R s m args below meth c T locs cells slots) (hx : p.tables.exec = Jvm.exec) (hlk : meth.locks = false) {Q : Option Value → Heap → List Loc → Prop} {k n pc : Nat} {Ls : Array Slot} {z : UInt64} {rest : List Value} (hret : meth.sig.returnType = some .double) (hd : decode c.code pc = .ok (.dreturn, 1)) (hq : Q (some (.double z)) T.heap locs) (hk : cells ≤ k) (hn : slots ≤ n) :
    Run p e below (Ends s Q k n) (T.setTop (mkF m pc Ls (.double z :: rest))) := by
  obtain ⟨fs, hr, hrun, hended, hW, hsame⟩ := X.leave (v := some (.double z)) (fun h => by rw [hret] at h; cases h) hlk
  exact ⟨_, _, retOut X hx hret rfl (Or.inr (Or.inr (Or.inl ⟨rfl, rfl, _, rfl⟩))) hd hr, hrun, hended, _, _, rfl, hq, ⟨_, rfl⟩, hW, hsame.mono hk hn⟩
theorem endV (X : Stand p l e R s m args below meth c T locs cells slots) (hx : p.tables.exec = Jvm.exec) (hlk : meth.locks = false) {Q : Option Value → Heap → List Loc → Prop} {k n pc : Nat} {Ls : Array Slot} (hret : meth.sig.returnType = none) (hd : decode c.code pc = .ok (.return_, 1)) (hq : Q none T.heap locs) (hk : cells ≤ k) (hn : slots ≤ n) :
    Run p e below (Ends s Q k n) (T.setTop (mkF m pc Ls [])) := by
  obtain ⟨fs, hr, hrun, hended, hW, hsame⟩ := X.leave (v := none) (fun _ => rfl) hlk
  exact ⟨_, _, X.returnOut hx hret hd hr, hrun, hended, _, _, rfl, hq, ⟨_, rfl⟩, hW, hsame.mono hk hn⟩
abbrev Pay (l : Launch) (R : Room) (p : Program) (e : Env) (below : List Frame) (s : State) (args : Array Value) (y : MethodName) (len W : Nat) (as' : Array Value) (h : Heap) (Q : Option Value → Heap → List Loc → Prop) (rc rs : Nat) : Prop :=
  Back l R p e below s args y len W (fun A a => a = as' ∧ A.U.heap = h ∧ A.cells + rc ≤ R.cells ∧ A.slots + rs ≤ R.slots) (fun A _ v B => ∃ L, Q v B.U.heap L ∧ B.locs = A.locs ++ L ∧ B.cells = A.cells + rc ∧ B.slots = A.slots + rs)
theorem Pay.more {y : MethodName} {len W rc rs rs' : Nat} {as' : Array Value} {Q : Option Value → Heap → List Loc → Prop} (hK : Pay l R p e below s args y len W as' h Q rc rs) (q : rs ≤ rs') : Pay l R p e below s args y len W as' h Q rc rs' := fun m meth c A g ig mk a X hg hsz hd hW hn hp => by
  obtain ⟨v, B, X', ⟨L, q1, q2, q3, q4⟩, st⟩ := hK m meth c A g ig mk a X hg hsz hd hW hn ⟨hp.1, hp.2.1, hp.2.2.1, Nat.le_trans (Nat.add_le_add_left q _) hp.2.2.2⟩
  exact ⟨v, (B.U, B.locs, B.cells, A.slots + rs'), smono X' (Nat.le_refl _) (by rw [q4]; exact Nat.add_le_add_left q _), ⟨L, q1, q2, q3, rfl⟩, st⟩
theorem narR {v : Value} {C : String} (h : v.isRef = true) : narrow (.object C) v = v := by cases v <;> first | rfl | (cases h; done)
theorem catR {v : Value} (h : v.isRef = true) : v.category = 1 := by cases v <;> first | rfl | (cases h; done)
theorem fitR {v : Value} {C : String} (h : v.isRef = true) : fits (.object C) v = true := by cases v <;> first | rfl | (cases h; done)
theorem callSt (X : Stand p l e R s m args below meth c T locs cells slots) (hx : p.tables.exec = Jvm.exec) (hZ : Z.Warmed39 s.vm) {own : String} {index : Nat} {y : MethodName} {bytes : ByteArray} {maxL : Nat} {ret : Option FieldType} {rm : Room} {Q : Option Value → Heap → List Loc → Prop} (hown : s.vm.findClass own = some m.cls)
    (w1 : (Jvm.Cond.methodLink own index y).before a0 Z = true) (w2 : (Jvm.Cond.static y).before a0 Z = true) (w3 : (Jvm.Cond.initialized y.cls).before a0 Z = true) (w4 : (Jvm.Cond.code y bytes maxL ret).before a0 Z = true) (hy : y.cls ≠ "java/lang/invoke/MethodHandle" ∧ y.cls ≠ "java/lang/invoke/VarHandle") (eT : T.heap = h) {argsL rest : List Value}
    (hM : Meets l y bytes maxL ret [] rm Z argsL.toArray h Q rm.cells rm.slots) {W : Nat} (hf : rm.frames + 1 ≤ R.frames) (hl : W + (maxL + 11) + rm.locals ≤ R.locals) (hc : cells + rm.cells ≤ R.cells) (hn : slots + rm.slots ≤ R.slots)
    {pc : Nat} {Ls : Array Slot} {st : List Value} (hsize : Ls.size = c.maxLocals) (hlen : ∀ sig, parseMethodDescriptor y.desc = some sig → argsL.length = sig.parameters.length) (hst : st = argsL.reverse ++ rest) (hW : (rest.map fun v => v.category).sum ≤ W) (hd : decode c.code pc = .ok (.invokestatic index, 3)) {A : Outcome → State → Prop}
    (kk : ∀ (v : Option Value) (T' : State) (L : List Loc) (h' : Heap), Stand p l e R s m args below meth c T' (locs ++ L) (cells + rm.cells) (slots + rm.slots) → T'.heap = h' → Q v h' L → Run p e below A (T'.setTop (mkF m (pc + 3) Ls (v.toList ++ rest)))) : Run p e below A (T.setTop (mkF m pc Ls st)) := by
  obtain ⟨v, _, ⟨T18, L18, k18, n18⟩, -, X18, ⟨Lc18, hQ18, l18, y18, z18⟩, st18⟩ := Jvm.LawKit.callS X hx hown (mvT hZ w1) (mvT hZ w2) (mvT hZ w3) (mvT hZ w4) hy (backOf (W := W) hM hZ w4 w3 hf hl) (g := mkF m pc Ls st) rfl hsize (argsL := argsL) (rest := rest) hlen hst (by show 2 * 0 + _ ≤ _; omega) hd (fun _ _ => ⟨rfl, eT, hc, hn⟩)
  dsimp only [Pt.U, Pt.locs, Pt.cells, Pt.slots] at X18 l18 y18 z18 st18 hQ18
  subst l18 y18 z18
  exact go st18 (kk v _ _ _ X18 rfl hQ18)
theorem callVi (X : Stand p l e R s m args below meth c T locs cells slots) (hx : p.tables.exec = Jvm.exec) (hZ : Z.Warmed39 s.vm) {own C : String} {index : Nat} {y z : MethodName} {bytes : ByteArray} {maxL : Nat} {ret : Option FieldType} {rm : Room} {Q : Option Value → Heap → List Loc → Prop} (hown : s.vm.findClass own = some m.cls)
    (w1 : (Jvm.Cond.methodLink own index y).before a0 Z = true) (w2 : (Jvm.Cond.declares y).before a0 Z = true) (nf : NotFace s y) (w5 : (Jvm.Cond.selects C y z).before a0 Z = true) (w6 : (Jvm.Cond.instanceMethod z).before a0 Z = true) (w4 : (Jvm.Cond.code z bytes maxL ret).before a0 Z = true) (w3 : (Jvm.Cond.initialized z.cls).before a0 Z = true) (hy : y.cls ≠ "java/lang/invoke/MethodHandle" ∧ y.cls ≠ "java/lang/invoke/VarHandle") (eT : T.heap = h) {a : Addr} (E : Exa Z h a C) {argsL rest : List Value}
    (hM : Meets l z bytes maxL ret [] rm Z (.ref a :: argsL).toArray h Q rm.cells rm.slots) {W : Nat} (hf : rm.frames + 1 ≤ R.frames) (hl : W + (maxL + 11) + rm.locals ≤ R.locals) (hc : cells + rm.cells ≤ R.cells) (hn : slots + rm.slots ≤ R.slots)
    {pc : Nat} {Ls : Array Slot} {st : List Value} (hsize : Ls.size = c.maxLocals) (hlen : ∀ sig, parseMethodDescriptor y.desc = some sig → argsL.length = sig.parameters.length) (hst : st = argsL.reverse ++ .ref a :: rest) (hW : (rest.map fun v => v.category).sum ≤ W) (hd : decode c.code pc = .ok (.invokevirtual index, 3)) {A : Outcome → State → Prop}
    (kk : ∀ (v : Option Value) (T' : State) (L : List Loc) (h' : Heap), Stand p l e R s m args below meth c T' (locs ++ L) (cells + rm.cells) (slots + rm.slots) → T'.heap = h' → Q v h' L → Run p e below A (T'.setTop (mkF m (pc + 3) Ls (v.toList ++ rest)))) : Run p e below A (T.setTop (mkF m pc Ls st)) := by
  obtain ⟨cq, kq, qa, qb, qc⟩ := isOf hZ eT E
  obtain ⟨v, _, ⟨T18, L18, k18, n18⟩, -, X18, ⟨Lc18, hQ18, l18, y18, z18⟩, st18⟩ := X.virtualBack hx (y := y) (z := z) hown (mvT hZ w1) (mvT hZ w2) nf (mvT hZ w5) (mvT hZ w6) hy (backOf (W := W) hM hZ w4 w3 hf hl) qa qc (g := mkF m pc Ls st) rfl hsize (Steps.refl _) (argsL := argsL) (rest := rest) hlen hst (by show 2 * 0 + _ ≤ _; omega) hd (fun _ _ => ⟨rfl, eT, hc, hn⟩)
  dsimp only [Pt.U, Pt.locs, Pt.cells, Pt.slots] at X18 l18 y18 z18 st18 hQ18
  subst l18 y18 z18
  exact goT st18 (kk v _ _ _ X18 rfl hQ18)
theorem callSp (X : Stand p l e R s m args below meth c T locs cells slots) (hx : p.tables.exec = Jvm.exec) (hZ : Z.Warmed39 s.vm) {own : String} {index : Nat} {y : MethodName} (hy1 : y.name = "<init>") {bytes : ByteArray} {maxL : Nat} {rm : Room} {Q : Option Value → Heap → List Loc → Prop} (hown : s.vm.findClass own = some m.cls)
    (w1 : (Jvm.Cond.methodLink own index y).before a0 Z = true) (w6 : (Jvm.Cond.instanceMethod y).before a0 Z = true) (w4 : (Jvm.Cond.code y bytes maxL none).before a0 Z = true) (w3 : (Jvm.Cond.initialized y.cls).before a0 Z = true) (hy : y.cls ≠ "java/lang/invoke/MethodHandle" ∧ y.cls ≠ "java/lang/invoke/VarHandle") (eT : T.heap = h) {a : Addr} {argsL rest : List Value}
    (hM : Meets l y bytes maxL none [] rm Z (.ref a :: argsL).toArray h Q rm.cells rm.slots) {W : Nat} (hf : rm.frames + 1 ≤ R.frames) (hl : W + (maxL + 11) + rm.locals ≤ R.locals) (hc : cells + rm.cells ≤ R.cells) (hn : slots + rm.slots ≤ R.slots)
    {pc : Nat} {Ls : Array Slot} {st : List Value} (hsize : Ls.size = c.maxLocals) (hlen : ∀ sig, parseMethodDescriptor y.desc = some sig → argsL.length = sig.parameters.length) (hst : st = argsL.reverse ++ .ref a :: rest) (hW : (rest.map fun v => v.category).sum ≤ W) (hd : decode c.code pc = .ok (.invokespecial index, 3)) {A : Outcome → State → Prop}
    (kk : ∀ (v : Option Value) (T' : State) (L : List Loc) (h' : Heap), Stand p l e R s m args below meth c T' (locs ++ L) (cells + rm.cells) (slots + rm.slots) → T'.heap = h' → Q v h' L → Run p e below A (T'.setTop (mkF m (pc + 3) Ls (v.toList ++ rest)))) : Run p e below A (T.setTop (mkF m pc Ls st)) := by
  obtain ⟨v, _, ⟨T18, L18, k18, n18⟩, -, X18, ⟨Lc18, hQ18, l18, y18, z18⟩, st18⟩ := X.specialBack hx (y := y) hy1 hown (mvT hZ w1) (mvT hZ w6) (mvT hZ w4) hy (backOf (W := W) hM hZ w4 w3 hf hl) (g := mkF m pc Ls st) rfl hsize (Steps.refl _) (a := a) (argsL := argsL) (rest := rest) hlen hst (by show 2 * 0 + _ ≤ _; omega) hd (fun _ _ => ⟨rfl, eT, hc, hn⟩)
  dsimp only [Pt.U, Pt.locs, Pt.cells, Pt.slots] at X18 l18 y18 z18 st18 hQ18
  subst l18 y18 z18
  exact goT st18 (kk v _ _ _ X18 rfl hQ18)
theorem callSpN (X : Stand p l e R s m args below meth c T locs cells slots) (hx : p.tables.exec = Jvm.exec) (hZ : Z.Warmed39 s.vm) {own host : String} {index : Nat} {y : MethodName} (hy1 : y.name = "<init>") {bytes : ByteArray} {maxL : Nat} {rm : Room} {Q : Option Value → Heap → List Loc → Prop} (hown : s.vm.findClass own = some m.cls)
    (w1 : (Jvm.Cond.methodLinkNest own index y host).before a0 Z = true) (w6 : (Jvm.Cond.instanceMethod y).before a0 Z = true) (w4 : (Jvm.Cond.code y bytes maxL none).before a0 Z = true) (w3 : (Jvm.Cond.initialized y.cls).before a0 Z = true) (hy : y.cls ≠ "java/lang/invoke/MethodHandle" ∧ y.cls ≠ "java/lang/invoke/VarHandle") (eT : T.heap = h) {a : Addr} {argsL rest : List Value}
    (hM : Meets l y bytes maxL none [] rm Z (.ref a :: argsL).toArray h Q rm.cells rm.slots) {W : Nat} (hf : rm.frames + 1 ≤ R.frames) (hl : W + (maxL + 11) + rm.locals ≤ R.locals) (hc : cells + rm.cells ≤ R.cells) (hn : slots + rm.slots ≤ R.slots)
    {pc : Nat} {Ls : Array Slot} {st : List Value} (hsize : Ls.size = c.maxLocals) (hlen : ∀ sig, parseMethodDescriptor y.desc = some sig → argsL.length = sig.parameters.length) (hst : st = argsL.reverse ++ .ref a :: rest) (hW : (rest.map fun v => v.category).sum ≤ W) (hd : decode c.code pc = .ok (.invokespecial index, 3)) {A : Outcome → State → Prop}
    (kk : ∀ (v : Option Value) (T' : State) (L : List Loc) (h' : Heap), Stand p l e R s m args below meth c T' (locs ++ L) (cells + rm.cells) (slots + rm.slots) → T'.heap = h' → Q v h' L → Run p e below A (T'.setTop (mkF m (pc + 3) Ls (v.toList ++ rest)))) : Run p e below A (T.setTop (mkF m pc Ls st)) := by
  obtain ⟨v, _, ⟨T18, L18, k18, n18⟩, -, X18, ⟨Lc18, hQ18, l18, y18, z18⟩, st18⟩ := X.specialBackNest hx (y := y) hy1 hown (Cond.methodLinkNest_wide hZ w1 :) (mvT hZ w6) (mvT hZ w4) hy (backOf (W := W) hM hZ w4 w3 hf hl) (g := mkF m pc Ls st) rfl hsize (Steps.refl _) (a := a) (argsL := argsL) (rest := rest) hlen hst (by show 2 * 0 + _ ≤ _; omega) hd (fun _ _ => ⟨rfl, eT, hc, hn⟩)
  dsimp only [Pt.U, Pt.locs, Pt.cells, Pt.slots] at X18 l18 y18 z18 st18 hQ18
  subst l18 y18 z18
  exact goT st18 (kk v _ _ _ X18 rfl hQ18)
theorem callPr (X : Stand p l e R s m args below meth c T locs cells slots) (hx : p.tables.exec = Jvm.exec) (hZ : Z.Warmed39 s.vm) {own C : String} {index : Nat} {y : MethodName} {bytes : ByteArray} {maxL : Nat} {ret : Option FieldType} {rm : Room} {Q : Option Value → Heap → List Loc → Prop} (hown : s.vm.findClass own = some m.cls)
    (w1 : (Jvm.Cond.methodLink own index y).before a0 Z = true) (w2 : (Jvm.Cond.privateMethod y).before a0 Z = true) (w5 : (Jvm.Cond.selects y.cls y y).before a0 Z = true) (w6 : (Jvm.Cond.instanceMethod y).before a0 Z = true) (w4 : (Jvm.Cond.code y bytes maxL ret).before a0 Z = true) (w3 : (Jvm.Cond.initialized y.cls).before a0 Z = true) (hy : y.cls ≠ "java/lang/invoke/MethodHandle" ∧ y.cls ≠ "java/lang/invoke/VarHandle") (eT : T.heap = h) {a : Addr} (E : Exa Z h a C) {argsL rest : List Value}
    (hM : Meets l y bytes maxL ret [] rm Z (.ref a :: argsL).toArray h Q rm.cells rm.slots) {W : Nat} (hf : rm.frames + 1 ≤ R.frames) (hl : W + (maxL + 11) + rm.locals ≤ R.locals) (hc : cells + rm.cells ≤ R.cells) (hn : slots + rm.slots ≤ R.slots)
    {pc : Nat} {Ls : Array Slot} {st : List Value} (hsize : Ls.size = c.maxLocals) (hlen : ∀ sig, parseMethodDescriptor y.desc = some sig → argsL.length = sig.parameters.length) (hst : st = argsL.reverse ++ .ref a :: rest) (hW : (rest.map fun v => v.category).sum ≤ W) (hd : decode c.code pc = .ok (.invokevirtual index, 3)) {A : Outcome → State → Prop}
    (kk : ∀ (v : Option Value) (T' : State) (L : List Loc) (h' : Heap), Stand p l e R s m args below meth c T' (locs ++ L) (cells + rm.cells) (slots + rm.slots) → T'.heap = h' → Q v h' L → Run p e below A (T'.setTop (mkF m (pc + 3) Ls (v.toList ++ rest)))) : Run p e below A (T.setTop (mkF m pc Ls st)) := by
  obtain ⟨cl, hcl, hob⟩ := Exa.cell E
  obtain ⟨v, _, ⟨T18, L18, k18, n18⟩, -, X18, ⟨Lc18, hQ18, l18, y18, z18⟩, st18⟩ := X.privateBack hx (y := y) hown (mvT hZ w1) (mvT hZ w6) (mvT hZ w5) (Cond.privateMethod_at (mvP hZ w2 (args := #[]))) (mvT hZ w4) hy (backOf (W := W) hM hZ w4 w3 hf hl) (g := mkF m pc Ls st) rfl hsize (Steps.refl _) (a := a) (by rw [eT]; exact hcl) hob (argsL := argsL) (rest := rest) hlen hst (by show 2 * 0 + _ ≤ _; omega) hd (fun _ _ => ⟨rfl, eT, hc, hn⟩)
  dsimp only [Pt.U, Pt.locs, Pt.cells, Pt.slots] at X18 l18 y18 z18 st18 hQ18
  subst l18 y18 z18
  exact goT st18 (kk v _ _ _ X18 rfl hQ18)
theorem callIf (X : Stand p l e R s m args below meth c T locs cells slots) (hx : p.tables.exec = Jvm.exec) (hZ : Z.Warmed39 s.vm) {own C : String} {index count : Nat} {y z : MethodName} {bytes : ByteArray} {maxL : Nat} {ret : Option FieldType} {rm : Room} {Q : Option Value → Heap → List Loc → Prop} (hown : s.vm.findClass own = some m.cls)
    (w1 : (Jvm.Cond.methodLink own index y).before a0 Z = true) (w2 : (Jvm.Cond.declares y).before a0 Z = true) (w7 : (Jvm.Cond.interfaceMethod y.cls y.cls y.name y.desc).before a0 Z = true) (k7 : ((Jvm.Cond.interfaceMethod y.cls y.cls y.name y.desc).onTables && (Jvm.Cond.interfaceMethod y.cls y.cls y.name y.desc).keepsFace) = true) (w5 : (Jvm.Cond.selects C y z).before a0 Z = true) (w6 : (Jvm.Cond.instanceMethod z).before a0 Z = true) (w8 : (Jvm.Cond.publicMethod z).before a0 Z = true) (w9 : (Jvm.Cond.unhidden C y.name y.desc).before a0 Z = true) (w10 : (Jvm.Cond.castable C y.cls).before a0 Z = true)
    (w4 : (Jvm.Cond.code z bytes maxL ret).before a0 Z = true) (w3 : (Jvm.Cond.initialized z.cls).before a0 Z = true) (hy : y.cls ≠ "java/lang/invoke/MethodHandle" ∧ y.cls ≠ "java/lang/invoke/VarHandle") (eT : T.heap = h) {a : Addr} (E : Exa Z h a C) {argsL rest : List Value}
    (hM : Meets l z bytes maxL ret [] rm Z (.ref a :: argsL).toArray h Q rm.cells rm.slots) {W : Nat} (hf : rm.frames + 1 ≤ R.frames) (hl : W + (maxL + 11) + rm.locals ≤ R.locals) (hc : cells + rm.cells ≤ R.cells) (hn : slots + rm.slots ≤ R.slots)
    {pc : Nat} {Ls : Array Slot} {st : List Value} (hsize : Ls.size = c.maxLocals) (hlen : ∀ sig, parseMethodDescriptor y.desc = some sig → argsL.length = sig.parameters.length) (hst : st = argsL.reverse ++ .ref a :: rest) (hW : (rest.map fun v => v.category).sum ≤ W) (hd : decode c.code pc = .ok (.invokeinterface index count, 5)) {A : Outcome → State → Prop}
    (kk : ∀ (v : Option Value) (T' : State) (L : List Loc) (h' : Heap), Stand p l e R s m args below meth c T' (locs ++ L) (cells + rm.cells) (slots + rm.slots) → T'.heap = h' → Q v h' L → Run p e below A (T'.setTop (mkF m (pc + 5) Ls (v.toList ++ rest)))) : Run p e below A (T.setTop (mkF m pc Ls st)) := by
  obtain ⟨cq, kq, qa, qb, qc⟩ := isOf hZ eT E
  obtain ⟨v, _, ⟨T18, L18, k18, n18⟩, -, X18, ⟨Lc18, hQ18, l18, y18, z18⟩, st18⟩ := X.interfaceBack hx (xi := y) (y := z) hown (mvT hZ w1) (mvT hZ w2) (mvT hZ w7 k7) (mvT hZ w5) (mvT hZ w6) (mvT hZ w8) (mvT hZ w9) (mvT hZ w10) hy (backOf (W := W) hM hZ w4 w3 hf hl) qa qb qc (g := mkF m pc Ls st) rfl hsize (Steps.refl _) (argsL := argsL) (rest := rest) hlen hst (by show 2 * 0 + _ ≤ _; omega) hd (fun _ _ => ⟨rfl, eT, hc, hn⟩)
  dsimp only [Pt.U, Pt.locs, Pt.cells, Pt.slots] at X18 l18 y18 z18 st18 hQ18
  subst l18 y18 z18
  exact goT st18 (kk v _ _ _ X18 rfl hQ18)
theorem callViK (X : Stand p l e R s m args below meth c T locs cells slots) (hx : p.tables.exec = Jvm.exec) (hZ : Z.Warmed39 s.vm) {own C : String} {index : Nat} {y z : MethodName} {Q : Option Value → Heap → List Loc → Prop} (hown : s.vm.findClass own = some m.cls)
    (w1 : (Jvm.Cond.methodLink own index y).before a0 Z = true) (w2 : (Jvm.Cond.declares y).before a0 Z = true) (nf : NotFace s y) (w5 : (Jvm.Cond.selects C y z).before a0 Z = true) (w6 : (Jvm.Cond.instanceMethod z).before a0 Z = true) (hy : y.cls ≠ "java/lang/invoke/MethodHandle" ∧ y.cls ≠ "java/lang/invoke/VarHandle") (eT : T.heap = h) {a : Addr} (E : Exa Z h a C) {argsL rest : List Value}
    {rc rs W : Nat} (hK : Pay l R p e below s args z 3 W (.ref a :: argsL).toArray h Q rc rs) (hc : cells + rc ≤ R.cells) (hn : slots + rs ≤ R.slots)
    {pc : Nat} {Ls : Array Slot} {st : List Value} (hsize : Ls.size = c.maxLocals) (hlen : ∀ sig, parseMethodDescriptor y.desc = some sig → argsL.length = sig.parameters.length) (hst : st = argsL.reverse ++ .ref a :: rest) (hW : (rest.map fun v => v.category).sum ≤ W) (hd : decode c.code pc = .ok (.invokevirtual index, 3)) {A : Outcome → State → Prop}
    (kk : ∀ (v : Option Value) (T' : State) (L : List Loc) (h' : Heap), Stand p l e R s m args below meth c T' (locs ++ L) (cells + rc) (slots + rs) → T'.heap = h' → Q v h' L → Run p e below A (T'.setTop (mkF m (pc + 3) Ls (v.toList ++ rest)))) : Run p e below A (T.setTop (mkF m pc Ls st)) := by
  obtain ⟨cq, kq, qa, qb, qc⟩ := isOf hZ eT E
  obtain ⟨v, _, ⟨T18, L18, k18, n18⟩, -, X18, ⟨Lc18, hQ18, l18, y18, z18⟩, st18⟩ := X.virtualBack hx (y := y) (z := z) hown (mvT hZ w1) (mvT hZ w2) nf (mvT hZ w5) (mvT hZ w6) hy hK qa qc (g := mkF m pc Ls st) rfl hsize (Steps.refl _) (argsL := argsL) (rest := rest) hlen hst (by show 2 * 0 + _ ≤ _; omega) hd (fun _ _ => ⟨rfl, eT, hc, hn⟩)
  dsimp only [Pt.U, Pt.locs, Pt.cells, Pt.slots] at X18 l18 y18 z18 st18 hQ18
  subst l18 y18 z18
  exact goT st18 (kk v _ _ _ X18 rfl hQ18)
theorem callSpK (X : Stand p l e R s m args below meth c T locs cells slots) (hx : p.tables.exec = Jvm.exec) (hZ : Z.Warmed39 s.vm) {own : String} {index : Nat} {y : MethodName} (hy1 : y.name = "<init>") {bytes : ByteArray} {maxL : Nat} {Q : Option Value → Heap → List Loc → Prop} (hown : s.vm.findClass own = some m.cls)
    (w1 : (Jvm.Cond.methodLink own index y).before a0 Z = true) (w6 : (Jvm.Cond.instanceMethod y).before a0 Z = true) (w4 : (Jvm.Cond.code y bytes maxL none).before a0 Z = true) (hy : y.cls ≠ "java/lang/invoke/MethodHandle" ∧ y.cls ≠ "java/lang/invoke/VarHandle") (eT : T.heap = h) {a : Addr} {argsL rest : List Value}
    {rc rs W : Nat} (hK : Pay l R p e below s args y 3 W (.ref a :: argsL).toArray h Q rc rs) (hc : cells + rc ≤ R.cells) (hn : slots + rs ≤ R.slots)
    {pc : Nat} {Ls : Array Slot} {st : List Value} (hsize : Ls.size = c.maxLocals) (hlen : ∀ sig, parseMethodDescriptor y.desc = some sig → argsL.length = sig.parameters.length) (hst : st = argsL.reverse ++ .ref a :: rest) (hW : (rest.map fun v => v.category).sum ≤ W) (hd : decode c.code pc = .ok (.invokespecial index, 3)) {A : Outcome → State → Prop}
    (kk : ∀ (v : Option Value) (T' : State) (L : List Loc) (h' : Heap), Stand p l e R s m args below meth c T' (locs ++ L) (cells + rc) (slots + rs) → T'.heap = h' → Q v h' L → Run p e below A (T'.setTop (mkF m (pc + 3) Ls (v.toList ++ rest)))) : Run p e below A (T.setTop (mkF m pc Ls st)) := by
  obtain ⟨v, _, ⟨T18, L18, k18, n18⟩, -, X18, ⟨Lc18, hQ18, l18, y18, z18⟩, st18⟩ := X.specialBack hx (y := y) hy1 hown (mvT hZ w1) (mvT hZ w6) (mvT hZ w4) hy hK (g := mkF m pc Ls st) rfl hsize (Steps.refl _) (a := a) (argsL := argsL) (rest := rest) hlen hst (by show 2 * 0 + _ ≤ _; omega) hd (fun _ _ => ⟨rfl, eT, hc, hn⟩)
  dsimp only [Pt.U, Pt.locs, Pt.cells, Pt.slots] at X18 l18 y18 z18 st18 hQ18
  subst l18 y18 z18
  exact goT st18 (kk v _ _ _ X18 rfl hQ18)
/-- no subclass, by the words of the one's superclasses and of the other's 'instantiable' -/
theorem ns_root {O K : String} {n : Nat} (w : (Jvm.Cond.noSuperclass O).before a0 Z = true) (wk : (Jvm.Cond.instantiable K n).before a0 Z = true) (hn : O ≠ K) : NS Z O K := by
  obtain ⟨c, k, h1, h2, h3, -, -⟩ := Cond.noSuperclass_spec w
  obtain ⟨t, kt, g1, -⟩ := Cond.instantiable_spec wk
  have ne := ids_ne h1 g1 hn
  refine ⟨c, t, h1, g1, fun fuel => ?_⟩
  cases fuel with
  | zero => rfl
  | succ f => simp [Vm.isSubclassAux, ne, h2, h3]
theorem ns_no {C S K : String} {n : Nat} (w : (Jvm.Cond.superclass C S).before a0 Z = true) (wk : (Jvm.Cond.instantiable K n).before a0 Z = true) (q : NS Z C K) (hn : C ≠ K) : ∃ c t, Z.vm.findClass C = some c ∧ Z.vm.findClass K = some t ∧ Z.vm.assignable c t = false := by
  obtain ⟨c, t, h0, g0, n3⟩ := q
  obtain ⟨p, k, kp, h1, h2, h3, h4, h5, -, h7⟩ := Cond.superclass_spec h0 w
  obtain ⟨t', kt, g1, g2, g3, g4, -⟩ := Cond.instantiable_spec wk
  cases g0.symm.trans g1
  have ne := ids_ne h0 g0 hn
  have g5 : kt.isInterface = false := by
    cases hi : kt.isInterface with
    | false => rfl
    | true => simp [hi] at g4
  refine ⟨c, t, h0, g0, ?_⟩
  show Z.vm.assignableAux (255 + 1) c t = false
  simp [Vm.assignableAux, ne, h2, g2, h5, g3, g5, Vm.isSubclass, n3]
/-- a private method selects itself -/
theorem sel_priv {y : MethodName} {n : Nat} (wi : (Jvm.Cond.instantiable y.cls n).before a0 Z = true) (w2 : (Jvm.Cond.privateMethod y).before a0 Z = true) (w6 : (Jvm.Cond.instanceMethod y).before a0 Z = true) (hy : y.cls ≠ "java/lang/invoke/MethodHandle" ∧ y.cls ≠ "java/lang/invoke/VarHandle") : (Jvm.Cond.selects y.cls y y).before a0 Z = true := by
  obtain ⟨c, k, g1, g2, g3, g4, -⟩ := Cond.instantiable_spec wi
  exact Jvm.Stand.selects_self_of_private g1 g2 (by cases hi : k.isInterface with
    | false => rfl
    | true => simp [hi] at g4) (Cond.privateMethod_at w2) w6 hy
/-- a static that holds an object of one class, out of the case's words -/
theorem sta_exa {C n d K : String} (w1 : (Jvm.Cond.initialized C).before a0 Z = true) (w2 : (Jvm.Cond.laysStatic C n d).before a0 Z = true) (hx : (Jvm.Cond.exactly (Jvm.Term.static C n d) K).value a0 Z none Z [] = some true) :
    ∃ a, (Jvm.Term.static C n d).eval a0 Z none [] Z = some (.ref a) ∧ Sta Z Z.heap C n d (.ref a) ∧ Exa Z Z.heap a K := by
  obtain ⟨a, ev⟩ := exa_v hx
  exact ⟨a, ev, Sta.start ev (Or.inr ⟨w1, w2⟩), Exa.start ev hx⟩
theorem fld_int {t : Jvm.Term} {a : Addr} {C n d : String} {k : Int32} (ev : t.eval a0 Z none [] Z = some (.ref a)) (hq : (Jvm.Cond.eq (Jvm.Term.field t C n d) (Jvm.Term.int k)).value a0 Z none Z [] = some true) : Fld Z Z.heap a C n d (.int k) := by
  refine Fld.start ?_
  have e1 : (Jvm.Term.field t C n d).eval a0 Z none [] Z = Z.fieldOf? a C n d := fld_at ev
  have e2 : (Jvm.Term.int k).eval a0 Z none [] Z = some (.int k) := Term.int_eval k
  simp only [Cond.value, e1, e2] at hq
  cases hf : Z.fieldOf? a C n d with
  | none => simp [hf] at hq
  | some x => cases x <;> simp [hf] at hq ⊢; exact hq
end Own
section OwnStr
variable {p : Program} {l : Launch} {e : Env} {R : Room} {s : State} {args : Array Value} {below : List Frame} {Z : State} {a0 : Array Value} {h h' : Heap} {x t y t' a b : Addr} {kb kb' kC : ClassId} {cs ds : List Int32}
/-- a String of Latin-1 signs, its byte[] at t -/
def Str (Z : State) (h : Heap) (x t : Addr) (kb : ClassId) (cs : List Int32) : Prop := Exa Z h x "java/lang/String" ∧ Fld Z h x "java/lang/String" "value" "[B" (.ref t) ∧ Fld Z h x "java/lang/String" "coder" "B" (.int 0) ∧ Arv Z h t kb .byte (Int32.ofNat cs.length) ((cs.map fun c => c.toInt8.toInt32).map Value.int) (.int 0)
theorem Str.ext (F : Str Z h x t kb cs) (E : Ext h h') : Str Z h' x t kb cs := ⟨F.1.ext E, F.2.1.ext E, F.2.2.1.ext E, F.2.2.2.ext E⟩
theorem Str.keep {ws : List Addr} (F : Str Z h x t kb cs) (K : Keep h h' ws) (q1 : x ∉ ws) (q2 : t ∉ ws) : Str Z h' x t kb cs := ⟨F.1.keep K, F.2.1.keep K q1, F.2.2.1.keep K q1, F.2.2.2.keep K q2⟩
theorem Str.other {sl : Nat} {v : Value} (F : Str Z h x t kb cs) (W : Wr h h' a sl v) (q1 : x ≠ a) (q2 : t ≠ a) : Str Z h' x t kb cs := ⟨F.1.wr W, F.2.1.other W (Or.inl q1), F.2.2.1.other W (Or.inl q1), F.2.2.2.other W q2⟩
def In8 (cs : List Int32) : Prop := ∀ c ∈ cs, ¬ c < 0 ∧ ¬ (255 : Int32) < c
theorem In8.w (H : In8 cs) : ∀ c ∈ cs, ¬ c < 0 ∧ ¬ (65535 : Int32) < c := fun c hc => ⟨(H c hc).1, fun q => (H c hc).2 (by
  rw [Int32.lt_iff_toInt_lt] at *
  have k1 : (65535 : Int32).toInt = 65535 := by decide
  have k2 : (255 : Int32).toInt = 255 := by decide
  omega)⟩
theorem In8.nil : In8 [] := fun _ q => nomatch q
theorem In8.cons {c : Int32} (hc : ¬ c < 0 ∧ ¬ (255 : Int32) < c) (H : In8 cs) : In8 (c :: cs) := fun d hd => (List.mem_cons.mp hd).elim (fun q => q ▸ hc) (H d)
def QPure (r : Value) (h : Heap) (n0 : Nat) (v : Option Value) (h' : Heap) (L : List Loc) : Prop := v = some r ∧ Fr n0 L ∧ h' = h
theorem cod8 (H : In8 cs) : StrChars.Road.CodA cs 0 (Int32.ofNat cs.length) ((cs.map fun c => c.toInt8.toInt32).map Value.int) := StrChars.Road.codOf rfl (fun c hc => (H c hc).2)
theorem subNew : ∀ d ∈ StrChars.Road.words, d ∈ tables_1 := by decide +kernel
def QNew (Z : State) (x : Addr) (cs : List Int32) (h : Heap) (n0 : Nat) (v : Option Value) (h' : Heap) (L : List Loc) : Prop := v = none ∧ Fr n0 L ∧ Keep h h' [x] ∧ ∃ (t : Addr) (kb : ClassId), n0 ≤ t ∧ h.size ≤ t ∧ t ≠ x ∧ Str Z h' x t kb cs
theorem payNew (hZ : Z.Warmed39 s.vm) (hw : ∀ d ∈ tables_1, d.before a0 Z = true) {W n n0 : Nat} {N z : Int32} {d v0 c0 : Value} (wi : (Jvm.Cond.instantiable "java/lang/String" 4).before a0 Z = true) (O : Old Z n0 h) (gx : n0 ≤ x) (E : Exa Z h x "java/lang/String") (V : Fld Z h x "java/lang/String" "value" "[B" v0) (C : Fld Z h x "java/lang/String" "coder" "B" c0)
    (K : Arv Z h b kC .char N (cs.map Value.int) d) (S : Sta Z Z.heap "java/lang/String" "COMPACT_STRINGS" "Z" (.int z)) (hz : ¬ z = 0) (hn : cs.length = n) (hN : N = Int32.ofNat n) (l0 : 0 < n) (l2 : n ≤ 4000) (hp : In8 cs) (hfr : 4 ≤ R.frames) (hlo : W + 65 ≤ R.locals) :
    Pay l R p e below s args (⟨"java/lang/String", "<init>", "([C)V"⟩ : MethodName) 3 W #[.ref x, .ref b] h (QNew Z x cs h n0) 1 n := by
  refine Back.mono (StrChars.Road.backV (W := W) hZ (fun d hd => hw d (subNew d hd)) (kI := 4) wi (bs := cs.map fun c => c.toInt8.toInt32) (n0 := n0) gx (old_sz O) E V C K (S.ext O.2) hz hn hN l0 l2 hp rfl hfr hlo) (fun _ _ q => q) (fun P a v B _ hq => ?_)
  obtain ⟨L, ⟨q1, q2, q3, q4, q5, t, kb, q6, q7, q8, q9, q10⟩, r⟩ := hq
  subst hn hN
  exact ⟨L, ⟨q1, q2, q3, t, kb, q6, q7, q8, q4, q9, q5, q10⟩, r⟩
theorem subEq : ∀ d ∈ StrChars.Road.wordsEq, d ∈ tables_1 := by decide +kernel
theorem payEq (hZ : Z.Warmed39 s.vm) (hw : ∀ d ∈ tables_1, d.before a0 Z = true) {W n0 : Nat} {z : Int32} (wi : (Jvm.Cond.instantiable "java/lang/String" 4).before a0 Z = true) (O : Old Z n0 h) (F : Str Z h x t kb cs) (H : In8 cs) (l2 : cs.length ≤ 4000) (F' : Str Z h y t' kb' ds) (H' : In8 ds) (l2' : ds.length ≤ 4000)
    (S : Sta Z Z.heap "java/lang/String" "COMPACT_STRINGS" "Z" (.int z)) (hz : ¬ z = 0) (hfr : 2 ≤ R.frames) (hlo : W + 28 ≤ R.locals) :
    Pay l R p e below s args (⟨"java/lang/String", "equals", "(Ljava/lang/Object;)Z"⟩ : MethodName) 3 W #[.ref x, .ref y] h (QPure (.int (if cs = ds then 1 else 0)) h n0) 0 0 := by
  refine Back.mono (StrChars.Road.eqW (W := W) hZ (fun d hd => hw d (subEq d hd)) (kI := 4) wi F.1 F.2.1 F.2.2.1 F.2.2.2 (cod8 H) H.w l2 F'.1 F'.2.1 F'.2.2.1 F'.2.2.2 (cod8 H') H'.w l2' (S.ext O.2) hz hfr hlo) (fun _ _ q => q) (fun P a v B _ hq => ?_)
  obtain ⟨L, ⟨q1, q2, q3⟩, r⟩ := hq
  refine ⟨L, ⟨?_, q2 ▸ Fr.nil n0, q3⟩, r⟩
  rcases q1 with ⟨q, k⟩ | ⟨q, k⟩
  · rw [q, if_pos k]
  · rw [q, if_neg k]
end OwnStr
section OwnS
variable {p : Program} {l : Launch} {e : Env} {R : Room} {s : State} {m : MethodId} {args : Array Value} {below : List Frame} {meth : Method} {c : Code} {T : State} {locs : List Loc} {cells slots : Nat} {Z : State} {a0 : Array Value} {h h0 : Heap} {EL : List (String × Nat)} {vm0 : Vm} {k0 : Nat} {SFL : List Addr}
/-- the end of a body that may load constants: over the true start s -/
def EndsS (Z : State) (EL : List (String × Nat)) (s : State) (Q : Option Value → Heap → List Loc → Prop) (k n : Nat) (o : Outcome) (U : State) : Prop := ∃ v L, o = .returned v ∧ Q v U.heap L ∧ CHr Z EL s.vm s.heap U.vm U.heap ∧ ReturnedEndW s o U L k n
def MeetsS (l : Launch) (y : MethodName) (bytes : ByteArray) (maxL : Nat) (ret : Option FieldType) (ws : List Jvm.Cond) (rm : Room) (Z : State) (EL : List (String × Nat)) (SFL : List Addr) (as' : Array Value) (h0 : Heap) (Q : Option Value → Heap → List Loc → Prop) (k n : Nat) : Prop :=
  MetFree l y (head1 (Jvm.Cond.code y bytes maxL ret :: ws) rm) (fun a U => a = as' ∧ Z.Warmed39 U.vm ∧ U.heap = h0 ∧ CHv Z EL U.vm h0 ∧ ∀ x ∈ SFL, Safe Z EL U.vm h0 x) (fun _ _ _ _ _ => True) (fun _ U o U' => ∃ v L, o = .returned v ∧ Q v U'.heap L ∧ CHr Z EL U.vm U.heap U'.vm U'.heap ∧ ReturnedEndW U o U' L k n)
theorem enterS {y : MethodName} {bytes : ByteArray} {maxL : Nat} {ret : Option FieldType} {ws : List Jvm.Cond} {rm : Room} {as' : Array Value} {Q : Option Value → Heap → List Loc → Prop} {k n : Nat} {Ls : Array Slot} (pf : plainFor y = true) (ef : ∀ m, entryFrame m as' maxL = mkF m 0 Ls [])
    (body : ∀ (p : Program) (e : Env) (s : State) (m : MethodId) (below : List Frame) (meth : Method) (c : Code) (T : State), p.tables.exec = Jvm.exec → c.code = bytes → c.maxLocals = maxL → s.vm.findClass y.cls = some m.cls → meth.name = y.name → meth.sig.returnType = ret → meth.locks = false → Z.Warmed39 s.vm → Stand p l e rm (s.setVm s.vm) m as' below meth c T [] 0 0 → T.heap = h0 → s.heap = h0 → CHr Z EL s.vm h0 s.vm h0 → s.Since s.vm h0.size → (∀ x ∈ SFL, Safe Z EL s.vm h0 x) → Run p e below (EndsS Z EL s Q k n) (T.setTop (mkF m 0 Ls []))) :
    MeetsS l y bytes maxL ret ws rm Z EL SFL as' h0 Q k n := by
  refine MetFree.of_bodySF pf hisR ?_
  intro p e s m args below meth c s₁ Bd hml0 hP hK
  obtain ⟨rfl, hZ, hh, H, HS⟩ := hP
  obtain ⟨u, o, k1, k2, k3, k4⟩ := body p e s m below meth c s₁ Bd.exec Bd.bytes hml0 (findClass_of_methodNamed Bd.named) (name_of_methodNamed Bd.named Bd.method).1 Bd.returns (BodyLoose.notSynchronized Bd) hZ (Stand.of_body Bd) (by rw [← hh, Bd.state]; rfl) hh (CHr.refl H) ((State.WarmedH.refl s).since _) HS
  exact ⟨u, o, castTop (ef m) k1, k2, k3, k4⟩
theorem backOfSL {y : MethodName} {bytes : ByteArray} {maxL : Nat} {ret : Option FieldType} {rm : Room} {len W : Nat} {as' : Array Value} {Q : Option Value → Heap → List Loc → Prop}
    (hM : MeetsS l y bytes maxL ret [] rm Z EL SFL as' h Q rm.cells rm.slots)
    (hZ : Z.Warmed39 vm0) (wc : (Cond.code y bytes maxL ret).before a0 Z = true) (wz : (Cond.initialized y.cls).before a0 Z = true) (hf : rm.frames + 1 ≤ R.frames) (hl : W + (maxL + 11) + rm.locals ≤ R.locals) (hEL : EW Z a0 EL) (H : CHv Z EL vm0 h) (HS : ∀ x ∈ SFL, x < h.size ∧ Safe Z EL vm0 h x) :
    BackS l R p e below (s.setVm vm0) args y len W (fun A a => a = as' ∧ A.U.heap = h ∧ A.cells + rm.cells ≤ R.cells ∧ A.slots + rm.slots ≤ R.slots)
      (fun A _ v B => ∃ L, Q v B.U.heap L ∧ B.locs = A.locs ++ L ∧ B.cells = A.cells + rm.cells ∧ B.slots = A.slots + rm.slots ∧ CHr Z EL vm0 h B.U.vm B.U.heap) :=
  BackS.of_freeW (bytes := bytes) (maxL := maxL) (ret := ret) (E := fun _ first o t L k n => k = rm.cells ∧ n = rm.slots ∧ (∃ v, o = .returned v ∧ Q v t.heap L) ∧ CHr Z EL first.vm first.heap t.vm t.heap) hM hf hl
    (fun m meth c A a Y hp => have hU : Z.Warmed39 A.U.vm := wtrans (s := s.setVm vm0) hZ Y.warmed
      ⟨by show (Cond.and _ .tt).before a A.U = true; rw [Cond.before_and, mv hU wc]; rfl, mv hU wc, mv hU wz, hp.2.2.1, hp.2.2.2⟩)
    (fun m meth c A a g mk Y hp => ⟨hp.1, wtrans (s := s.setVm vm0) hZ Y.warmed, hp.2.1, (CHv.at Y hZ hEL H).1, fun x hx => (CHv.at Y hZ hEL H).safe (HS x hx).1 (HS x hx).2⟩) (fun _ _ _ _ _ _ _ _ _ => trivial)
    (fun _ _ _ _ ⟨v, L, h1, h2, h3, h4⟩ => ⟨L, _, _, h4, rfl, rfl, ⟨v, h1, h2⟩, h3⟩)
    (fun m meth c A a g mk v t L k n Y hp _ _ ⟨e1, e2, ⟨v', e3, e4⟩, e5⟩ => by
      cases e3; subst e1 e2
      refine ⟨L, e4, rfl, rfl, rfl, (CHv.at Y hZ hEL H).trans ?_⟩
      rw [← hp.2.1]; exact e5)
/-- what the walk knows of the constants at its end -/
theorem chEnd (X : Stand p l e R (s.setVm vm0) m args below meth c T locs cells slots) (hZ : Z.Warmed39 vm0) (hEL : EW Z a0 EL) (eT : T.heap = h) (eS : s.heap = h0) (H : CHr Z EL s.vm h0 vm0 h) : CHr Z EL s.vm s.heap T.vm T.heap := by
  rw [eS, eT]; exact H.trans (CHv.at X hZ hEL H.1)
theorem endNS (X : Stand p l e R (s.setVm vm0) m args below meth c T locs cells slots) (hx : p.tables.exec = Jvm.exec) (hlk : meth.locks = false) (hZ : Z.Warmed39 vm0) (hEL : EW Z a0 EL) (eT : T.heap = h) (eS : s.heap = h0) (H : CHr Z EL s.vm h0 vm0 h) (hS : s.Since vm0 k0) (hk0 : k0 ≤ h.size) {Q : Option Value → Heap → List Loc → Prop} {k n pc : Nat} {Ls : Array Slot} {z : Int32} {rest : List Value} {t : FieldType} (hret : meth.sig.returnType = some t) (ht : t = .boolean ∨ t = .byte ∨ t = .char ∨ t = .short) (hd : decode c.code pc = .ok (.ireturn, 1)) (hq : Q (some (.int (nar t z))) T.heap locs) (hk : cells ≤ k) (hn : slots ≤ n) :
    Run p e below (EndsS Z EL s Q k n) (T.setTop (mkF m pc Ls (.int z :: rest))) := by
  obtain ⟨fs, hr, hrun, hended, hW⟩ := (smono X hk hn).leaveW hS (eT ▸ hk0) (v := some (.int (nar t z))) (fun h => by rw [hret] at h; cases h) hlk
  exact ⟨_, _, retN X hx hret ht hd hr, hrun, hended, _, _, rfl, hq, (chEnd X hZ hEL eT eS H : CHr Z EL s.vm s.heap T.vm T.heap), hW⟩
theorem endVS (X : Stand p l e R (s.setVm vm0) m args below meth c T locs cells slots) (hx : p.tables.exec = Jvm.exec) (hlk : meth.locks = false) (hZ : Z.Warmed39 vm0) (hEL : EW Z a0 EL) (eT : T.heap = h) (eS : s.heap = h0) (H : CHr Z EL s.vm h0 vm0 h) (hS : s.Since vm0 k0) (hk0 : k0 ≤ h.size) {Q : Option Value → Heap → List Loc → Prop} {k n pc : Nat} {Ls : Array Slot} (hret : meth.sig.returnType = none) (hd : decode c.code pc = .ok (.return_, 1)) (hq : Q none T.heap locs) (hk : cells ≤ k) (hn : slots ≤ n) :
    Run p e below (EndsS Z EL s Q k n) (T.setTop (mkF m pc Ls [])) := by
  obtain ⟨fs, hr, hrun, hended, hW⟩ := (smono X hk hn).leaveW hS (eT ▸ hk0) (v := none) (fun _ => rfl) hlk
  exact ⟨_, _, X.returnOut hx hret hd hr, hrun, hended, _, _, rfl, hq, (chEnd X hZ hEL eT eS H : CHr Z EL s.vm s.heap T.vm T.heap), hW⟩
theorem endAS (X : Stand p l e R (s.setVm vm0) m args below meth c T locs cells slots) (hx : p.tables.exec = Jvm.exec) (hlk : meth.locks = false) (hZ : Z.Warmed39 vm0) (hEL : EW Z a0 EL) (eT : T.heap = h) (eS : s.heap = h0) (H : CHr Z EL s.vm h0 vm0 h) (hS : s.Since vm0 k0) (hk0 : k0 ≤ h.size) {Q : Option Value → Heap → List Loc → Prop} {k n pc : Nat} {Ls : Array Slot} {w : Value} {rest : List Value} {t : FieldType} (hret : meth.sig.returnType = some t) (ht : t.isReference = true) (hv : w.isRef = true) (hd : decode c.code pc = .ok (.areturn, 1)) (hq : Q (some w) T.heap locs) (hk : cells ≤ k) (hn : slots ≤ n) :
    Run p e below (EndsS Z EL s Q k n) (T.setTop (mkF m pc Ls (w :: rest))) := by
  obtain ⟨fs, hr, hrun, hended, hW⟩ := (smono X hk hn).leaveW hS (eT ▸ hk0) (v := some w) (fun h => by rw [hret] at h; cases h) hlk
  have hn' : narrow t w = w := by cases w <;> first | (cases hv; done) | (cases t <;> first | rfl | (cases ht; done))
  exact ⟨_, _, retOut X hx hret hn' (Or.inr (Or.inr (Or.inr (Or.inr ⟨rfl, ht, hv⟩)))) hd hr, hrun, hended, _, _, rfl, hq, (chEnd X hZ hEL eT eS H : CHr Z EL s.vm s.heap T.vm T.heap), hW⟩
/-- ldc of a constant that is held: what it holds is read -/
theorem goLdc {own text : String} {index : Nat} {ds : List Int32} {A : Outcome → State → Prop} (X : Stand p l e R (s.setVm vm0) m args below meth c T locs cells slots) (hx : p.tables.exec = Jvm.exec) (hZ : Z.Warmed39 vm0) (hown : vm0.findClass own = some m.cls) (w : (Cond.stringLink own index text).before a0 Z = true) (wS : ∀ a ∈ Bundle.stringAtoms, a.before a0 Z = true)
    (eT : T.heap = h) (hS : s.Since vm0 k0) (hk : k0 ≤ h.size) (hEL : EW Z a0 EL) (hmem : (own, index) ∈ EL) (H : CHr Z EL s.vm h0 vm0 h) (ht : (∀ c ∈ text.toList, c.toNat < 256) ∧ text.toList.map (fun c => Value.int (Jvm.Lit.byteI c.toNat.toUInt16)) = (ds.map fun c => c.toInt8.toInt32).map Value.int) (hz : ¬ (Int32.ofNat ds.length) < 0) (hl : (Int32.ofNat ds.length).toNatClampNeg = ds.length)
    {pc : Nat} {Ls : Array Slot} {st : List Value} (hd : decode c.code pc = .ok (.ldc index, 2)) {n : Nat} (hn : 4 * text.toList.length ≤ n) (hbig : n ≤ 536870912) (hc : cells + 2 ≤ R.cells) (hl' : slots + (n + 4) ≤ R.slots)
    (kk : ∀ (a b : Addr) (kb : ClassId) (T' : State) (h' : Heap) (k1 : Nat), Stand p l e R (s.setVm T'.vm) m args below meth c T' locs (cells + 2) (slots + (n + 4)) → T'.heap = h' → Ext h h' → s.Since T'.vm k1 → k1 ≤ h'.size → Z.Warmed39 T'.vm → T'.vm.findClass own = some m.cls → Exa Z h' a "java/lang/String" → Fld Z h' a "java/lang/String" "coder" "B" (.int 0) → Fld Z h' a "java/lang/String" "value" "[B" (.ref b) → Arv Z h' b kb .byte (Int32.ofNat ds.length) ((ds.map fun c => c.toInt8.toInt32).map Value.int) (.int 0) → CHr Z EL s.vm h0 T'.vm h' → CHr Z EL vm0 h T'.vm h' → (∀ x, Safe Z EL T'.vm h' x → x ≠ a ∧ x ≠ b) → Run p e below A (T'.setTop (mkF m (pc + 2) Ls (.ref a :: st)))) : Run p e below A (T.setTop (mkF m pc Ls st)) := by
  obtain ⟨a, T', h', k1, b, kb, X', e', E, hS', hk', hZ', hown', q1, q2, q3, q4, -, -, C, -, q5, st'⟩ := ldcCH X hx hZ hown w wS eT hS hk hEL hmem H.1 ht hz (by rw [hl]; simp) (g := mkF m pc Ls st) rfl hd hn hbig hc hl'
  exact go st' (kk a b kb T' h' k1 X' e' E hS' hk' hZ' hown' q1 q2 q3 q4 (H.trans C) C q5)
theorem callStS {own : String} {index : Nat} {y : MethodName} {bytes : ByteArray} {maxL : Nat} {ret : Option FieldType} {rm : Room} {Q : Option Value → Heap → List Loc → Prop} (X : Stand p l e R (s.setVm vm0) m args below meth c T locs cells slots) (hx : p.tables.exec = Jvm.exec) (hZ : Z.Warmed39 vm0) (hown : vm0.findClass own = some m.cls)
    (w1 : (Jvm.Cond.methodLink own index y).before a0 Z = true) (w2 : (Jvm.Cond.static y).before a0 Z = true) (w3 : (Jvm.Cond.initialized y.cls).before a0 Z = true) (w4 : (Jvm.Cond.code y bytes maxL ret).before a0 Z = true) (hy : y.cls ≠ "java/lang/invoke/MethodHandle" ∧ y.cls ≠ "java/lang/invoke/VarHandle") (eT : T.heap = h) (hS : s.Since vm0 k0) (hk : k0 ≤ h.size) (hEL : EW Z a0 EL) (H : CHr Z EL s.vm h0 vm0 h) {argsL rest : List Value}
    (HS : ∀ x ∈ SFL, x < h.size ∧ Safe Z EL vm0 h x) (hM : MeetsS l y bytes maxL ret [] rm Z EL SFL argsL.toArray h Q rm.cells rm.slots) {W : Nat} (hf : rm.frames + 1 ≤ R.frames) (hl : W + (maxL + 11) + rm.locals ≤ R.locals) (hc : cells + rm.cells ≤ R.cells) (hn : slots + rm.slots ≤ R.slots)
    {pc : Nat} {Ls : Array Slot} {st : List Value} (hsize : Ls.size = c.maxLocals) (hlen : ∀ sig, parseMethodDescriptor y.desc = some sig → argsL.length = sig.parameters.length) (hst : st = argsL.reverse ++ rest) (hW : (rest.map fun v => v.category).sum ≤ W) (hd : decode c.code pc = .ok (.invokestatic index, 3)) {A : Outcome → State → Prop}
    (kk : ∀ (v : Option Value) (T' : State) (L : List Loc) (h' : Heap) (k1 : Nat), Stand p l e R (s.setVm T'.vm) m args below meth c T' (locs ++ L) (cells + rm.cells) (slots + rm.slots) → T'.heap = h' → s.Since T'.vm k1 → k1 ≤ h'.size → Z.Warmed39 T'.vm → T'.vm.findClass own = some m.cls → CHr Z EL s.vm h0 T'.vm h' → CHr Z EL vm0 h T'.vm h' → Q v h' L → Run p e below A (T'.setTop (mkF m (pc + 3) Ls (v.toList ++ rest)))) : Run p e below A (T.setTop (mkF m pc Ls st)) := by
  obtain ⟨v, _, ⟨T18, L18, k18, n18⟩, -, X18, S18, g18, ⟨Lc18, hQ18, l18, y18, z18, C18⟩, st18⟩ := callSS X hx hown (mvT (s := s.setVm vm0) hZ w1) (mvT (s := s.setVm vm0) hZ w2) (mvT (s := s.setVm vm0) hZ w3) (mvT (s := s.setVm vm0) hZ w4) hy (backOfSL (W := W) hM hZ w4 w3 hf hl hEL H.1 HS) (g := mkF m pc Ls st) rfl hsize (argsL := argsL) (rest := rest) hlen hst (by show 2 * 0 + _ ≤ _; omega) hd (fun _ _ => ⟨rfl, eT, hc, hn⟩)
  dsimp only [Pt.U, Pt.locs, Pt.cells, Pt.slots] at X18 l18 y18 z18 st18 hQ18 S18 g18 C18
  subst l18 y18 z18
  exact goT st18 (kk v _ _ _ _ X18 rfl (foldS (T := T) hS (eT ▸ hk) S18 g18) (Nat.le_refl _) (State.Warmed39.trans (t := s.setVm vm0) hZ S18.1) (by rw [S18.1.alike.findClass]; exact hown) (H.trans C18) C18 hQ18)
theorem callSpS {own : String} {index : Nat} {y : MethodName} (hy1 : y.name = "<init>") {bytes : ByteArray} {maxL : Nat} {rm : Room} {Q : Option Value → Heap → List Loc → Prop} (X : Stand p l e R (s.setVm vm0) m args below meth c T locs cells slots) (hx : p.tables.exec = Jvm.exec) (hZ : Z.Warmed39 vm0) (hown : vm0.findClass own = some m.cls)
    (w1 : (Jvm.Cond.methodLink own index y).before a0 Z = true) (w6 : (Jvm.Cond.instanceMethod y).before a0 Z = true) (w4 : (Jvm.Cond.code y bytes maxL none).before a0 Z = true) (w3 : (Jvm.Cond.initialized y.cls).before a0 Z = true) (hy : y.cls ≠ "java/lang/invoke/MethodHandle" ∧ y.cls ≠ "java/lang/invoke/VarHandle") (eT : T.heap = h) (hS : s.Since vm0 k0) (hk : k0 ≤ h.size) (hEL : EW Z a0 EL) (H : CHr Z EL s.vm h0 vm0 h) {a : Addr} {argsL rest : List Value}
    (HS : ∀ x ∈ SFL, x < h.size ∧ Safe Z EL vm0 h x) (hM : MeetsS l y bytes maxL none [] rm Z EL SFL (.ref a :: argsL).toArray h Q rm.cells rm.slots) {W : Nat} (hf : rm.frames + 1 ≤ R.frames) (hl : W + (maxL + 11) + rm.locals ≤ R.locals) (hc : cells + rm.cells ≤ R.cells) (hn : slots + rm.slots ≤ R.slots)
    {pc : Nat} {Ls : Array Slot} {st : List Value} (hsize : Ls.size = c.maxLocals) (hlen : ∀ sig, parseMethodDescriptor y.desc = some sig → argsL.length = sig.parameters.length) (hst : st = argsL.reverse ++ .ref a :: rest) (hW : (rest.map fun v => v.category).sum ≤ W) (hd : decode c.code pc = .ok (.invokespecial index, 3)) {A : Outcome → State → Prop}
    (kk : ∀ (v : Option Value) (T' : State) (L : List Loc) (h' : Heap) (k1 : Nat), Stand p l e R (s.setVm T'.vm) m args below meth c T' (locs ++ L) (cells + rm.cells) (slots + rm.slots) → T'.heap = h' → s.Since T'.vm k1 → k1 ≤ h'.size → Z.Warmed39 T'.vm → T'.vm.findClass own = some m.cls → CHr Z EL s.vm h0 T'.vm h' → CHr Z EL vm0 h T'.vm h' → Q v h' L → Run p e below A (T'.setTop (mkF m (pc + 3) Ls (v.toList ++ rest)))) : Run p e below A (T.setTop (mkF m pc Ls st)) := by
  obtain ⟨v, _, ⟨T18, L18, k18, n18⟩, -, X18, S18, g18, ⟨Lc18, hQ18, l18, y18, z18, C18⟩, st18⟩ := X.specialBackS hx hy1 hown (mvT (s := s.setVm vm0) hZ w1) (mvT (s := s.setVm vm0) hZ w6) (mvT (s := s.setVm vm0) hZ w4) hy (backOfSL (W := W) hM hZ w4 w3 hf hl hEL H.1 HS) (g := mkF m pc Ls st) rfl hsize (Steps.refl _) (a := a) (argsL := argsL) (rest := rest) hlen hst (by show 2 * 0 + _ ≤ _; omega) hd (fun _ _ => ⟨rfl, eT, hc, hn⟩)
  dsimp only [Pt.U, Pt.locs, Pt.cells, Pt.slots] at X18 l18 y18 z18 st18 hQ18 S18 g18 C18
  subst l18 y18 z18
  exact goT st18 (kk v _ _ _ _ X18 rfl (foldS (T := T) hS (eT ▸ hk) S18 g18) (Nat.le_refl _) (State.Warmed39.trans (t := s.setVm vm0) hZ S18.1) (by rw [S18.1.alike.findClass]; exact hown) (H.trans C18) C18 hQ18)
theorem callViS {own C : String} {index : Nat} {y z : MethodName} {bytes : ByteArray} {maxL : Nat} {ret : Option FieldType} {rm : Room} {Q : Option Value → Heap → List Loc → Prop} (X : Stand p l e R (s.setVm vm0) m args below meth c T locs cells slots) (hx : p.tables.exec = Jvm.exec) (hZ : Z.Warmed39 vm0) (hown : vm0.findClass own = some m.cls)
    (w1 : (Jvm.Cond.methodLink own index y).before a0 Z = true) (w2 : (Jvm.Cond.declares y).before a0 Z = true) (nf : NotFace (s.setVm vm0) y) (w5 : (Jvm.Cond.selects C y z).before a0 Z = true) (w6 : (Jvm.Cond.instanceMethod z).before a0 Z = true) (w4 : (Jvm.Cond.code z bytes maxL ret).before a0 Z = true) (w3 : (Jvm.Cond.initialized z.cls).before a0 Z = true) (hy : y.cls ≠ "java/lang/invoke/MethodHandle" ∧ y.cls ≠ "java/lang/invoke/VarHandle") (eT : T.heap = h) (hS : s.Since vm0 k0) (hk : k0 ≤ h.size) (hEL : EW Z a0 EL) (H : CHr Z EL s.vm h0 vm0 h) {a : Addr} (E : Exa Z h a C) {argsL rest : List Value}
    (HS : ∀ x ∈ SFL, x < h.size ∧ Safe Z EL vm0 h x) (hM : MeetsS l z bytes maxL ret [] rm Z EL SFL (.ref a :: argsL).toArray h Q rm.cells rm.slots) {W : Nat} (hf : rm.frames + 1 ≤ R.frames) (hl : W + (maxL + 11) + rm.locals ≤ R.locals) (hc : cells + rm.cells ≤ R.cells) (hn : slots + rm.slots ≤ R.slots)
    {pc : Nat} {Ls : Array Slot} {st : List Value} (hsize : Ls.size = c.maxLocals) (hlen : ∀ sig, parseMethodDescriptor y.desc = some sig → argsL.length = sig.parameters.length) (hst : st = argsL.reverse ++ .ref a :: rest) (hW : (rest.map fun v => v.category).sum ≤ W) (hd : decode c.code pc = .ok (.invokevirtual index, 3)) {A : Outcome → State → Prop}
    (kk : ∀ (v : Option Value) (T' : State) (L : List Loc) (h' : Heap) (k1 : Nat), Stand p l e R (s.setVm T'.vm) m args below meth c T' (locs ++ L) (cells + rm.cells) (slots + rm.slots) → T'.heap = h' → s.Since T'.vm k1 → k1 ≤ h'.size → Z.Warmed39 T'.vm → T'.vm.findClass own = some m.cls → CHr Z EL s.vm h0 T'.vm h' → CHr Z EL vm0 h T'.vm h' → Q v h' L → Run p e below A (T'.setTop (mkF m (pc + 3) Ls (v.toList ++ rest)))) : Run p e below A (T.setTop (mkF m pc Ls st)) := by
  obtain ⟨cq, kq, qa, qb, qc⟩ := isOf (s := s.setVm vm0) hZ eT E
  obtain ⟨v, _, ⟨T18, L18, k18, n18⟩, -, X18, S18, g18, ⟨Lc18, hQ18, l18, y18, z18, C18⟩, st18⟩ := X.virtualBackS hx (y := y) (z := z) hown (mvT (s := s.setVm vm0) hZ w1) (mvT (s := s.setVm vm0) hZ w2) nf (mvT (s := s.setVm vm0) hZ w5) (mvT (s := s.setVm vm0) hZ w6) hy (backOfSL (W := W) hM hZ w4 w3 hf hl hEL H.1 HS) qa qc (g := mkF m pc Ls st) rfl hsize (Steps.refl _) (argsL := argsL) (rest := rest) hlen hst (by show 2 * 0 + _ ≤ _; omega) hd (fun _ _ => ⟨rfl, eT, hc, hn⟩)
  dsimp only [Pt.U, Pt.locs, Pt.cells, Pt.slots] at X18 l18 y18 z18 st18 hQ18 S18 g18 C18
  subst l18 y18 z18
  exact goT st18 (kk v _ _ _ _ X18 rfl (foldS (T := T) hS (eT ▸ hk) S18 g18) (Nat.le_refl _) (State.Warmed39.trans (t := s.setVm vm0) hZ S18.1) (by rw [S18.1.alike.findClass]; exact hown) (H.trans C18) C18 hQ18)
theorem wr_sz {h h' : Heap} {a : Addr} {sl : Nat} {v : Value} (W : Wr h h' a sl v) : h.size ≤ h'.size := by obtain ⟨c0, -, -, -, rfl⟩ := W; simp
theorem subStr : ∀ d ∈ Bundle.stringAtoms, d ∈ tables_1 := by decide +kernel
end OwnS
theorem d_j42_m149_0 : decode jdk_42_method_149_code 0 = .ok (.aload_n 0, 1) := by decide +kernel
theorem d_j42_m149_1 : decode jdk_42_method_149_code 1 = .ok (.invokespecial 1, 3) := by decide +kernel
theorem d_j42_m149_4 : decode jdk_42_method_149_code 4 = .ok (.iload_n 3, 1) := by decide +kernel
theorem d_j42_m149_5 : decode jdk_42_method_149_code 5 = .ok (.ifCond .ne 22, 3) := by decide +kernel
theorem d_j42_m149_8 : decode jdk_42_method_149_code 8 = .ok (.aload_n 0, 1) := by decide +kernel
theorem d_j42_m149_9 : decode jdk_42_method_149_code 9 = .ok (.ldc 7, 2) := by decide +kernel
theorem d_j42_m149_11 : decode jdk_42_method_149_code 11 = .ok (.getfield 9, 3) := by decide +kernel
theorem d_j42_m149_14 : decode jdk_42_method_149_code 14 = .ok (.putfield 9, 3) := by decide +kernel
theorem d_j42_m149_17 : decode jdk_42_method_149_code 17 = .ok (.aload_n 0, 1) := by decide +kernel
theorem d_j42_m149_18 : decode jdk_42_method_149_code 18 = .ok (.ldc 7, 2) := by decide +kernel
theorem d_j42_m149_20 : decode jdk_42_method_149_code 20 = .ok (.getfield 15, 3) := by decide +kernel
theorem d_j42_m149_23 : decode jdk_42_method_149_code 23 = .ok (.putfield 15, 3) := by decide +kernel
theorem d_j42_m149_26 : decode jdk_42_method_149_code 26 = .ok (.return_, 1) := by decide +kernel
theorem pn_0 : plainName "java/lang/String" = true := by first | (simp [plainName, overriddenIn]; done) | decide +kernel
def Q_rm_e4 (Z : State) (x b : Addr) (h0 : Heap) (n0 : Nat) (v : Option Value) (h : Heap) (L : List Loc) : Prop := v = none ∧ Fr n0 L ∧ Keep h0 h [x] ∧ ∃ (t : Addr) (kb : ClassId), Str Z h x t kb []
set_option maxRecDepth 65536 in
set_option maxHeartbeats 40000000 in
theorem rm_e4 (l : Launch) (Z : State) (a0 : Array Value) (hw : ∀ d ∈ tables_1, d.before a0 Z = true) (ws : List Jvm.Cond) (x b : Addr) (h0 : Heap) (n0 : Nat) (O0 : Old Z n0 h0) (hEL : EW Z a0 consts_1) (E_x : Exa Z h0 x "java/lang/String") (F_value_x : Fld Z h0 x "java/lang/String" "value" "[B" .null) (F_coder_x : Fld Z h0 x "java/lang/String" "coder" "B" (.int (0 : Int32))) (g_x : n0 ≤ x) :
    MeetsS l (⟨"java/lang/String", "<init>", "([CIILjava/lang/Void;)V"⟩ : MethodName) jdk_42_method_149_code 6 none ws ({ frames := 1, cells := 4, slots := 8, locals := 12 } : Room) Z consts_1 [x] #[(.ref x), (.ref b), (.int (0 : Int32)), (.int (0 : Int32)), .null] h0 (Q_rm_e4 Z x b h0 n0) 4 8 := by
  refine enterS (Ls := #[.val (.ref x), .val (.ref b), .val (.int (0 : Int32)), .val (.int (0 : Int32)), .val .null, .unset]) (plainFor_of_name pn_0) (fun m => by first | (simp [entryFrame, mkF, argsToLocals, Value.category]; done) | rfl) ?_
  intro p e s m below meth c T0 hx hby hml hown hnm hret hlk hZ X0 e0 eS CH hS HS
  have N0 := Fr.nil n0
  replace hown : s.vm.findClass "java/lang/String" = some m.cls := hown
  show Run p e below _ (T0.setTop (mkF m 0 #[.val (.ref x), .val (.ref b), .val (.int (0 : Int32)), .val (.int (0 : Int32)), .val .null, .unset] []))
  have hk : h0.size ≤ h0.size := Nat.le_refl _
  have SF_x : Safe Z consts_1 s.vm h0 x := HS x (by simp)
  have K0 := Keep.refl h0 [x]
  refine go (fun _ => XS.aloadN X0.here hx rfl (hb hby d_j42_m149_0) rfl rfl) ?_
  show Run p e below _ (T0.setTop (mkF m 1 #[.val (.ref x), .val (.ref b), .val (.int (0 : Int32)), .val (.int (0 : Int32)), .val .null, .unset] [(.ref x)]))
  obtain ⟨T1, X1, e1, st1⟩ := initO X0 hx hZ hown (wd hw 20 rfl) (wd hw 21 rfl) (wd hw 22 rfl) e0 (g := (mkF m 1 #[.val (.ref x), .val (.ref b), .val (.int (0 : Int32)), .val (.int (0 : Int32)), .val .null, .unset] [(.ref x)])) rfl (by rw [hml]; rfl) rfl (hb hby d_j42_m149_1) (by decide) (W := 0) (by show 2 * 0 + _ ≤ _; exact Nat.le_of_eq rfl) (by decide)
  refine go st1 ?_
  show Run p e below _ (T1.setTop (mkF m 4 #[.val (.ref x), .val (.ref b), .val (.int (0 : Int32)), .val (.int (0 : Int32)), .val .null, .unset] []))
  refine go (fun _ => XS.iloadN X1.here hx rfl (hb hby d_j42_m149_4) rfl) ?_
  show Run p e below _ (T1.setTop (mkF m 5 #[.val (.ref x), .val (.ref b), .val (.int (0 : Int32)), .val (.int (0 : Int32)), .val .null, .unset] [(.int (0 : Int32))]))
  refine go (fun _ => XS.ifNo X1.here hx rfl (hb hby d_j42_m149_5) rfl ((if0 _ _).trans (teq (by decide : (0 : Int32) = 0)).2)) ?_
  show Run p e below _ (T1.setTop (mkF m 8 #[.val (.ref x), .val (.ref b), .val (.int (0 : Int32)), .val (.int (0 : Int32)), .val .null, .unset] []))
  refine go (fun _ => XS.aloadN X1.here hx rfl (hb hby d_j42_m149_8) rfl rfl) ?_
  show Run p e below _ (T1.setTop (mkF m 9 #[.val (.ref x), .val (.ref b), .val (.int (0 : Int32)), .val (.int (0 : Int32)), .val .null, .unset] [(.ref x)]))
  have lt3_x := E_x.lt
  refine goLdc (text := "") (ds := ([] : List Int32)) X1 hx hZ hown (wd hw 61 rfl) (fun d hd => hw d (subStr d hd)) e1 hS hk hEL (by decide) CH ⟨by decide, by decide⟩ (by decide) (by decide) (n := 0) (hb hby d_j42_m149_9) (by decide) (by decide) (by decide) (by decide) ?_
  intro b2 t2 kb2 T2 h2 k2 X2 e2 E2 hS hk hZ hown Ea2 Fc2 Fv2 Va2 CH' D2 sf2
  have SF_x := CHr.safe D2 lt3_x SF_x
  have O0 := O0.ext E2
  have E_x := E_x.ext E2
  have F_value_x := F_value_x.ext E2
  have F_coder_x := F_coder_x.ext E2
  have K0 := K0.ext E2
  have CH := CH'
  have T_b2 : Str Z h2 b2 t2 kb2 ([] : List Int32) := ⟨Ea2, Fv2, Fc2, Va2⟩
  have ne_x_b2 := (sf2 _ SF_x).1
  have ne_x_t2 := (sf2 _ SF_x).2
  show Run p e below _ (T2.setTop (mkF m 11 #[.val (.ref x), .val (.ref b), .val (.int (0 : Int32)), .val (.int (0 : Int32)), .val .null, .unset] [(.ref b2), (.ref x)]))
  obtain ⟨T4, X4, e4, st4⟩ := getF X2 hx hZ hown (host := "") (Or.inl (wd hw 37 rfl)) Via.refl e2 T_b2.2.1 (g := (mkF m 11 #[.val (.ref x), .val (.ref b), .val (.int (0 : Int32)), .val (.int (0 : Int32)), .val .null, .unset] [(.ref b2), (.ref x)])) rfl rfl (hb hby d_j42_m149_11)
  refine go st4 ?_
  show Run p e below _ (T4.setTop (mkF m 14 #[.val (.ref x), .val (.ref b), .val (.int (0 : Int32)), .val (.int (0 : Int32)), .val .null, .unset] [(.ref t2), (.ref x)]))
  obtain ⟨T5, h5, X5, e5, W5, st5⟩ := putF X4 hx hZ hown (host := "") (Or.inl (wd hw 37 rfl)) Via.refl e4 F_value_x E_x (Or.inr ⟨(wd hw 38 rfl), rfl, hnm⟩) (wd hw 10 rfl) (ty := (.array .byte)) (by decide) rfl rfl (g := (mkF m 14 #[.val (.ref x), .val (.ref b), .val (.int (0 : Int32)), .val (.int (0 : Int32)), .val .null, .unset] [(.ref t2), (.ref x)])) rfl rfl (hb hby d_j42_m149_14)
  have CHo := CH
  have SF_xo := SF_x
  have hk := Nat.le_trans hk (wr_sz W5)
  have SF_x := Safe.wr W5 SF_xo CHo.1 SF_xo
  have CH := CHo.trans (CHr.wr W5 SF_xo CHo.1)
  have O0 := O0.wr W5 g_x
  have E_x := E_x.wr W5
  have F_value_x := F_value_x.same W5
  have F_coder_x := F_coder_x.other W5 (Or.inr (slot_ne (Or.inr (wd hw 36 rfl)) (Or.inr (wd hw 38 rfl)) (by decide) (t := .byte) (t' := (.array .byte)) (by decide) (by decide)))
  have K0 := K0.wr W5 (Or.inl (by simp))
  have T_b2 := T_b2.other W5 (Ne.symm ne_x_b2) (Ne.symm ne_x_t2)
  have N5 := Fr.snoc X5 N0 g_x
  refine go st5 ?_
  show Run p e below _ (T5.setTop (mkF m 17 #[.val (.ref x), .val (.ref b), .val (.int (0 : Int32)), .val (.int (0 : Int32)), .val .null, .unset] []))
  refine go (fun _ => XS.aloadN X5.here hx rfl (hb hby d_j42_m149_17) rfl rfl) ?_
  show Run p e below _ (T5.setTop (mkF m 18 #[.val (.ref x), .val (.ref b), .val (.int (0 : Int32)), .val (.int (0 : Int32)), .val .null, .unset] [(.ref x)]))
  have lt7_x := E_x.lt
  have lt7_b2 := T_b2.1.lt
  have lt7_t2 := T_b2.2.2.2.lt
  refine goLdc (text := "") (ds := ([] : List Int32)) X5 hx hZ hown (wd hw 61 rfl) (fun d hd => hw d (subStr d hd)) e5 hS hk hEL (by decide) CH ⟨by decide, by decide⟩ (by decide) (by decide) (n := 0) (hb hby d_j42_m149_18) (by decide) (by decide) (by decide) (by decide) ?_
  intro b6 t6 kb6 T6 h6 k6 X6 e6 E6 hS hk hZ hown Ea6 Fc6 Fv6 Va6 CH' D6 sf6
  have SF_x := CHr.safe D6 lt7_x SF_x
  have O0 := O0.ext E6
  have E_x := E_x.ext E6
  have F_value_x := F_value_x.ext E6
  have F_coder_x := F_coder_x.ext E6
  have K0 := K0.ext E6
  have T_b2 := T_b2.ext E6
  have CH := CH'
  have T_b6 : Str Z h6 b6 t6 kb6 ([] : List Int32) := ⟨Ea6, Fv6, Fc6, Va6⟩
  have ne_x_b6 := (sf6 _ SF_x).1
  have ne_x_t6 := (sf6 _ SF_x).2
  show Run p e below _ (T6.setTop (mkF m 20 #[.val (.ref x), .val (.ref b), .val (.int (0 : Int32)), .val (.int (0 : Int32)), .val .null, .unset] [(.ref b6), (.ref x)]))
  obtain ⟨T8, X8, e8, st8⟩ := getF X6 hx hZ hown (host := "") (Or.inl (wd hw 35 rfl)) Via.refl e6 T_b6.2.2.1 (g := (mkF m 20 #[.val (.ref x), .val (.ref b), .val (.int (0 : Int32)), .val (.int (0 : Int32)), .val .null, .unset] [(.ref b6), (.ref x)])) rfl rfl (hb hby d_j42_m149_20)
  refine go st8 ?_
  show Run p e below _ (T8.setTop (mkF m 23 #[.val (.ref x), .val (.ref b), .val (.int (0 : Int32)), .val (.int (0 : Int32)), .val .null, .unset] [(.int (0 : Int32)), (.ref x)]))
  obtain ⟨T9, h9, X9, e9, W9, st9⟩ := putFN X8 hx hZ hown (wd hw 35 rfl) Via.refl e8 F_coder_x E_x (Or.inr ⟨(wd hw 36 rfl), rfl, hnm⟩) (wd hw 10 rfl) (ty := .byte) (v' := (.int (nar .byte (0 : Int32)))) (by decide) rfl (fits_nar_byte _) (g := (mkF m 23 #[.val (.ref x), .val (.ref b), .val (.int (0 : Int32)), .val (.int (0 : Int32)), .val .null, .unset] [(.int (0 : Int32)), (.ref x)])) rfl rfl (hb hby d_j42_m149_23)
  have CHo := CH
  have SF_xo := SF_x
  have hk := Nat.le_trans hk (wr_sz W9)
  have SF_x := Safe.wr W9 SF_xo CHo.1 SF_xo
  have CH := CHo.trans (CHr.wr W9 SF_xo CHo.1)
  have O0 := O0.wr W9 g_x
  have E_x := E_x.wr W9
  have F_value_x := F_value_x.other W9 (Or.inr (slot_ne (Or.inr (wd hw 38 rfl)) (Or.inr (wd hw 36 rfl)) (by decide) (t := (.array .byte)) (t' := .byte) (by decide) (by decide)))
  have F_coder_x := F_coder_x.same W9
  have K0 := K0.wr W9 (Or.inl (by simp))
  have T_b2 := T_b2.other W9 (Ne.symm ne_x_b2) (Ne.symm ne_x_t2)
  have T_b6 := T_b6.other W9 (Ne.symm ne_x_b6) (Ne.symm ne_x_t6)
  rw [(show nar .byte (0 : Int32) = (0 : Int32) by decide)] at F_coder_x
  have N9 := Fr.snoc X9 N5 g_x
  refine go st9 ?_
  show Run p e below _ (T9.setTop (mkF m 26 #[.val (.ref x), .val (.ref b), .val (.int (0 : Int32)), .val (.int (0 : Int32)), .val .null, .unset] []))
  exact endVS X9 hx hlk hZ hEL e9 eS CH hS hk hret (hb hby d_j42_m149_26) (by rw [e9]; exact ⟨rfl, N9, K0, t2, kb2, E_x, F_value_x, F_coder_x, T_b2.2.2.2⟩) (by decide) (by decide)
theorem d_j42_m3_0 : decode jdk_42_method_3_code 0 = .ok (.aload_n 0, 1) := by decide +kernel
theorem d_j42_m3_1 : decode jdk_42_method_3_code 1 = .ok (.aload_n 1, 1) := by decide +kernel
theorem d_j42_m3_2 : decode jdk_42_method_3_code 2 = .ok (.iconst 0, 1) := by decide +kernel
theorem d_j42_m3_3 : decode jdk_42_method_3_code 3 = .ok (.aload_n 1, 1) := by decide +kernel
theorem d_j42_m3_4 : decode jdk_42_method_3_code 4 = .ok (.arraylength, 1) := by decide +kernel
theorem d_j42_m3_5 : decode jdk_42_method_3_code 5 = .ok (.aconst_null, 1) := by decide +kernel
theorem d_j42_m3_6 : decode jdk_42_method_3_code 6 = .ok (.invokespecial 27, 3) := by decide +kernel
theorem pd_0 : parseMethodDescriptor "([CIILjava/lang/Void;)V" = some ⟨[(.array .char), .int, .int, (.object "java/lang/Void")], none⟩ := by decide +kernel
theorem d_j42_m3_9 : decode jdk_42_method_3_code 9 = .ok (.return_, 1) := by decide +kernel
def Q_rm_e1 (Z : State) (x b : Addr) (kC : ClassId) (h0 : Heap) (n0 : Nat) (v : Option Value) (h : Heap) (L : List Loc) : Prop := v = none ∧ Fr n0 L ∧ Keep h0 h [x] ∧ ∃ (t : Addr) (kb : ClassId), Str Z h x t kb []
set_option maxRecDepth 65536 in
set_option maxHeartbeats 40000000 in
theorem rm_e1 (l : Launch) (Z : State) (a0 : Array Value) (hw : ∀ d ∈ tables_1, d.before a0 Z = true) (ws : List Jvm.Cond) (x b : Addr) (kC : ClassId) (h0 : Heap) (n0 : Nat) (O0 : Old Z n0 h0) (hEL : EW Z a0 consts_1) (E_x : Exa Z h0 x "java/lang/String") (F_value_x : Fld Z h0 x "java/lang/String" "value" "[B" .null) (F_coder_x : Fld Z h0 x "java/lang/String" "coder" "B" (.int (0 : Int32))) (g_x : n0 ≤ x) (V_b : Arv Z h0 b kC .char (0 : Int32) [] (.int (0 : Int32))) :
    MeetsS l (⟨"java/lang/String", "<init>", "([C)V"⟩ : MethodName) jdk_42_method_3_code 2 none ws ({ frames := 2, cells := 4, slots := 8, locals := 29 } : Room) Z consts_1 [x] #[(.ref x), (.ref b)] h0 (Q_rm_e1 Z x b kC h0 n0) 4 8 := by
  refine enterS (Ls := #[.val (.ref x), .val (.ref b)]) (plainFor_of_name pn_0) (fun m => by first | (simp [entryFrame, mkF, argsToLocals, Value.category]; done) | rfl) ?_
  intro p e s m below meth c T0 hx hby hml hown hnm hret hlk hZ X0 e0 eS CH hS HS
  have N0 := Fr.nil n0
  replace hown : s.vm.findClass "java/lang/String" = some m.cls := hown
  show Run p e below _ (T0.setTop (mkF m 0 #[.val (.ref x), .val (.ref b)] []))
  have hk : h0.size ≤ h0.size := Nat.le_refl _
  have SF_x : Safe Z consts_1 s.vm h0 x := HS x (by simp)
  have K0 := Keep.refl h0 [x]
  refine go (fun _ => XS.aloadN X0.here hx rfl (hb hby d_j42_m3_0) rfl rfl) ?_
  show Run p e below _ (T0.setTop (mkF m 1 #[.val (.ref x), .val (.ref b)] [(.ref x)]))
  refine go (fun _ => XS.aloadN X0.here hx rfl (hb hby d_j42_m3_1) rfl rfl) ?_
  show Run p e below _ (T0.setTop (mkF m 2 #[.val (.ref x), .val (.ref b)] [(.ref b), (.ref x)]))
  refine go (fun _ => XS.iconst X0.here hx rfl (hb hby d_j42_m3_2)) ?_
  show Run p e below _ (T0.setTop (mkF m 3 #[.val (.ref x), .val (.ref b)] [(.int (0 : Int32)), (.ref b), (.ref x)]))
  refine go (fun _ => XS.aloadN X0.here hx rfl (hb hby d_j42_m3_3) rfl rfl) ?_
  show Run p e below _ (T0.setTop (mkF m 4 #[.val (.ref x), .val (.ref b)] [(.ref b), (.int (0 : Int32)), (.ref b), (.ref x)]))
  obtain ⟨cl10, Ar10, ak10, as10, an10, ah10, ag10⟩ := id V_b
  refine go (fun _ => X0.arraylength hx (by rw [e0]; exact Ar10.1) (State.isArrayOf_alike hZ.alike Ar10.2.1) (g := (mkF m 4 #[.val (.ref x), .val (.ref b)] [(.ref b), (.int (0 : Int32)), (.ref b), (.ref x)])) rfl rfl (hb hby d_j42_m3_4) _) ?_
  rw [len_of as10 an10]
  show Run p e below _ (T0.setTop (mkF m 5 #[.val (.ref x), .val (.ref b)] [(.int (0 : Int32)), (.int (0 : Int32)), (.ref b), (.ref x)]))
  refine go (fun _ => XS.aconstNull X0.here hx rfl (hb hby d_j42_m3_5)) ?_
  show Run p e below _ (T0.setTop (mkF m 6 #[.val (.ref x), .val (.ref b)] [.null, (.int (0 : Int32)), (.int (0 : Int32)), (.ref b), (.ref x)]))
  refine callSpS rfl X0 hx hZ hown (wd hw 16 rfl) (wd hw 17 rfl) (wd hw 19 rfl) (wd hw 11 rfl) (by decide) e0 hS hk hEL CH (a := x) (argsL := [(.ref b), (.int (0 : Int32)), (.int (0 : Int32)), .null]) (rest := []) (allS ⟨E_x.lt, SF_x⟩ all0) (rm_e4 l Z a0 hw [] x b h0 n0 O0 hEL E_x F_value_x F_coder_x g_x) (W := 0) (by decide) (by decide) (by decide) (by decide) (by rw [hml]; rfl) (lenOf pd_0 rfl) rfl (Nat.le_of_eq rfl) (hb hby d_j42_m3_6) ?_
  intro v11 T11 L11 h11 k11 X11 e11 hS hk hZ hown CH' D11 q11
  have lt12_x := E_x.lt
  have lt12_b := V_b.lt
  have SF_x := CHr.safe D11 lt12_x SF_x
  have ne_b_x : b ≠ x := Ne.symm (Exa.neArv E_x V_b (wd hw 10 rfl))
  obtain ⟨rfl, n11, K11, t11, kb11, T_x⟩ := q11
  have O0 := O0.keep K11 (allS g_x all0)
  have V_b := V_b.keep K11 (ninS ne_b_x nin0)
  have K0 := K0.trans K11 (allS (Or.inl (by simp)) all0)
  have N11 := Fr.app N0 n11
  have CH := CH'
  show Run p e below _ (T11.setTop (mkF m 9 #[.val (.ref x), .val (.ref b)] []))
  exact endVS X11 hx hlk hZ hEL e11 eS CH hS hk hret (hb hby d_j42_m3_9) (by rw [e11]; exact ⟨rfl, N11, K0, t11, kb11, T_x⟩) (by decide) (by decide)
theorem d_p16_m5_0 : decode prog_16_method_5_code 0 = .ok (.aload_n 0, 1) := by decide +kernel
theorem d_p16_m5_1 : decode prog_16_method_5_code 1 = .ok (.getstatic 7, 3) := by decide +kernel
theorem d_p16_m5_4 : decode prog_16_method_5_code 4 = .ok (.if_acmp .ne 16, 3) := by decide +kernel
theorem d_p16_m5_7 : decode prog_16_method_5_code 7 = .ok (.ldc 68, 2) := by decide +kernel
theorem d_p16_m5_9 : decode prog_16_method_5_code 9 = .ok (.aload_n 1, 1) := by decide +kernel
theorem d_p16_m5_10 : decode prog_16_method_5_code 10 = .ok (.invokevirtual 70, 3) := by decide +kernel
theorem pd_1 : parseMethodDescriptor "(Ljava/lang/Object;)Z" = some ⟨[(.object "java/lang/Object")], some .boolean⟩ := by decide +kernel
theorem d_p16_m5_13 : decode prog_16_method_5_code 13 = .ok (.ifCond .eq 7, 3) := by decide +kernel
theorem d_p16_m5_20 : decode prog_16_method_5_code 20 = .ok (.iconst 0, 1) := by decide +kernel
theorem d_p16_m5_21 : decode prog_16_method_5_code 21 = .ok (.ireturn, 1) := by decide +kernel
theorem d_p16_m5_16 : decode prog_16_method_5_code 16 = .ok (.iconst 1, 1) := by decide +kernel
theorem d_p16_m5_17 : decode prog_16_method_5_code 17 = .ok (.goto 4, 3) := by decide +kernel
theorem pn_1 : plainName "com/example/gridsteward/gridsteward/NameKind" = true := by first | (simp [plainName, overriddenIn]; done) | decide +kernel
def Q_rm_ip1 (zc : Int32) (wr x t : Addr) (kb : ClassId) (cs : List Int32) (h0 : Heap) (n0 : Nat) (v : Option Value) (h : Heap) (L : List Loc) : Prop := v = some (.int (if ([86, 79, 95, 65, 68, 77, 73, 78] : List Int32) = cs then 1 else 0)) ∧ Fr n0 L ∧ Keep h0 h []
set_option maxRecDepth 65536 in
set_option maxHeartbeats 40000000 in
theorem rm_ip1 (l : Launch) (Z : State) (a0 : Array Value) (hw : ∀ d ∈ tables_1, d.before a0 Z = true) (ws : List Jvm.Cond) (zc : Int32) (wr x t : Addr) (kb : ClassId) (cs : List Int32) (h0 : Heap) (n0 : Nat) (O0 : Old Z n0 h0) (hEL : EW Z a0 consts_1) (S_COMPACT_STRINGS : Sta Z Z.heap "java/lang/String" "COMPACT_STRINGS" "Z" (.int zc)) (hzc : ¬ zc = 0) (S_ROLE : Sta Z Z.heap "com/example/gridsteward/gridsteward/NameKind" "ROLE" "Lcom/example/gridsteward/gridsteward/NameKind;" (.ref wr)) (T_x : Str Z h0 x t kb cs) (Hx : In8 cs) (lx : cs.length ≤ 4000) :
    MeetsS l (⟨"com/example/gridsteward/gridsteward/NameKind", "isProtected", "(Ljava/lang/String;)Z"⟩ : MethodName) prog_16_method_5_code 2 (some .boolean) ws ({ frames := 2, cells := 2, slots := 36, locals := 28 } : Room) Z consts_1 [] #[(.ref wr), (.ref x)] h0 (Q_rm_ip1 zc wr x t kb cs h0 n0) 2 36 := by
  refine enterS (Ls := #[.val (.ref wr), .val (.ref x)]) (plainFor_of_name pn_1) (fun m => by first | (simp [entryFrame, mkF, argsToLocals, Value.category]; done) | rfl) ?_
  intro p e s m below meth c T0 hx hby hml hown hnm hret hlk hZ X0 e0 eS CH hS HS
  have N0 := Fr.nil n0
  replace hown : s.vm.findClass "com/example/gridsteward/gridsteward/NameKind" = some m.cls := hown
  show Run p e below _ (T0.setTop (mkF m 0 #[.val (.ref wr), .val (.ref x)] []))
  have hk : h0.size ≤ h0.size := Nat.le_refl _
  have K0 := Keep.refl h0 []
  refine go (fun _ => XS.aloadN X0.here hx rfl (hb hby d_p16_m5_0) rfl rfl) ?_
  show Run p e below _ (T0.setTop (mkF m 1 #[.val (.ref wr), .val (.ref x)] [(.ref wr)]))
  obtain ⟨T13, X13, e13, st13⟩ := getS2 X0 hx hZ hown (host := "") (Or.inl (wd hw 44 rfl)) Via.refl e0 (S_ROLE.ext O0.2) (g := (mkF m 1 #[.val (.ref wr), .val (.ref x)] [(.ref wr)])) rfl (hb hby d_p16_m5_1)
  refine go st13 ?_
  show Run p e below _ (T13.setTop (mkF m 4 #[.val (.ref wr), .val (.ref x)] [(.ref wr), (.ref wr)]))
  refine go (fun _ => acmp X13 hx rfl (x := (.ref wr)) (y := (.ref wr)) rfl rfl (pc0 := 4) (pc' := 7) (same := true) rfl (hb hby d_p16_m5_4) rfl (decide_eq_true rfl) (by decide) (by decide)) ?_
  show Run p e below _ (T13.setTop (mkF m 7 #[.val (.ref wr), .val (.ref x)] []))
  have lt15_x := T_x.1.lt
  have lt15_t := T_x.2.2.2.lt
  refine goLdc (text := "VO_ADMIN") (ds := ([86, 79, 95, 65, 68, 77, 73, 78] : List Int32)) X13 hx hZ hown (wd hw 48 rfl) (fun d hd => hw d (subStr d hd)) e13 hS hk hEL (by decide) CH ⟨by decide, by decide⟩ (by decide) (by decide) (n := 32) (hb hby d_p16_m5_7) (by decide) (by decide) (by decide) (by decide) ?_
  intro b14 t14 kb14 T14 h14 k14 X14 e14 E14 hS hk hZ hown Ea14 Fc14 Fv14 Va14 CH' D14 sf14
  have O0 := O0.ext E14
  have T_x := T_x.ext E14
  have K0 := K0.ext E14
  have CH := CH'
  have T_b14 : Str Z h14 b14 t14 kb14 ([86, 79, 95, 65, 68, 77, 73, 78] : List Int32) := ⟨Ea14, Fv14, Fc14, Va14⟩
  show Run p e below _ (T14.setTop (mkF m 9 #[.val (.ref wr), .val (.ref x)] [(.ref b14)]))
  refine go (fun _ => XS.aloadN X14.here hx rfl (hb hby d_p16_m5_9) rfl rfl) ?_
  show Run p e below _ (T14.setTop (mkF m 10 #[.val (.ref wr), .val (.ref x)] [(.ref x), (.ref b14)]))
  refine callViK X14 hx hZ hown (wd hw 51 rfl) (wd hw 52 rfl) (notFace_of_selects (args := #[]) (mvT hZ (wd hw 54 rfl))) (wd hw 54 rfl) (wd hw 53 rfl) (by decide) e14 T_b14.1 (argsL := [(.ref x)]) (rest := []) (W := 0) (payEq (s := s.setVm T14.vm) (n0 := n0) hZ hw (wd hw 10 rfl) O0 T_b14 (show In8 ([86, 79, 95, 65, 68, 77, 73, 78] : List Int32) by unfold In8; decide) (by decide) T_x Hx lx S_COMPACT_STRINGS hzc (by decide) (by decide)) (by decide) (by decide) (by rw [hml]; rfl) (lenOf pd_1 rfl) rfl (Nat.le_of_eq rfl) (hb hby d_p16_m5_10) ?_
  intro v16 T16 L16 h16 X16 e16 q16
  obtain ⟨rv, n16, k16⟩ := q16
  replace rv : v16 = some (.int (if ([86, 79, 95, 65, 68, 77, 73, 78] : List Int32) = cs then (1 : Int32) else 0)) := rv
  subst rv
  have e16 := e16.trans k16
  have N16 := Fr.app N0 n16
  show Run p e below _ (T16.setTop (mkF m 13 #[.val (.ref wr), .val (.ref x)] [(.int (if ([86, 79, 95, 65, 68, 77, 73, 78] : List Int32) = cs then (1 : Int32) else 0))]))
  by_cases c17 : (if ([86, 79, 95, 65, 68, 77, 73, 78] : List Int32) = cs then (1 : Int32) else 0) = 0
  · skip
    refine go (fun _ => XS.ifYes X16.here hx rfl (pc0 := 13) (pc' := 20) rfl (hb hby d_p16_m5_13) rfl ((if0 _ _).trans (teq c17).1) (by decide) (by decide)) ?_
    show Run p e below _ (T16.setTop (mkF m 20 #[.val (.ref wr), .val (.ref x)] []))
    refine go (fun _ => XS.iconst X16.here hx rfl (hb hby d_p16_m5_20)) ?_
    show Run p e below _ (T16.setTop (mkF m 21 #[.val (.ref wr), .val (.ref x)] [(.int (0 : Int32))]))
    exact endNS X16 hx hlk hZ hEL e16 eS CH hS hk (t := .boolean) hret (by simp) (hb hby d_p16_m5_21) (by rw [e16]; exact ⟨by by_cases q : ([86, 79, 95, 65, 68, 77, 73, 78] : List Int32) = cs <;> simp_all <;> rfl, N16, K0⟩) (by decide) (by decide)
  · skip
    refine go (fun _ => XS.ifNo X16.here hx rfl (hb hby d_p16_m5_13) rfl ((if0 _ _).trans (feq c17).1)) ?_
    show Run p e below _ (T16.setTop (mkF m 16 #[.val (.ref wr), .val (.ref x)] []))
    refine go (fun _ => XS.iconst X16.here hx rfl (hb hby d_p16_m5_16)) ?_
    show Run p e below _ (T16.setTop (mkF m 17 #[.val (.ref wr), .val (.ref x)] [(.int (1 : Int32))]))
    refine go (fun _ => XS.goto X16.here hx rfl (pc0 := 17) (pc' := 21) rfl (hb hby d_p16_m5_17) (by decide) (by decide)) ?_
    show Run p e below _ (T16.setTop (mkF m 21 #[.val (.ref wr), .val (.ref x)] [(.int (1 : Int32))]))
    exact endNS X16 hx hlk hZ hEL e16 eS CH hS hk (t := .boolean) hret (by simp) (hb hby d_p16_m5_21) (by rw [e16]; exact ⟨by by_cases q : ([86, 79, 95, 65, 68, 77, 73, 78] : List Int32) = cs <;> simp_all <;> rfl, N16, K0⟩) (by decide) (by decide)
def Q_rm_ip0 (zc : Int32) (a wr x t : Addr) (kb : ClassId) (cs : List Int32) (h0 : Heap) (n0 : Nat) (v : Option Value) (h : Heap) (L : List Loc) : Prop := v = some (.int 0) ∧ Fr n0 L ∧ Keep h0 h []
set_option maxRecDepth 65536 in
set_option maxHeartbeats 40000000 in
theorem rm_ip0 (l : Launch) (Z : State) (a0 : Array Value) (hw : ∀ d ∈ tables_1, d.before a0 Z = true) (ws : List Jvm.Cond) (zc : Int32) (a wr x t : Addr) (kb : ClassId) (cs : List Int32) (h0 : Heap) (n0 : Nat) (O0 : Old Z n0 h0) (hEL : EW Z a0 consts_1) (S_COMPACT_STRINGS : Sta Z Z.heap "java/lang/String" "COMPACT_STRINGS" "Z" (.int zc)) (hzc : ¬ zc = 0) (S_ROLE : Sta Z Z.heap "com/example/gridsteward/gridsteward/NameKind" "ROLE" "Lcom/example/gridsteward/gridsteward/NameKind;" (.ref wr)) (T_x : Str Z h0 x t kb cs) (Hx : In8 cs) (lx : cs.length ≤ 4000) (hne : a ≠ wr) :
    MeetsS l (⟨"com/example/gridsteward/gridsteward/NameKind", "isProtected", "(Ljava/lang/String;)Z"⟩ : MethodName) prog_16_method_5_code 2 (some .boolean) ws ({ frames := 0, cells := 0, slots := 0, locals := 0 } : Room) Z consts_1 [] #[(.ref a), (.ref x)] h0 (Q_rm_ip0 zc a wr x t kb cs h0 n0) 0 0 := by
  refine enterS (Ls := #[.val (.ref a), .val (.ref x)]) (plainFor_of_name pn_1) (fun m => by first | (simp [entryFrame, mkF, argsToLocals, Value.category]; done) | rfl) ?_
  intro p e s m below meth c T0 hx hby hml hown hnm hret hlk hZ X0 e0 eS CH hS HS
  have N0 := Fr.nil n0
  replace hown : s.vm.findClass "com/example/gridsteward/gridsteward/NameKind" = some m.cls := hown
  show Run p e below _ (T0.setTop (mkF m 0 #[.val (.ref a), .val (.ref x)] []))
  have hk : h0.size ≤ h0.size := Nat.le_refl _
  have K0 := Keep.refl h0 []
  refine go (fun _ => XS.aloadN X0.here hx rfl (hb hby d_p16_m5_0) rfl rfl) ?_
  show Run p e below _ (T0.setTop (mkF m 1 #[.val (.ref a), .val (.ref x)] [(.ref a)]))
  obtain ⟨T18, X18, e18, st18⟩ := getS2 X0 hx hZ hown (host := "") (Or.inl (wd hw 44 rfl)) Via.refl e0 (S_ROLE.ext O0.2) (g := (mkF m 1 #[.val (.ref a), .val (.ref x)] [(.ref a)])) rfl (hb hby d_p16_m5_1)
  refine go st18 ?_
  show Run p e below _ (T18.setTop (mkF m 4 #[.val (.ref a), .val (.ref x)] [(.ref wr), (.ref a)]))
  refine go (fun _ => acmp X18 hx rfl (x := (.ref a)) (y := (.ref wr)) rfl rfl (pc0 := 4) (pc' := 20) (same := false) rfl (hb hby d_p16_m5_4) rfl (decide_eq_false (fun q => hne (Value.ref.inj q))) (by decide) (by decide)) ?_
  show Run p e below _ (T18.setTop (mkF m 20 #[.val (.ref a), .val (.ref x)] []))
  refine go (fun _ => XS.iconst X18.here hx rfl (hb hby d_p16_m5_20)) ?_
  show Run p e below _ (T18.setTop (mkF m 21 #[.val (.ref a), .val (.ref x)] [(.int (0 : Int32))]))
  exact endNS X18 hx hlk hZ hEL e18 eS CH hS hk (t := .boolean) hret (by simp) (hb hby d_p16_m5_21) (by rw [e18]; exact ⟨rfl, N0, K0⟩) (by decide) (by decide)
def pk (p1 : Int32) (l2 : Int64) (p3 p4 : Int32) : Int32 := if (((p1.toUInt32 >>> (p3 &&& 31).toUInt32).toInt32) &&& (1 : Int32)) = 0 then nar .char p4 else nar .char ((((l2.toUInt64 >>> (((8 : Int32) * p3) &&& 63).toInt64.toUInt64).toInt64) &&& (255 : Int64)).toInt32.toUInt32.toUInt16.toUInt32.toInt32)
theorem own_m (x : Int32) : ¬ (x &&& (255 : Int32)) < 0 ∧ ¬ (255 : Int32) < (x &&& (255 : Int32)) := by
  have h := c_and x 255 (by decide)
  have k0 : (0 : Int32).toInt = 0 := by decide
  have k2 : (255 : Int32).toInt = 255 := by decide
  simp only [Int32.lt_iff_toInt_lt]; omega
theorem own_nm (x : Int32) : nar .char (x &&& (255 : Int32)) = x &&& 255 := i2c_mask x
theorem own_nc (x : Int32) : nar .char ((x &&& (255 : Int32)).toUInt32.toUInt16.toUInt32.toInt32) = x &&& 255 := by rw [i2c_mask]; exact i2c_mask x
theorem pk_mask (p1 : Int32) (l2 : Int64) (p3 p4 : Int32) (h : p4 &&& 255 = p4) : ∃ w : Int32, pk p1 l2 p3 p4 = w &&& 255 := by
  unfold pk; split
  · refine ⟨p4, ?_⟩; rw [← h]; rw [own_nm]; rw [h]; exact h.symm
  · refine ⟨(((l2.toUInt64 >>> (((8 : Int32) * p3) &&& 63).toInt64.toUInt64).toInt64)).toInt32, ?_⟩
    rw [Int64.toInt32_and]; exact own_nc _
theorem pk_in (p1 : Int32) (l2 : Int64) (p3 p4 : Int32) (h : p4 &&& 255 = p4) : ¬ pk p1 l2 p3 p4 < 0 ∧ ¬ (255 : Int32) < pk p1 l2 p3 p4 := by
  obtain ⟨w, e⟩ := pk_mask p1 l2 p3 p4 h; rw [e]; exact own_m w
theorem pk_nc (p1 : Int32) (l2 : Int64) (p3 p4 : Int32) (h : p4 &&& 255 = p4) : nar .char (pk p1 l2 p3 p4) = pk p1 l2 p3 p4 := by
  obtain ⟨w, e⟩ := pk_mask p1 l2 p3 p4 h; rw [e]; exact own_nm w
theorem d_m2_0 : decode method_2_code 0 = .ok (.iload_n 0, 1) := by decide +kernel
theorem d_m2_1 : decode method_2_code 1 = .ok (.iload_n 3, 1) := by decide +kernel
theorem d_m2_2 : decode method_2_code 2 = .ok (.iushr, 1) := by decide +kernel
theorem d_m2_3 : decode method_2_code 3 = .ok (.iconst 1, 1) := by decide +kernel
theorem d_m2_4 : decode method_2_code 4 = .ok (.iand, 1) := by decide +kernel
theorem d_m2_5 : decode method_2_code 5 = .ok (.ifCond .eq 16, 3) := by decide +kernel
theorem d_m2_21 : decode method_2_code 21 = .ok (.iload 4, 2) := by decide +kernel
theorem d_m2_23 : decode method_2_code 23 = .ok (.ireturn, 1) := by decide +kernel
theorem d_m2_8 : decode method_2_code 8 = .ok (.lload_n 1, 1) := by decide +kernel
theorem d_m2_9 : decode method_2_code 9 = .ok (.bipush 8, 2) := by decide +kernel
theorem d_m2_11 : decode method_2_code 11 = .ok (.iload_n 3, 1) := by decide +kernel
theorem d_m2_12 : decode method_2_code 12 = .ok (.imul, 1) := by decide +kernel
theorem d_m2_13 : decode method_2_code 13 = .ok (.lushr, 1) := by decide +kernel
theorem d_m2_14 : decode method_2_code 14 = .ok (.ldc2_w 7, 3) := by decide +kernel
theorem d_m2_17 : decode method_2_code 17 = .ok (.land, 1) := by decide +kernel
theorem d_m2_18 : decode method_2_code 18 = .ok (.l2i, 1) := by decide +kernel
theorem d_m2_19 : decode method_2_code 19 = .ok (.i2c, 1) := by decide +kernel
theorem d_m2_20 : decode method_2_code 20 = .ok (.ireturn, 1) := by decide +kernel
theorem pn_2 : plainName "com/example/gridsteward/gridsteward/NameKindIsProtectedPinLaw" = true := by first | (simp [plainName, overriddenIn]; done) | decide +kernel
def Q_rm_pk (p1 : Int32) (l2 : Int64) (p3 p4 : Int32) (h0 : Heap) (n0 : Nat) (v : Option Value) (h : Heap) (L : List Loc) : Prop := v = some (.int (pk p1 l2 p3 p4)) ∧ Fr n0 L ∧ h = h0
set_option maxRecDepth 65536 in
set_option maxHeartbeats 40000000 in
theorem rm_pk (l : Launch) (Z : State) (a0 : Array Value) (hw : ∀ d ∈ tables_1, d.before a0 Z = true) (ws : List Jvm.Cond) (p1 : Int32) (l2 : Int64) (p3 p4 : Int32) (h0 : Heap) (n0 : Nat) (O0 : Old Z n0 h0)  :
    Meets l (⟨"com/example/gridsteward/gridsteward/NameKindIsProtectedPinLaw", "pick", "(IJIC)C"⟩ : MethodName) method_2_code 5 (some .char) ws ({ frames := 0, cells := 0, slots := 0, locals := 0 } : Room) Z #[(.int p1), (.long l2), (.int p3), (.int p4)] h0 (Q_rm_pk p1 l2 p3 p4 h0 n0) 0 0 := by
  refine enter (Ls := #[.val (.int p1), .val (.long l2), .second, .val (.int p3), .val (.int p4)]) (plainFor_of_name pn_2) (fun m => by first | (simp [entryFrame, mkF, argsToLocals, Value.category]; done) | rfl) ?_
  intro p e s m below meth c T0 hx hby hml hown hnm hret hlk hZ X0 e0
  have N0 := Fr.nil n0
  replace hown : s.vm.findClass "com/example/gridsteward/gridsteward/NameKindIsProtectedPinLaw" = some m.cls := hown
  show Run p e below _ (T0.setTop (mkF m 0 #[.val (.int p1), .val (.long l2), .second, .val (.int p3), .val (.int p4)] []))
  refine go (fun _ => XS.iloadN X0.here hx rfl (hb hby d_m2_0) rfl) ?_
  show Run p e below _ (T0.setTop (mkF m 1 #[.val (.int p1), .val (.long l2), .second, .val (.int p3), .val (.int p4)] [(.int p1)]))
  refine go (fun _ => XS.iloadN X0.here hx rfl (hb hby d_m2_1) rfl) ?_
  show Run p e below _ (T0.setTop (mkF m 2 #[.val (.int p1), .val (.long l2), .second, .val (.int p3), .val (.int p4)] [(.int p3), (.int p1)]))
  refine go (fun _ => XS.iushr X0.here hx rfl (hb hby d_m2_2) rfl) ?_
  show Run p e below _ (T0.setTop (mkF m 3 #[.val (.int p1), .val (.long l2), .second, .val (.int p3), .val (.int p4)] [(.int ((p1.toUInt32 >>> (p3 &&& 31).toUInt32).toInt32))]))
  refine go (fun _ => XS.iconst X0.here hx rfl (hb hby d_m2_3)) ?_
  show Run p e below _ (T0.setTop (mkF m 4 #[.val (.int p1), .val (.long l2), .second, .val (.int p3), .val (.int p4)] [(.int (1 : Int32)), (.int ((p1.toUInt32 >>> (p3 &&& 31).toUInt32).toInt32))]))
  refine go (fun _ => XS.iand X0.here hx rfl (hb hby d_m2_4) rfl) ?_
  show Run p e below _ (T0.setTop (mkF m 5 #[.val (.int p1), .val (.long l2), .second, .val (.int p3), .val (.int p4)] [(.int (((p1.toUInt32 >>> (p3 &&& 31).toUInt32).toInt32) &&& (1 : Int32)))]))
  by_cases c19 : (((p1.toUInt32 >>> (p3 &&& 31).toUInt32).toInt32) &&& (1 : Int32)) = 0
  · skip
    refine go (fun _ => XS.ifYes X0.here hx rfl (pc0 := 5) (pc' := 21) rfl (hb hby d_m2_5) rfl ((if0 _ _).trans (teq c19).1) (by decide) (by decide)) ?_
    show Run p e below _ (T0.setTop (mkF m 21 #[.val (.int p1), .val (.long l2), .second, .val (.int p3), .val (.int p4)] []))
    refine go (fun _ => XS.iload X0.here hx rfl (hb hby d_m2_21) rfl) ?_
    show Run p e below _ (T0.setTop (mkF m 23 #[.val (.int p1), .val (.long l2), .second, .val (.int p3), .val (.int p4)] [(.int p4)]))
    exact endN X0 hx hlk (t := .char) hret (by simp) (hb hby d_m2_23) (⟨by unfold pk; rw [if_pos c19], N0, e0⟩) (by decide) (by decide)
  · skip
    refine go (fun _ => XS.ifNo X0.here hx rfl (hb hby d_m2_5) rfl ((if0 _ _).trans (feq c19).1)) ?_
    show Run p e below _ (T0.setTop (mkF m 8 #[.val (.int p1), .val (.long l2), .second, .val (.int p3), .val (.int p4)] []))
    refine go (fun _ => XS.lloadN X0.here hx rfl (hb hby d_m2_8) rfl) ?_
    show Run p e below _ (T0.setTop (mkF m 9 #[.val (.int p1), .val (.long l2), .second, .val (.int p3), .val (.int p4)] [(.long l2)]))
    refine go (fun _ => XS.bipush X0.here hx rfl (hb hby d_m2_9)) ?_
    show Run p e below _ (T0.setTop (mkF m 11 #[.val (.int p1), .val (.long l2), .second, .val (.int p3), .val (.int p4)] [(.int (8 : Int32)), (.long l2)]))
    refine go (fun _ => XS.iloadN X0.here hx rfl (hb hby d_m2_11) rfl) ?_
    show Run p e below _ (T0.setTop (mkF m 12 #[.val (.int p1), .val (.long l2), .second, .val (.int p3), .val (.int p4)] [(.int p3), (.int (8 : Int32)), (.long l2)]))
    refine go (fun _ => XS.imul X0.here hx rfl (hb hby d_m2_12) rfl) ?_
    show Run p e below _ (T0.setTop (mkF m 13 #[.val (.int p1), .val (.long l2), .second, .val (.int p3), .val (.int p4)] [(.int ((8 : Int32) * p3)), (.long l2)]))
    refine go (fun _ => XS.lushr X0.here hx rfl (hb hby d_m2_13) rfl) ?_
    show Run p e below _ (T0.setTop (mkF m 14 #[.val (.int p1), .val (.long l2), .second, .val (.int p3), .val (.int p4)] [(.long ((l2.toUInt64 >>> (((8 : Int32) * p3) &&& 63).toInt64.toUInt64).toInt64))]))
    refine go (fun _ => X0.ldc2J hx hown (mvT hZ (wd hw 8 rfl)) rfl (hb hby d_m2_14)) ?_
    show Run p e below _ (T0.setTop (mkF m 17 #[.val (.int p1), .val (.long l2), .second, .val (.int p3), .val (.int p4)] [(.long (255 : Int64)), (.long ((l2.toUInt64 >>> (((8 : Int32) * p3) &&& 63).toInt64.toUInt64).toInt64))]))
    refine go (fun _ => XS.land X0.here hx rfl (hb hby d_m2_17) rfl) ?_
    show Run p e below _ (T0.setTop (mkF m 18 #[.val (.int p1), .val (.long l2), .second, .val (.int p3), .val (.int p4)] [(.long (((l2.toUInt64 >>> (((8 : Int32) * p3) &&& 63).toInt64.toUInt64).toInt64) &&& (255 : Int64)))]))
    refine go (fun _ => XS.l2i X0.here hx rfl (hb hby d_m2_18) rfl) ?_
    show Run p e below _ (T0.setTop (mkF m 19 #[.val (.int p1), .val (.long l2), .second, .val (.int p3), .val (.int p4)] [(.int ((((l2.toUInt64 >>> (((8 : Int32) * p3) &&& 63).toInt64.toUInt64).toInt64) &&& (255 : Int64)).toInt32))]))
    refine go (fun _ => XS.i2c X0.here hx rfl (hb hby d_m2_19) rfl) ?_
    show Run p e below _ (T0.setTop (mkF m 20 #[.val (.int p1), .val (.long l2), .second, .val (.int p3), .val (.int p4)] [(.int (((((l2.toUInt64 >>> (((8 : Int32) * p3) &&& 63).toInt64.toUInt64).toInt64) &&& (255 : Int64)).toInt32).toUInt32.toUInt16.toUInt32.toInt32))]))
    exact endN X0 hx hlk (t := .char) hret (by simp) (hb hby d_m2_20) (⟨by unfold pk; rw [if_neg c19], N0, e0⟩) (by decide) (by decide)
theorem pd_2 : parseMethodDescriptor "(IJIC)C" = some ⟨[.int, .long, .int, .char], some .char⟩ := by decide +kernel
theorem pd_3 : parseMethodDescriptor "(Ljava/lang/String;)Z" = some ⟨[(.object "java/lang/String")], some .boolean⟩ := by decide +kernel
theorem pd_4 : parseMethodDescriptor "([C)V" = some ⟨[(.array .char)], none⟩ := by decide +kernel
def Q_rmlaw (p0 p1 : Int32) (l2 : Int64) (zc : Int32) (wg wr wc : Addr) (h0 : Heap) (n0 : Nat) (v : Option Value) (h : Heap) (L : List Loc) : Prop := v = some (.int 1) ∧ Fr n0 L
set_option maxRecDepth 65536 in
set_option maxHeartbeats 40000000 in
theorem rmlaw (l : Launch) (Z : State) (a0 : Array Value) (hw : ∀ d ∈ tables_1, d.before a0 Z = true) (ws : List Jvm.Cond) (p0 p1 : Int32) (l2 : Int64) (zc : Int32) (wg wr wc : Addr) (h0 : Heap) (n0 : Nat) (O0 : Old Z n0 h0) (hEL : EW Z a0 consts_1) (S_COMPACT_STRINGS : Sta Z Z.heap "java/lang/String" "COMPACT_STRINGS" "Z" (.int zc)) (hzc : ¬ zc = 0) (S_GROUP : Sta Z Z.heap "com/example/gridsteward/gridsteward/NameKind" "GROUP" "Lcom/example/gridsteward/gridsteward/NameKind;" (.ref wg)) (S_ROLE : Sta Z Z.heap "com/example/gridsteward/gridsteward/NameKind" "ROLE" "Lcom/example/gridsteward/gridsteward/NameKind;" (.ref wr)) (S_CAPABILITY : Sta Z Z.heap "com/example/gridsteward/gridsteward/NameKind" "CAPABILITY" "Lcom/example/gridsteward/gridsteward/NameKind;" (.ref wc)) (Ewg : Exa Z Z.heap wg "com/example/gridsteward/gridsteward/NameKind$1") (Ewr : Exa Z Z.heap wr "com/example/gridsteward/gridsteward/NameKind$2") (Ewc : Exa Z Z.heap wc "com/example/gridsteward/gridsteward/NameKind$3") :
    MeetsS l x code maxLocals ret ws room_1 Z consts_1 [] #[(.int p0), (.int p1), (.long l2)] h0 (Q_rmlaw p0 p1 l2 zc wg wr wc h0 n0) 24 2176 := by
  refine enterS (Ls := #[.val (.int p0), .val (.int p1), .val (.long l2), .second, .unset, .unset, .unset, .unset, .unset, .unset, .unset, .unset, .unset, .unset, .unset, .unset, .unset, .unset, .unset]) (plainFor_of_name pn_2) (fun m => by first | (simp [entryFrame, mkF, argsToLocals, Value.category, maxLocals]; done) | rfl) ?_
  intro p e s m below meth c T0 hx hby hml hown hnm hret hlk hZ X0 e0 eS CH hS HS
  have N0 := Fr.nil n0
  replace hown : s.vm.findClass "com/example/gridsteward/gridsteward/NameKindIsProtectedPinLaw" = some m.cls := hown
  show Run p e below _ (T0.setTop (mkF m 0 #[.val (.int p0), .val (.int p1), .val (.long l2), .second, .unset, .unset, .unset, .unset, .unset, .unset, .unset, .unset, .unset, .unset, .unset, .unset, .unset, .unset, .unset] []))
  have hk : h0.size ≤ h0.size := Nat.le_refl _
  refine go (fun _ => XS.iloadN X0.here hx rfl (hb hby at_0) rfl) ?_
  show Run p e below _ (T0.setTop (mkF m 1 #[.val (.int p0), .val (.int p1), .val (.long l2), .second, .unset, .unset, .unset, .unset, .unset, .unset, .unset, .unset, .unset, .unset, .unset, .unset, .unset, .unset, .unset] [(.int p0)]))
  refine go (fun _ => X0.ldcI hx hown (mvT hZ (wd hw 0 rfl)) rfl (hb hby at_1)) ?_
  show Run p e below _ (T0.setTop (mkF m 3 #[.val (.int p0), .val (.int p1), .val (.long l2), .second, .unset, .unset, .unset, .unset, .unset, .unset, .unset, .unset, .unset, .unset, .unset, .unset, .unset, .unset, .unset] [(.int (2147483647 : Int32)), (.int p0)]))
  refine go (fun _ => XS.iand X0.here hx rfl (hb hby at_3) rfl) ?_
  show Run p e below _ (T0.setTop (mkF m 4 #[.val (.int p0), .val (.int p1), .val (.long l2), .second, .unset, .unset, .unset, .unset, .unset, .unset, .unset, .unset, .unset, .unset, .unset, .unset, .unset, .unset, .unset] [(.int (p0 &&& (2147483647 : Int32)))]))
  refine go (fun _ => XS.iconst X0.here hx rfl (hb hby at_4)) ?_
  show Run p e below _ (T0.setTop (mkF m 5 #[.val (.int p0), .val (.int p1), .val (.long l2), .second, .unset, .unset, .unset, .unset, .unset, .unset, .unset, .unset, .unset, .unset, .unset, .unset, .unset, .unset, .unset] [(.int (3 : Int32)), (.int (p0 &&& (2147483647 : Int32)))]))
  refine go (fun _ => iremM X0 hx rfl (hb hby at_5) rfl (by decide)) ?_
  show Run p e below _ (T0.setTop (mkF m 6 #[.val (.int p0), .val (.int p1), .val (.long l2), .second, .unset, .unset, .unset, .unset, .unset, .unset, .unset, .unset, .unset, .unset, .unset, .unset, .unset, .unset, .unset] [(.int ((p0 &&& (2147483647 : Int32)) % (3 : Int32)))]))
  refine go (fun _ => XS.istore X0.here hx rfl (hb hby at_6) rfl (l' := #[.val (.int p0), .val (.int p1), .val (.long l2), .second, .val (.int ((p0 &&& (2147483647 : Int32)) % (3 : Int32))), .unset, .unset, .unset, .unset, .unset, .unset, .unset, .unset, .unset, .unset, .unset, .unset, .unset, .unset]) rfl) ?_
  show Run p e below _ (T0.setTop (mkF m 8 #[.val (.int p0), .val (.int p1), .val (.long l2), .second, .val (.int ((p0 &&& (2147483647 : Int32)) % (3 : Int32))), .unset, .unset, .unset, .unset, .unset, .unset, .unset, .unset, .unset, .unset, .unset, .unset, .unset, .unset] []))
  refine go (fun _ => XS.iload X0.here hx rfl (hb hby at_8) rfl) ?_
  show Run p e below _ (T0.setTop (mkF m 10 #[.val (.int p0), .val (.int p1), .val (.long l2), .second, .val (.int ((p0 &&& (2147483647 : Int32)) % (3 : Int32))), .unset, .unset, .unset, .unset, .unset, .unset, .unset, .unset, .unset, .unset, .unset, .unset, .unset, .unset] [(.int ((p0 &&& (2147483647 : Int32)) % (3 : Int32)))]))
  have J36 : ∀ (T20 : State) (L20 : List Loc) (X20 : Stand p l e room_1 (s.setVm s.vm) m #[(.int p0), (.int p1), (.long l2)] below meth c T20 L20 0 0) (e20 : T20.heap = h0) (N20 : Fr n0 L20) (kd : Addr)  (hK : (((p0 &&& (2147483647 : Int32)) % (3 : Int32)) = 1 ∧ kd = wr) ∨ (¬ ((p0 &&& (2147483647 : Int32)) % (3 : Int32)) = 1 ∧ (kd = wg ∨ kd = wc))), Run p e below (EndsS Z consts_1 s (Q_rmlaw p0 p1 l2 zc wg wr wc h0 n0) 24 2176) (T20.setTop (mkF m 36 #[.val (.int p0), .val (.int p1), .val (.long l2), .second, .val (.int ((p0 &&& (2147483647 : Int32)) % (3 : Int32))), .val (.ref kd), .unset, .unset, .unset, .unset, .unset, .unset, .unset, .unset, .unset, .unset, .unset, .unset, .unset] [])) := by
    intro T20 L20 X20 e20 N20 kd  hK
    refine go (fun _ => XS.iloadN X20.here hx rfl (hb hby at_36) rfl) ?_
    show Run p e below _ (T20.setTop (mkF m 37 #[.val (.int p0), .val (.int p1), .val (.long l2), .second, .val (.int ((p0 &&& (2147483647 : Int32)) % (3 : Int32))), .val (.ref kd), .unset, .unset, .unset, .unset, .unset, .unset, .unset, .unset, .unset, .unset, .unset, .unset, .unset] [(.int p1)]))
    refine go (fun _ => XS.lloadN X20.here hx rfl (hb hby at_37) rfl) ?_
    show Run p e below _ (T20.setTop (mkF m 38 #[.val (.int p0), .val (.int p1), .val (.long l2), .second, .val (.int ((p0 &&& (2147483647 : Int32)) % (3 : Int32))), .val (.ref kd), .unset, .unset, .unset, .unset, .unset, .unset, .unset, .unset, .unset, .unset, .unset, .unset, .unset] [(.long l2), (.int p1)]))
    refine go (fun _ => XS.iconst X20.here hx rfl (hb hby at_38)) ?_
    show Run p e below _ (T20.setTop (mkF m 39 #[.val (.int p0), .val (.int p1), .val (.long l2), .second, .val (.int ((p0 &&& (2147483647 : Int32)) % (3 : Int32))), .val (.ref kd), .unset, .unset, .unset, .unset, .unset, .unset, .unset, .unset, .unset, .unset, .unset, .unset, .unset] [(.int (0 : Int32)), (.long l2), (.int p1)]))
    refine go (fun _ => XS.bipush X20.here hx rfl (hb hby at_39)) ?_
    show Run p e below _ (T20.setTop (mkF m 41 #[.val (.int p0), .val (.int p1), .val (.long l2), .second, .val (.int ((p0 &&& (2147483647 : Int32)) % (3 : Int32))), .val (.ref kd), .unset, .unset, .unset, .unset, .unset, .unset, .unset, .unset, .unset, .unset, .unset, .unset, .unset] [(.int (86 : Int32)), (.int (0 : Int32)), (.long l2), (.int p1)]))
    refine callSt X20 hx hZ hown (wd hw 4 rfl) (wd hw 5 rfl) (wd hw 6 rfl) (wd hw 7 rfl) (by decide) e20 (argsL := [(.int p1), (.long l2), (.int (0 : Int32)), (.int (86 : Int32))]) (rest := []) (rm_pk l Z a0 hw [] p1 l2 (0 : Int32) (86 : Int32) h0 n0 O0) (W := 0) (by decide) (by decide) (by decide) (by decide) (by rw [hml]; rfl) (lenOf pd_2 rfl) rfl (Nat.le_of_eq rfl) (hb hby at_41) ?_
    intro v21 T21 L21 h21 X21 e21 q21
    obtain ⟨rv, n21, k21⟩ := q21
    replace rv : v21 = some (.int (pk p1 l2 (0 : Int32) (86 : Int32))) := rv
    subst rv
    have e21 := e21.trans k21
    have N21 := Fr.app N20 n21
    show Run p e below _ (T21.setTop (mkF m 44 #[.val (.int p0), .val (.int p1), .val (.long l2), .second, .val (.int ((p0 &&& (2147483647 : Int32)) % (3 : Int32))), .val (.ref kd), .unset, .unset, .unset, .unset, .unset, .unset, .unset, .unset, .unset, .unset, .unset, .unset, .unset] [(.int (pk p1 l2 (0 : Int32) (86 : Int32)))]))
    refine go (fun _ => XS.istore X21.here hx rfl (hb hby at_44) rfl (l' := #[.val (.int p0), .val (.int p1), .val (.long l2), .second, .val (.int ((p0 &&& (2147483647 : Int32)) % (3 : Int32))), .val (.ref kd), .val (.int (pk p1 l2 (0 : Int32) (86 : Int32))), .unset, .unset, .unset, .unset, .unset, .unset, .unset, .unset, .unset, .unset, .unset, .unset]) rfl) ?_
    show Run p e below _ (T21.setTop (mkF m 46 #[.val (.int p0), .val (.int p1), .val (.long l2), .second, .val (.int ((p0 &&& (2147483647 : Int32)) % (3 : Int32))), .val (.ref kd), .val (.int (pk p1 l2 (0 : Int32) (86 : Int32))), .unset, .unset, .unset, .unset, .unset, .unset, .unset, .unset, .unset, .unset, .unset, .unset] []))
    refine go (fun _ => XS.iloadN X21.here hx rfl (hb hby at_46) rfl) ?_
    show Run p e below _ (T21.setTop (mkF m 47 #[.val (.int p0), .val (.int p1), .val (.long l2), .second, .val (.int ((p0 &&& (2147483647 : Int32)) % (3 : Int32))), .val (.ref kd), .val (.int (pk p1 l2 (0 : Int32) (86 : Int32))), .unset, .unset, .unset, .unset, .unset, .unset, .unset, .unset, .unset, .unset, .unset, .unset] [(.int p1)]))
    refine go (fun _ => XS.lloadN X21.here hx rfl (hb hby at_47) rfl) ?_
    show Run p e below _ (T21.setTop (mkF m 48 #[.val (.int p0), .val (.int p1), .val (.long l2), .second, .val (.int ((p0 &&& (2147483647 : Int32)) % (3 : Int32))), .val (.ref kd), .val (.int (pk p1 l2 (0 : Int32) (86 : Int32))), .unset, .unset, .unset, .unset, .unset, .unset, .unset, .unset, .unset, .unset, .unset, .unset] [(.long l2), (.int p1)]))
    refine go (fun _ => XS.iconst X21.here hx rfl (hb hby at_48)) ?_
    show Run p e below _ (T21.setTop (mkF m 49 #[.val (.int p0), .val (.int p1), .val (.long l2), .second, .val (.int ((p0 &&& (2147483647 : Int32)) % (3 : Int32))), .val (.ref kd), .val (.int (pk p1 l2 (0 : Int32) (86 : Int32))), .unset, .unset, .unset, .unset, .unset, .unset, .unset, .unset, .unset, .unset, .unset, .unset] [(.int (1 : Int32)), (.long l2), (.int p1)]))
    refine go (fun _ => XS.bipush X21.here hx rfl (hb hby at_49)) ?_
    show Run p e below _ (T21.setTop (mkF m 51 #[.val (.int p0), .val (.int p1), .val (.long l2), .second, .val (.int ((p0 &&& (2147483647 : Int32)) % (3 : Int32))), .val (.ref kd), .val (.int (pk p1 l2 (0 : Int32) (86 : Int32))), .unset, .unset, .unset, .unset, .unset, .unset, .unset, .unset, .unset, .unset, .unset, .unset] [(.int (79 : Int32)), (.int (1 : Int32)), (.long l2), (.int p1)]))
    refine callSt X21 hx hZ hown (wd hw 4 rfl) (wd hw 5 rfl) (wd hw 6 rfl) (wd hw 7 rfl) (by decide) e21 (argsL := [(.int p1), (.long l2), (.int (1 : Int32)), (.int (79 : Int32))]) (rest := []) (rm_pk l Z a0 hw [] p1 l2 (1 : Int32) (79 : Int32) h0 n0 O0) (W := 0) (by decide) (by decide) (by decide) (by decide) (by rw [hml]; rfl) (lenOf pd_2 rfl) rfl (Nat.le_of_eq rfl) (hb hby at_51) ?_
    intro v22 T22 L22 h22 X22 e22 q22
    obtain ⟨rv, n22, k22⟩ := q22
    replace rv : v22 = some (.int (pk p1 l2 (1 : Int32) (79 : Int32))) := rv
    subst rv
    have e22 := e22.trans k22
    have N22 := Fr.app N21 n22
    show Run p e below _ (T22.setTop (mkF m 54 #[.val (.int p0), .val (.int p1), .val (.long l2), .second, .val (.int ((p0 &&& (2147483647 : Int32)) % (3 : Int32))), .val (.ref kd), .val (.int (pk p1 l2 (0 : Int32) (86 : Int32))), .unset, .unset, .unset, .unset, .unset, .unset, .unset, .unset, .unset, .unset, .unset, .unset] [(.int (pk p1 l2 (1 : Int32) (79 : Int32)))]))
    refine go (fun _ => XS.istore X22.here hx rfl (hb hby at_54) rfl (l' := #[.val (.int p0), .val (.int p1), .val (.long l2), .second, .val (.int ((p0 &&& (2147483647 : Int32)) % (3 : Int32))), .val (.ref kd), .val (.int (pk p1 l2 (0 : Int32) (86 : Int32))), .val (.int (pk p1 l2 (1 : Int32) (79 : Int32))), .unset, .unset, .unset, .unset, .unset, .unset, .unset, .unset, .unset, .unset, .unset]) rfl) ?_
    show Run p e below _ (T22.setTop (mkF m 56 #[.val (.int p0), .val (.int p1), .val (.long l2), .second, .val (.int ((p0 &&& (2147483647 : Int32)) % (3 : Int32))), .val (.ref kd), .val (.int (pk p1 l2 (0 : Int32) (86 : Int32))), .val (.int (pk p1 l2 (1 : Int32) (79 : Int32))), .unset, .unset, .unset, .unset, .unset, .unset, .unset, .unset, .unset, .unset, .unset] []))
    refine go (fun _ => XS.iloadN X22.here hx rfl (hb hby at_56) rfl) ?_
    show Run p e below _ (T22.setTop (mkF m 57 #[.val (.int p0), .val (.int p1), .val (.long l2), .second, .val (.int ((p0 &&& (2147483647 : Int32)) % (3 : Int32))), .val (.ref kd), .val (.int (pk p1 l2 (0 : Int32) (86 : Int32))), .val (.int (pk p1 l2 (1 : Int32) (79 : Int32))), .unset, .unset, .unset, .unset, .unset, .unset, .unset, .unset, .unset, .unset, .unset] [(.int p1)]))
    refine go (fun _ => XS.lloadN X22.here hx rfl (hb hby at_57) rfl) ?_
    show Run p e below _ (T22.setTop (mkF m 58 #[.val (.int p0), .val (.int p1), .val (.long l2), .second, .val (.int ((p0 &&& (2147483647 : Int32)) % (3 : Int32))), .val (.ref kd), .val (.int (pk p1 l2 (0 : Int32) (86 : Int32))), .val (.int (pk p1 l2 (1 : Int32) (79 : Int32))), .unset, .unset, .unset, .unset, .unset, .unset, .unset, .unset, .unset, .unset, .unset] [(.long l2), (.int p1)]))
    refine go (fun _ => XS.iconst X22.here hx rfl (hb hby at_58)) ?_
    show Run p e below _ (T22.setTop (mkF m 59 #[.val (.int p0), .val (.int p1), .val (.long l2), .second, .val (.int ((p0 &&& (2147483647 : Int32)) % (3 : Int32))), .val (.ref kd), .val (.int (pk p1 l2 (0 : Int32) (86 : Int32))), .val (.int (pk p1 l2 (1 : Int32) (79 : Int32))), .unset, .unset, .unset, .unset, .unset, .unset, .unset, .unset, .unset, .unset, .unset] [(.int (2 : Int32)), (.long l2), (.int p1)]))
    refine go (fun _ => XS.bipush X22.here hx rfl (hb hby at_59)) ?_
    show Run p e below _ (T22.setTop (mkF m 61 #[.val (.int p0), .val (.int p1), .val (.long l2), .second, .val (.int ((p0 &&& (2147483647 : Int32)) % (3 : Int32))), .val (.ref kd), .val (.int (pk p1 l2 (0 : Int32) (86 : Int32))), .val (.int (pk p1 l2 (1 : Int32) (79 : Int32))), .unset, .unset, .unset, .unset, .unset, .unset, .unset, .unset, .unset, .unset, .unset] [(.int (95 : Int32)), (.int (2 : Int32)), (.long l2), (.int p1)]))
    refine callSt X22 hx hZ hown (wd hw 4 rfl) (wd hw 5 rfl) (wd hw 6 rfl) (wd hw 7 rfl) (by decide) e22 (argsL := [(.int p1), (.long l2), (.int (2 : Int32)), (.int (95 : Int32))]) (rest := []) (rm_pk l Z a0 hw [] p1 l2 (2 : Int32) (95 : Int32) h0 n0 O0) (W := 0) (by decide) (by decide) (by decide) (by decide) (by rw [hml]; rfl) (lenOf pd_2 rfl) rfl (Nat.le_of_eq rfl) (hb hby at_61) ?_
    intro v23 T23 L23 h23 X23 e23 q23
    obtain ⟨rv, n23, k23⟩ := q23
    replace rv : v23 = some (.int (pk p1 l2 (2 : Int32) (95 : Int32))) := rv
    subst rv
    have e23 := e23.trans k23
    have N23 := Fr.app N22 n23
    show Run p e below _ (T23.setTop (mkF m 64 #[.val (.int p0), .val (.int p1), .val (.long l2), .second, .val (.int ((p0 &&& (2147483647 : Int32)) % (3 : Int32))), .val (.ref kd), .val (.int (pk p1 l2 (0 : Int32) (86 : Int32))), .val (.int (pk p1 l2 (1 : Int32) (79 : Int32))), .unset, .unset, .unset, .unset, .unset, .unset, .unset, .unset, .unset, .unset, .unset] [(.int (pk p1 l2 (2 : Int32) (95 : Int32)))]))
    refine go (fun _ => XS.istore X23.here hx rfl (hb hby at_64) rfl (l' := #[.val (.int p0), .val (.int p1), .val (.long l2), .second, .val (.int ((p0 &&& (2147483647 : Int32)) % (3 : Int32))), .val (.ref kd), .val (.int (pk p1 l2 (0 : Int32) (86 : Int32))), .val (.int (pk p1 l2 (1 : Int32) (79 : Int32))), .val (.int (pk p1 l2 (2 : Int32) (95 : Int32))), .unset, .unset, .unset, .unset, .unset, .unset, .unset, .unset, .unset, .unset]) rfl) ?_
    show Run p e below _ (T23.setTop (mkF m 66 #[.val (.int p0), .val (.int p1), .val (.long l2), .second, .val (.int ((p0 &&& (2147483647 : Int32)) % (3 : Int32))), .val (.ref kd), .val (.int (pk p1 l2 (0 : Int32) (86 : Int32))), .val (.int (pk p1 l2 (1 : Int32) (79 : Int32))), .val (.int (pk p1 l2 (2 : Int32) (95 : Int32))), .unset, .unset, .unset, .unset, .unset, .unset, .unset, .unset, .unset, .unset] []))
    refine go (fun _ => XS.iloadN X23.here hx rfl (hb hby at_66) rfl) ?_
    show Run p e below _ (T23.setTop (mkF m 67 #[.val (.int p0), .val (.int p1), .val (.long l2), .second, .val (.int ((p0 &&& (2147483647 : Int32)) % (3 : Int32))), .val (.ref kd), .val (.int (pk p1 l2 (0 : Int32) (86 : Int32))), .val (.int (pk p1 l2 (1 : Int32) (79 : Int32))), .val (.int (pk p1 l2 (2 : Int32) (95 : Int32))), .unset, .unset, .unset, .unset, .unset, .unset, .unset, .unset, .unset, .unset] [(.int p1)]))
    refine go (fun _ => XS.lloadN X23.here hx rfl (hb hby at_67) rfl) ?_
    show Run p e below _ (T23.setTop (mkF m 68 #[.val (.int p0), .val (.int p1), .val (.long l2), .second, .val (.int ((p0 &&& (2147483647 : Int32)) % (3 : Int32))), .val (.ref kd), .val (.int (pk p1 l2 (0 : Int32) (86 : Int32))), .val (.int (pk p1 l2 (1 : Int32) (79 : Int32))), .val (.int (pk p1 l2 (2 : Int32) (95 : Int32))), .unset, .unset, .unset, .unset, .unset, .unset, .unset, .unset, .unset, .unset] [(.long l2), (.int p1)]))
    refine go (fun _ => XS.iconst X23.here hx rfl (hb hby at_68)) ?_
    show Run p e below _ (T23.setTop (mkF m 69 #[.val (.int p0), .val (.int p1), .val (.long l2), .second, .val (.int ((p0 &&& (2147483647 : Int32)) % (3 : Int32))), .val (.ref kd), .val (.int (pk p1 l2 (0 : Int32) (86 : Int32))), .val (.int (pk p1 l2 (1 : Int32) (79 : Int32))), .val (.int (pk p1 l2 (2 : Int32) (95 : Int32))), .unset, .unset, .unset, .unset, .unset, .unset, .unset, .unset, .unset, .unset] [(.int (3 : Int32)), (.long l2), (.int p1)]))
    refine go (fun _ => XS.bipush X23.here hx rfl (hb hby at_69)) ?_
    show Run p e below _ (T23.setTop (mkF m 71 #[.val (.int p0), .val (.int p1), .val (.long l2), .second, .val (.int ((p0 &&& (2147483647 : Int32)) % (3 : Int32))), .val (.ref kd), .val (.int (pk p1 l2 (0 : Int32) (86 : Int32))), .val (.int (pk p1 l2 (1 : Int32) (79 : Int32))), .val (.int (pk p1 l2 (2 : Int32) (95 : Int32))), .unset, .unset, .unset, .unset, .unset, .unset, .unset, .unset, .unset, .unset] [(.int (65 : Int32)), (.int (3 : Int32)), (.long l2), (.int p1)]))
    refine callSt X23 hx hZ hown (wd hw 4 rfl) (wd hw 5 rfl) (wd hw 6 rfl) (wd hw 7 rfl) (by decide) e23 (argsL := [(.int p1), (.long l2), (.int (3 : Int32)), (.int (65 : Int32))]) (rest := []) (rm_pk l Z a0 hw [] p1 l2 (3 : Int32) (65 : Int32) h0 n0 O0) (W := 0) (by decide) (by decide) (by decide) (by decide) (by rw [hml]; rfl) (lenOf pd_2 rfl) rfl (Nat.le_of_eq rfl) (hb hby at_71) ?_
    intro v24 T24 L24 h24 X24 e24 q24
    obtain ⟨rv, n24, k24⟩ := q24
    replace rv : v24 = some (.int (pk p1 l2 (3 : Int32) (65 : Int32))) := rv
    subst rv
    have e24 := e24.trans k24
    have N24 := Fr.app N23 n24
    show Run p e below _ (T24.setTop (mkF m 74 #[.val (.int p0), .val (.int p1), .val (.long l2), .second, .val (.int ((p0 &&& (2147483647 : Int32)) % (3 : Int32))), .val (.ref kd), .val (.int (pk p1 l2 (0 : Int32) (86 : Int32))), .val (.int (pk p1 l2 (1 : Int32) (79 : Int32))), .val (.int (pk p1 l2 (2 : Int32) (95 : Int32))), .unset, .unset, .unset, .unset, .unset, .unset, .unset, .unset, .unset, .unset] [(.int (pk p1 l2 (3 : Int32) (65 : Int32)))]))
    refine go (fun _ => XS.istore X24.here hx rfl (hb hby at_74) rfl (l' := #[.val (.int p0), .val (.int p1), .val (.long l2), .second, .val (.int ((p0 &&& (2147483647 : Int32)) % (3 : Int32))), .val (.ref kd), .val (.int (pk p1 l2 (0 : Int32) (86 : Int32))), .val (.int (pk p1 l2 (1 : Int32) (79 : Int32))), .val (.int (pk p1 l2 (2 : Int32) (95 : Int32))), .val (.int (pk p1 l2 (3 : Int32) (65 : Int32))), .unset, .unset, .unset, .unset, .unset, .unset, .unset, .unset, .unset]) rfl) ?_
    show Run p e below _ (T24.setTop (mkF m 76 #[.val (.int p0), .val (.int p1), .val (.long l2), .second, .val (.int ((p0 &&& (2147483647 : Int32)) % (3 : Int32))), .val (.ref kd), .val (.int (pk p1 l2 (0 : Int32) (86 : Int32))), .val (.int (pk p1 l2 (1 : Int32) (79 : Int32))), .val (.int (pk p1 l2 (2 : Int32) (95 : Int32))), .val (.int (pk p1 l2 (3 : Int32) (65 : Int32))), .unset, .unset, .unset, .unset, .unset, .unset, .unset, .unset, .unset] []))
    refine go (fun _ => XS.iloadN X24.here hx rfl (hb hby at_76) rfl) ?_
    show Run p e below _ (T24.setTop (mkF m 77 #[.val (.int p0), .val (.int p1), .val (.long l2), .second, .val (.int ((p0 &&& (2147483647 : Int32)) % (3 : Int32))), .val (.ref kd), .val (.int (pk p1 l2 (0 : Int32) (86 : Int32))), .val (.int (pk p1 l2 (1 : Int32) (79 : Int32))), .val (.int (pk p1 l2 (2 : Int32) (95 : Int32))), .val (.int (pk p1 l2 (3 : Int32) (65 : Int32))), .unset, .unset, .unset, .unset, .unset, .unset, .unset, .unset, .unset] [(.int p1)]))
    refine go (fun _ => XS.lloadN X24.here hx rfl (hb hby at_77) rfl) ?_
    show Run p e below _ (T24.setTop (mkF m 78 #[.val (.int p0), .val (.int p1), .val (.long l2), .second, .val (.int ((p0 &&& (2147483647 : Int32)) % (3 : Int32))), .val (.ref kd), .val (.int (pk p1 l2 (0 : Int32) (86 : Int32))), .val (.int (pk p1 l2 (1 : Int32) (79 : Int32))), .val (.int (pk p1 l2 (2 : Int32) (95 : Int32))), .val (.int (pk p1 l2 (3 : Int32) (65 : Int32))), .unset, .unset, .unset, .unset, .unset, .unset, .unset, .unset, .unset] [(.long l2), (.int p1)]))
    refine go (fun _ => XS.iconst X24.here hx rfl (hb hby at_78)) ?_
    show Run p e below _ (T24.setTop (mkF m 79 #[.val (.int p0), .val (.int p1), .val (.long l2), .second, .val (.int ((p0 &&& (2147483647 : Int32)) % (3 : Int32))), .val (.ref kd), .val (.int (pk p1 l2 (0 : Int32) (86 : Int32))), .val (.int (pk p1 l2 (1 : Int32) (79 : Int32))), .val (.int (pk p1 l2 (2 : Int32) (95 : Int32))), .val (.int (pk p1 l2 (3 : Int32) (65 : Int32))), .unset, .unset, .unset, .unset, .unset, .unset, .unset, .unset, .unset] [(.int (4 : Int32)), (.long l2), (.int p1)]))
    refine go (fun _ => XS.bipush X24.here hx rfl (hb hby at_79)) ?_
    show Run p e below _ (T24.setTop (mkF m 81 #[.val (.int p0), .val (.int p1), .val (.long l2), .second, .val (.int ((p0 &&& (2147483647 : Int32)) % (3 : Int32))), .val (.ref kd), .val (.int (pk p1 l2 (0 : Int32) (86 : Int32))), .val (.int (pk p1 l2 (1 : Int32) (79 : Int32))), .val (.int (pk p1 l2 (2 : Int32) (95 : Int32))), .val (.int (pk p1 l2 (3 : Int32) (65 : Int32))), .unset, .unset, .unset, .unset, .unset, .unset, .unset, .unset, .unset] [(.int (68 : Int32)), (.int (4 : Int32)), (.long l2), (.int p1)]))
    refine callSt X24 hx hZ hown (wd hw 4 rfl) (wd hw 5 rfl) (wd hw 6 rfl) (wd hw 7 rfl) (by decide) e24 (argsL := [(.int p1), (.long l2), (.int (4 : Int32)), (.int (68 : Int32))]) (rest := []) (rm_pk l Z a0 hw [] p1 l2 (4 : Int32) (68 : Int32) h0 n0 O0) (W := 0) (by decide) (by decide) (by decide) (by decide) (by rw [hml]; rfl) (lenOf pd_2 rfl) rfl (Nat.le_of_eq rfl) (hb hby at_81) ?_
    intro v25 T25 L25 h25 X25 e25 q25
    obtain ⟨rv, n25, k25⟩ := q25
    replace rv : v25 = some (.int (pk p1 l2 (4 : Int32) (68 : Int32))) := rv
    subst rv
    have e25 := e25.trans k25
    have N25 := Fr.app N24 n25
    show Run p e below _ (T25.setTop (mkF m 84 #[.val (.int p0), .val (.int p1), .val (.long l2), .second, .val (.int ((p0 &&& (2147483647 : Int32)) % (3 : Int32))), .val (.ref kd), .val (.int (pk p1 l2 (0 : Int32) (86 : Int32))), .val (.int (pk p1 l2 (1 : Int32) (79 : Int32))), .val (.int (pk p1 l2 (2 : Int32) (95 : Int32))), .val (.int (pk p1 l2 (3 : Int32) (65 : Int32))), .unset, .unset, .unset, .unset, .unset, .unset, .unset, .unset, .unset] [(.int (pk p1 l2 (4 : Int32) (68 : Int32)))]))
    refine go (fun _ => XS.istore X25.here hx rfl (hb hby at_84) rfl (l' := #[.val (.int p0), .val (.int p1), .val (.long l2), .second, .val (.int ((p0 &&& (2147483647 : Int32)) % (3 : Int32))), .val (.ref kd), .val (.int (pk p1 l2 (0 : Int32) (86 : Int32))), .val (.int (pk p1 l2 (1 : Int32) (79 : Int32))), .val (.int (pk p1 l2 (2 : Int32) (95 : Int32))), .val (.int (pk p1 l2 (3 : Int32) (65 : Int32))), .val (.int (pk p1 l2 (4 : Int32) (68 : Int32))), .unset, .unset, .unset, .unset, .unset, .unset, .unset, .unset]) rfl) ?_
    show Run p e below _ (T25.setTop (mkF m 86 #[.val (.int p0), .val (.int p1), .val (.long l2), .second, .val (.int ((p0 &&& (2147483647 : Int32)) % (3 : Int32))), .val (.ref kd), .val (.int (pk p1 l2 (0 : Int32) (86 : Int32))), .val (.int (pk p1 l2 (1 : Int32) (79 : Int32))), .val (.int (pk p1 l2 (2 : Int32) (95 : Int32))), .val (.int (pk p1 l2 (3 : Int32) (65 : Int32))), .val (.int (pk p1 l2 (4 : Int32) (68 : Int32))), .unset, .unset, .unset, .unset, .unset, .unset, .unset, .unset] []))
    refine go (fun _ => XS.iloadN X25.here hx rfl (hb hby at_86) rfl) ?_
    show Run p e below _ (T25.setTop (mkF m 87 #[.val (.int p0), .val (.int p1), .val (.long l2), .second, .val (.int ((p0 &&& (2147483647 : Int32)) % (3 : Int32))), .val (.ref kd), .val (.int (pk p1 l2 (0 : Int32) (86 : Int32))), .val (.int (pk p1 l2 (1 : Int32) (79 : Int32))), .val (.int (pk p1 l2 (2 : Int32) (95 : Int32))), .val (.int (pk p1 l2 (3 : Int32) (65 : Int32))), .val (.int (pk p1 l2 (4 : Int32) (68 : Int32))), .unset, .unset, .unset, .unset, .unset, .unset, .unset, .unset] [(.int p1)]))
    refine go (fun _ => XS.lloadN X25.here hx rfl (hb hby at_87) rfl) ?_
    show Run p e below _ (T25.setTop (mkF m 88 #[.val (.int p0), .val (.int p1), .val (.long l2), .second, .val (.int ((p0 &&& (2147483647 : Int32)) % (3 : Int32))), .val (.ref kd), .val (.int (pk p1 l2 (0 : Int32) (86 : Int32))), .val (.int (pk p1 l2 (1 : Int32) (79 : Int32))), .val (.int (pk p1 l2 (2 : Int32) (95 : Int32))), .val (.int (pk p1 l2 (3 : Int32) (65 : Int32))), .val (.int (pk p1 l2 (4 : Int32) (68 : Int32))), .unset, .unset, .unset, .unset, .unset, .unset, .unset, .unset] [(.long l2), (.int p1)]))
    refine go (fun _ => XS.iconst X25.here hx rfl (hb hby at_88)) ?_
    show Run p e below _ (T25.setTop (mkF m 89 #[.val (.int p0), .val (.int p1), .val (.long l2), .second, .val (.int ((p0 &&& (2147483647 : Int32)) % (3 : Int32))), .val (.ref kd), .val (.int (pk p1 l2 (0 : Int32) (86 : Int32))), .val (.int (pk p1 l2 (1 : Int32) (79 : Int32))), .val (.int (pk p1 l2 (2 : Int32) (95 : Int32))), .val (.int (pk p1 l2 (3 : Int32) (65 : Int32))), .val (.int (pk p1 l2 (4 : Int32) (68 : Int32))), .unset, .unset, .unset, .unset, .unset, .unset, .unset, .unset] [(.int (5 : Int32)), (.long l2), (.int p1)]))
    refine go (fun _ => XS.bipush X25.here hx rfl (hb hby at_89)) ?_
    show Run p e below _ (T25.setTop (mkF m 91 #[.val (.int p0), .val (.int p1), .val (.long l2), .second, .val (.int ((p0 &&& (2147483647 : Int32)) % (3 : Int32))), .val (.ref kd), .val (.int (pk p1 l2 (0 : Int32) (86 : Int32))), .val (.int (pk p1 l2 (1 : Int32) (79 : Int32))), .val (.int (pk p1 l2 (2 : Int32) (95 : Int32))), .val (.int (pk p1 l2 (3 : Int32) (65 : Int32))), .val (.int (pk p1 l2 (4 : Int32) (68 : Int32))), .unset, .unset, .unset, .unset, .unset, .unset, .unset, .unset] [(.int (77 : Int32)), (.int (5 : Int32)), (.long l2), (.int p1)]))
    refine callSt X25 hx hZ hown (wd hw 4 rfl) (wd hw 5 rfl) (wd hw 6 rfl) (wd hw 7 rfl) (by decide) e25 (argsL := [(.int p1), (.long l2), (.int (5 : Int32)), (.int (77 : Int32))]) (rest := []) (rm_pk l Z a0 hw [] p1 l2 (5 : Int32) (77 : Int32) h0 n0 O0) (W := 0) (by decide) (by decide) (by decide) (by decide) (by rw [hml]; rfl) (lenOf pd_2 rfl) rfl (Nat.le_of_eq rfl) (hb hby at_91) ?_
    intro v26 T26 L26 h26 X26 e26 q26
    obtain ⟨rv, n26, k26⟩ := q26
    replace rv : v26 = some (.int (pk p1 l2 (5 : Int32) (77 : Int32))) := rv
    subst rv
    have e26 := e26.trans k26
    have N26 := Fr.app N25 n26
    show Run p e below _ (T26.setTop (mkF m 94 #[.val (.int p0), .val (.int p1), .val (.long l2), .second, .val (.int ((p0 &&& (2147483647 : Int32)) % (3 : Int32))), .val (.ref kd), .val (.int (pk p1 l2 (0 : Int32) (86 : Int32))), .val (.int (pk p1 l2 (1 : Int32) (79 : Int32))), .val (.int (pk p1 l2 (2 : Int32) (95 : Int32))), .val (.int (pk p1 l2 (3 : Int32) (65 : Int32))), .val (.int (pk p1 l2 (4 : Int32) (68 : Int32))), .unset, .unset, .unset, .unset, .unset, .unset, .unset, .unset] [(.int (pk p1 l2 (5 : Int32) (77 : Int32)))]))
    refine go (fun _ => XS.istore X26.here hx rfl (hb hby at_94) rfl (l' := #[.val (.int p0), .val (.int p1), .val (.long l2), .second, .val (.int ((p0 &&& (2147483647 : Int32)) % (3 : Int32))), .val (.ref kd), .val (.int (pk p1 l2 (0 : Int32) (86 : Int32))), .val (.int (pk p1 l2 (1 : Int32) (79 : Int32))), .val (.int (pk p1 l2 (2 : Int32) (95 : Int32))), .val (.int (pk p1 l2 (3 : Int32) (65 : Int32))), .val (.int (pk p1 l2 (4 : Int32) (68 : Int32))), .val (.int (pk p1 l2 (5 : Int32) (77 : Int32))), .unset, .unset, .unset, .unset, .unset, .unset, .unset]) rfl) ?_
    show Run p e below _ (T26.setTop (mkF m 96 #[.val (.int p0), .val (.int p1), .val (.long l2), .second, .val (.int ((p0 &&& (2147483647 : Int32)) % (3 : Int32))), .val (.ref kd), .val (.int (pk p1 l2 (0 : Int32) (86 : Int32))), .val (.int (pk p1 l2 (1 : Int32) (79 : Int32))), .val (.int (pk p1 l2 (2 : Int32) (95 : Int32))), .val (.int (pk p1 l2 (3 : Int32) (65 : Int32))), .val (.int (pk p1 l2 (4 : Int32) (68 : Int32))), .val (.int (pk p1 l2 (5 : Int32) (77 : Int32))), .unset, .unset, .unset, .unset, .unset, .unset, .unset] []))
    refine go (fun _ => XS.iloadN X26.here hx rfl (hb hby at_96) rfl) ?_
    show Run p e below _ (T26.setTop (mkF m 97 #[.val (.int p0), .val (.int p1), .val (.long l2), .second, .val (.int ((p0 &&& (2147483647 : Int32)) % (3 : Int32))), .val (.ref kd), .val (.int (pk p1 l2 (0 : Int32) (86 : Int32))), .val (.int (pk p1 l2 (1 : Int32) (79 : Int32))), .val (.int (pk p1 l2 (2 : Int32) (95 : Int32))), .val (.int (pk p1 l2 (3 : Int32) (65 : Int32))), .val (.int (pk p1 l2 (4 : Int32) (68 : Int32))), .val (.int (pk p1 l2 (5 : Int32) (77 : Int32))), .unset, .unset, .unset, .unset, .unset, .unset, .unset] [(.int p1)]))
    refine go (fun _ => XS.lloadN X26.here hx rfl (hb hby at_97) rfl) ?_
    show Run p e below _ (T26.setTop (mkF m 98 #[.val (.int p0), .val (.int p1), .val (.long l2), .second, .val (.int ((p0 &&& (2147483647 : Int32)) % (3 : Int32))), .val (.ref kd), .val (.int (pk p1 l2 (0 : Int32) (86 : Int32))), .val (.int (pk p1 l2 (1 : Int32) (79 : Int32))), .val (.int (pk p1 l2 (2 : Int32) (95 : Int32))), .val (.int (pk p1 l2 (3 : Int32) (65 : Int32))), .val (.int (pk p1 l2 (4 : Int32) (68 : Int32))), .val (.int (pk p1 l2 (5 : Int32) (77 : Int32))), .unset, .unset, .unset, .unset, .unset, .unset, .unset] [(.long l2), (.int p1)]))
    refine go (fun _ => XS.bipush X26.here hx rfl (hb hby at_98)) ?_
    show Run p e below _ (T26.setTop (mkF m 100 #[.val (.int p0), .val (.int p1), .val (.long l2), .second, .val (.int ((p0 &&& (2147483647 : Int32)) % (3 : Int32))), .val (.ref kd), .val (.int (pk p1 l2 (0 : Int32) (86 : Int32))), .val (.int (pk p1 l2 (1 : Int32) (79 : Int32))), .val (.int (pk p1 l2 (2 : Int32) (95 : Int32))), .val (.int (pk p1 l2 (3 : Int32) (65 : Int32))), .val (.int (pk p1 l2 (4 : Int32) (68 : Int32))), .val (.int (pk p1 l2 (5 : Int32) (77 : Int32))), .unset, .unset, .unset, .unset, .unset, .unset, .unset] [(.int (6 : Int32)), (.long l2), (.int p1)]))
    refine go (fun _ => XS.bipush X26.here hx rfl (hb hby at_100)) ?_
    show Run p e below _ (T26.setTop (mkF m 102 #[.val (.int p0), .val (.int p1), .val (.long l2), .second, .val (.int ((p0 &&& (2147483647 : Int32)) % (3 : Int32))), .val (.ref kd), .val (.int (pk p1 l2 (0 : Int32) (86 : Int32))), .val (.int (pk p1 l2 (1 : Int32) (79 : Int32))), .val (.int (pk p1 l2 (2 : Int32) (95 : Int32))), .val (.int (pk p1 l2 (3 : Int32) (65 : Int32))), .val (.int (pk p1 l2 (4 : Int32) (68 : Int32))), .val (.int (pk p1 l2 (5 : Int32) (77 : Int32))), .unset, .unset, .unset, .unset, .unset, .unset, .unset] [(.int (73 : Int32)), (.int (6 : Int32)), (.long l2), (.int p1)]))
    refine callSt X26 hx hZ hown (wd hw 4 rfl) (wd hw 5 rfl) (wd hw 6 rfl) (wd hw 7 rfl) (by decide) e26 (argsL := [(.int p1), (.long l2), (.int (6 : Int32)), (.int (73 : Int32))]) (rest := []) (rm_pk l Z a0 hw [] p1 l2 (6 : Int32) (73 : Int32) h0 n0 O0) (W := 0) (by decide) (by decide) (by decide) (by decide) (by rw [hml]; rfl) (lenOf pd_2 rfl) rfl (Nat.le_of_eq rfl) (hb hby at_102) ?_
    intro v27 T27 L27 h27 X27 e27 q27
    obtain ⟨rv, n27, k27⟩ := q27
    replace rv : v27 = some (.int (pk p1 l2 (6 : Int32) (73 : Int32))) := rv
    subst rv
    have e27 := e27.trans k27
    have N27 := Fr.app N26 n27
    show Run p e below _ (T27.setTop (mkF m 105 #[.val (.int p0), .val (.int p1), .val (.long l2), .second, .val (.int ((p0 &&& (2147483647 : Int32)) % (3 : Int32))), .val (.ref kd), .val (.int (pk p1 l2 (0 : Int32) (86 : Int32))), .val (.int (pk p1 l2 (1 : Int32) (79 : Int32))), .val (.int (pk p1 l2 (2 : Int32) (95 : Int32))), .val (.int (pk p1 l2 (3 : Int32) (65 : Int32))), .val (.int (pk p1 l2 (4 : Int32) (68 : Int32))), .val (.int (pk p1 l2 (5 : Int32) (77 : Int32))), .unset, .unset, .unset, .unset, .unset, .unset, .unset] [(.int (pk p1 l2 (6 : Int32) (73 : Int32)))]))
    refine go (fun _ => XS.istore X27.here hx rfl (hb hby at_105) rfl (l' := #[.val (.int p0), .val (.int p1), .val (.long l2), .second, .val (.int ((p0 &&& (2147483647 : Int32)) % (3 : Int32))), .val (.ref kd), .val (.int (pk p1 l2 (0 : Int32) (86 : Int32))), .val (.int (pk p1 l2 (1 : Int32) (79 : Int32))), .val (.int (pk p1 l2 (2 : Int32) (95 : Int32))), .val (.int (pk p1 l2 (3 : Int32) (65 : Int32))), .val (.int (pk p1 l2 (4 : Int32) (68 : Int32))), .val (.int (pk p1 l2 (5 : Int32) (77 : Int32))), .val (.int (pk p1 l2 (6 : Int32) (73 : Int32))), .unset, .unset, .unset, .unset, .unset, .unset]) rfl) ?_
    show Run p e below _ (T27.setTop (mkF m 107 #[.val (.int p0), .val (.int p1), .val (.long l2), .second, .val (.int ((p0 &&& (2147483647 : Int32)) % (3 : Int32))), .val (.ref kd), .val (.int (pk p1 l2 (0 : Int32) (86 : Int32))), .val (.int (pk p1 l2 (1 : Int32) (79 : Int32))), .val (.int (pk p1 l2 (2 : Int32) (95 : Int32))), .val (.int (pk p1 l2 (3 : Int32) (65 : Int32))), .val (.int (pk p1 l2 (4 : Int32) (68 : Int32))), .val (.int (pk p1 l2 (5 : Int32) (77 : Int32))), .val (.int (pk p1 l2 (6 : Int32) (73 : Int32))), .unset, .unset, .unset, .unset, .unset, .unset] []))
    refine go (fun _ => XS.iloadN X27.here hx rfl (hb hby at_107) rfl) ?_
    show Run p e below _ (T27.setTop (mkF m 108 #[.val (.int p0), .val (.int p1), .val (.long l2), .second, .val (.int ((p0 &&& (2147483647 : Int32)) % (3 : Int32))), .val (.ref kd), .val (.int (pk p1 l2 (0 : Int32) (86 : Int32))), .val (.int (pk p1 l2 (1 : Int32) (79 : Int32))), .val (.int (pk p1 l2 (2 : Int32) (95 : Int32))), .val (.int (pk p1 l2 (3 : Int32) (65 : Int32))), .val (.int (pk p1 l2 (4 : Int32) (68 : Int32))), .val (.int (pk p1 l2 (5 : Int32) (77 : Int32))), .val (.int (pk p1 l2 (6 : Int32) (73 : Int32))), .unset, .unset, .unset, .unset, .unset, .unset] [(.int p1)]))
    refine go (fun _ => XS.lloadN X27.here hx rfl (hb hby at_108) rfl) ?_
    show Run p e below _ (T27.setTop (mkF m 109 #[.val (.int p0), .val (.int p1), .val (.long l2), .second, .val (.int ((p0 &&& (2147483647 : Int32)) % (3 : Int32))), .val (.ref kd), .val (.int (pk p1 l2 (0 : Int32) (86 : Int32))), .val (.int (pk p1 l2 (1 : Int32) (79 : Int32))), .val (.int (pk p1 l2 (2 : Int32) (95 : Int32))), .val (.int (pk p1 l2 (3 : Int32) (65 : Int32))), .val (.int (pk p1 l2 (4 : Int32) (68 : Int32))), .val (.int (pk p1 l2 (5 : Int32) (77 : Int32))), .val (.int (pk p1 l2 (6 : Int32) (73 : Int32))), .unset, .unset, .unset, .unset, .unset, .unset] [(.long l2), (.int p1)]))
    refine go (fun _ => XS.bipush X27.here hx rfl (hb hby at_109)) ?_
    show Run p e below _ (T27.setTop (mkF m 111 #[.val (.int p0), .val (.int p1), .val (.long l2), .second, .val (.int ((p0 &&& (2147483647 : Int32)) % (3 : Int32))), .val (.ref kd), .val (.int (pk p1 l2 (0 : Int32) (86 : Int32))), .val (.int (pk p1 l2 (1 : Int32) (79 : Int32))), .val (.int (pk p1 l2 (2 : Int32) (95 : Int32))), .val (.int (pk p1 l2 (3 : Int32) (65 : Int32))), .val (.int (pk p1 l2 (4 : Int32) (68 : Int32))), .val (.int (pk p1 l2 (5 : Int32) (77 : Int32))), .val (.int (pk p1 l2 (6 : Int32) (73 : Int32))), .unset, .unset, .unset, .unset, .unset, .unset] [(.int (7 : Int32)), (.long l2), (.int p1)]))
    refine go (fun _ => XS.bipush X27.here hx rfl (hb hby at_111)) ?_
    show Run p e below _ (T27.setTop (mkF m 113 #[.val (.int p0), .val (.int p1), .val (.long l2), .second, .val (.int ((p0 &&& (2147483647 : Int32)) % (3 : Int32))), .val (.ref kd), .val (.int (pk p1 l2 (0 : Int32) (86 : Int32))), .val (.int (pk p1 l2 (1 : Int32) (79 : Int32))), .val (.int (pk p1 l2 (2 : Int32) (95 : Int32))), .val (.int (pk p1 l2 (3 : Int32) (65 : Int32))), .val (.int (pk p1 l2 (4 : Int32) (68 : Int32))), .val (.int (pk p1 l2 (5 : Int32) (77 : Int32))), .val (.int (pk p1 l2 (6 : Int32) (73 : Int32))), .unset, .unset, .unset, .unset, .unset, .unset] [(.int (78 : Int32)), (.int (7 : Int32)), (.long l2), (.int p1)]))
    refine callSt X27 hx hZ hown (wd hw 4 rfl) (wd hw 5 rfl) (wd hw 6 rfl) (wd hw 7 rfl) (by decide) e27 (argsL := [(.int p1), (.long l2), (.int (7 : Int32)), (.int (78 : Int32))]) (rest := []) (rm_pk l Z a0 hw [] p1 l2 (7 : Int32) (78 : Int32) h0 n0 O0) (W := 0) (by decide) (by decide) (by decide) (by decide) (by rw [hml]; rfl) (lenOf pd_2 rfl) rfl (Nat.le_of_eq rfl) (hb hby at_113) ?_
    intro v28 T28 L28 h28 X28 e28 q28
    obtain ⟨rv, n28, k28⟩ := q28
    replace rv : v28 = some (.int (pk p1 l2 (7 : Int32) (78 : Int32))) := rv
    subst rv
    have e28 := e28.trans k28
    have N28 := Fr.app N27 n28
    show Run p e below _ (T28.setTop (mkF m 116 #[.val (.int p0), .val (.int p1), .val (.long l2), .second, .val (.int ((p0 &&& (2147483647 : Int32)) % (3 : Int32))), .val (.ref kd), .val (.int (pk p1 l2 (0 : Int32) (86 : Int32))), .val (.int (pk p1 l2 (1 : Int32) (79 : Int32))), .val (.int (pk p1 l2 (2 : Int32) (95 : Int32))), .val (.int (pk p1 l2 (3 : Int32) (65 : Int32))), .val (.int (pk p1 l2 (4 : Int32) (68 : Int32))), .val (.int (pk p1 l2 (5 : Int32) (77 : Int32))), .val (.int (pk p1 l2 (6 : Int32) (73 : Int32))), .unset, .unset, .unset, .unset, .unset, .unset] [(.int (pk p1 l2 (7 : Int32) (78 : Int32)))]))
    refine go (fun _ => XS.istore X28.here hx rfl (hb hby at_116) rfl (l' := #[.val (.int p0), .val (.int p1), .val (.long l2), .second, .val (.int ((p0 &&& (2147483647 : Int32)) % (3 : Int32))), .val (.ref kd), .val (.int (pk p1 l2 (0 : Int32) (86 : Int32))), .val (.int (pk p1 l2 (1 : Int32) (79 : Int32))), .val (.int (pk p1 l2 (2 : Int32) (95 : Int32))), .val (.int (pk p1 l2 (3 : Int32) (65 : Int32))), .val (.int (pk p1 l2 (4 : Int32) (68 : Int32))), .val (.int (pk p1 l2 (5 : Int32) (77 : Int32))), .val (.int (pk p1 l2 (6 : Int32) (73 : Int32))), .val (.int (pk p1 l2 (7 : Int32) (78 : Int32))), .unset, .unset, .unset, .unset, .unset]) rfl) ?_
    show Run p e below _ (T28.setTop (mkF m 118 #[.val (.int p0), .val (.int p1), .val (.long l2), .second, .val (.int ((p0 &&& (2147483647 : Int32)) % (3 : Int32))), .val (.ref kd), .val (.int (pk p1 l2 (0 : Int32) (86 : Int32))), .val (.int (pk p1 l2 (1 : Int32) (79 : Int32))), .val (.int (pk p1 l2 (2 : Int32) (95 : Int32))), .val (.int (pk p1 l2 (3 : Int32) (65 : Int32))), .val (.int (pk p1 l2 (4 : Int32) (68 : Int32))), .val (.int (pk p1 l2 (5 : Int32) (77 : Int32))), .val (.int (pk p1 l2 (6 : Int32) (73 : Int32))), .val (.int (pk p1 l2 (7 : Int32) (78 : Int32))), .unset, .unset, .unset, .unset, .unset] []))
    refine go (fun _ => XS.iloadN X28.here hx rfl (hb hby at_118) rfl) ?_
    show Run p e below _ (T28.setTop (mkF m 119 #[.val (.int p0), .val (.int p1), .val (.long l2), .second, .val (.int ((p0 &&& (2147483647 : Int32)) % (3 : Int32))), .val (.ref kd), .val (.int (pk p1 l2 (0 : Int32) (86 : Int32))), .val (.int (pk p1 l2 (1 : Int32) (79 : Int32))), .val (.int (pk p1 l2 (2 : Int32) (95 : Int32))), .val (.int (pk p1 l2 (3 : Int32) (65 : Int32))), .val (.int (pk p1 l2 (4 : Int32) (68 : Int32))), .val (.int (pk p1 l2 (5 : Int32) (77 : Int32))), .val (.int (pk p1 l2 (6 : Int32) (73 : Int32))), .val (.int (pk p1 l2 (7 : Int32) (78 : Int32))), .unset, .unset, .unset, .unset, .unset] [(.int p1)]))
    refine go (fun _ => XS.bipush X28.here hx rfl (hb hby at_119)) ?_
    show Run p e below _ (T28.setTop (mkF m 121 #[.val (.int p0), .val (.int p1), .val (.long l2), .second, .val (.int ((p0 &&& (2147483647 : Int32)) % (3 : Int32))), .val (.ref kd), .val (.int (pk p1 l2 (0 : Int32) (86 : Int32))), .val (.int (pk p1 l2 (1 : Int32) (79 : Int32))), .val (.int (pk p1 l2 (2 : Int32) (95 : Int32))), .val (.int (pk p1 l2 (3 : Int32) (65 : Int32))), .val (.int (pk p1 l2 (4 : Int32) (68 : Int32))), .val (.int (pk p1 l2 (5 : Int32) (77 : Int32))), .val (.int (pk p1 l2 (6 : Int32) (73 : Int32))), .val (.int (pk p1 l2 (7 : Int32) (78 : Int32))), .unset, .unset, .unset, .unset, .unset] [(.int (10 : Int32)), (.int p1)]))
    refine go (fun _ => XS.iushr X28.here hx rfl (hb hby at_121) rfl) ?_
    show Run p e below _ (T28.setTop (mkF m 122 #[.val (.int p0), .val (.int p1), .val (.long l2), .second, .val (.int ((p0 &&& (2147483647 : Int32)) % (3 : Int32))), .val (.ref kd), .val (.int (pk p1 l2 (0 : Int32) (86 : Int32))), .val (.int (pk p1 l2 (1 : Int32) (79 : Int32))), .val (.int (pk p1 l2 (2 : Int32) (95 : Int32))), .val (.int (pk p1 l2 (3 : Int32) (65 : Int32))), .val (.int (pk p1 l2 (4 : Int32) (68 : Int32))), .val (.int (pk p1 l2 (5 : Int32) (77 : Int32))), .val (.int (pk p1 l2 (6 : Int32) (73 : Int32))), .val (.int (pk p1 l2 (7 : Int32) (78 : Int32))), .unset, .unset, .unset, .unset, .unset] [(.int ((p1.toUInt32 >>> ((10 : Int32) &&& 31).toUInt32).toInt32))]))
    refine go (fun _ => XS.sipush X28.here hx rfl (hb hby at_122)) ?_
    show Run p e below _ (T28.setTop (mkF m 125 #[.val (.int p0), .val (.int p1), .val (.long l2), .second, .val (.int ((p0 &&& (2147483647 : Int32)) % (3 : Int32))), .val (.ref kd), .val (.int (pk p1 l2 (0 : Int32) (86 : Int32))), .val (.int (pk p1 l2 (1 : Int32) (79 : Int32))), .val (.int (pk p1 l2 (2 : Int32) (95 : Int32))), .val (.int (pk p1 l2 (3 : Int32) (65 : Int32))), .val (.int (pk p1 l2 (4 : Int32) (68 : Int32))), .val (.int (pk p1 l2 (5 : Int32) (77 : Int32))), .val (.int (pk p1 l2 (6 : Int32) (73 : Int32))), .val (.int (pk p1 l2 (7 : Int32) (78 : Int32))), .unset, .unset, .unset, .unset, .unset] [(.int (255 : Int32)), (.int ((p1.toUInt32 >>> ((10 : Int32) &&& 31).toUInt32).toInt32))]))
    refine go (fun _ => XS.iand X28.here hx rfl (hb hby at_125) rfl) ?_
    show Run p e below _ (T28.setTop (mkF m 126 #[.val (.int p0), .val (.int p1), .val (.long l2), .second, .val (.int ((p0 &&& (2147483647 : Int32)) % (3 : Int32))), .val (.ref kd), .val (.int (pk p1 l2 (0 : Int32) (86 : Int32))), .val (.int (pk p1 l2 (1 : Int32) (79 : Int32))), .val (.int (pk p1 l2 (2 : Int32) (95 : Int32))), .val (.int (pk p1 l2 (3 : Int32) (65 : Int32))), .val (.int (pk p1 l2 (4 : Int32) (68 : Int32))), .val (.int (pk p1 l2 (5 : Int32) (77 : Int32))), .val (.int (pk p1 l2 (6 : Int32) (73 : Int32))), .val (.int (pk p1 l2 (7 : Int32) (78 : Int32))), .unset, .unset, .unset, .unset, .unset] [(.int (((p1.toUInt32 >>> ((10 : Int32) &&& 31).toUInt32).toInt32) &&& (255 : Int32)))]))
    refine go (fun _ => XS.i2c X28.here hx rfl (hb hby at_126) rfl) ?_
    show Run p e below _ (T28.setTop (mkF m 127 #[.val (.int p0), .val (.int p1), .val (.long l2), .second, .val (.int ((p0 &&& (2147483647 : Int32)) % (3 : Int32))), .val (.ref kd), .val (.int (pk p1 l2 (0 : Int32) (86 : Int32))), .val (.int (pk p1 l2 (1 : Int32) (79 : Int32))), .val (.int (pk p1 l2 (2 : Int32) (95 : Int32))), .val (.int (pk p1 l2 (3 : Int32) (65 : Int32))), .val (.int (pk p1 l2 (4 : Int32) (68 : Int32))), .val (.int (pk p1 l2 (5 : Int32) (77 : Int32))), .val (.int (pk p1 l2 (6 : Int32) (73 : Int32))), .val (.int (pk p1 l2 (7 : Int32) (78 : Int32))), .unset, .unset, .unset, .unset, .unset] [(.int ((((p1.toUInt32 >>> ((10 : Int32) &&& 31).toUInt32).toInt32) &&& (255 : Int32)).toUInt32.toUInt16.toUInt32.toInt32))]))
    refine go (fun _ => XS.istore X28.here hx rfl (hb hby at_127) rfl (l' := #[.val (.int p0), .val (.int p1), .val (.long l2), .second, .val (.int ((p0 &&& (2147483647 : Int32)) % (3 : Int32))), .val (.ref kd), .val (.int (pk p1 l2 (0 : Int32) (86 : Int32))), .val (.int (pk p1 l2 (1 : Int32) (79 : Int32))), .val (.int (pk p1 l2 (2 : Int32) (95 : Int32))), .val (.int (pk p1 l2 (3 : Int32) (65 : Int32))), .val (.int (pk p1 l2 (4 : Int32) (68 : Int32))), .val (.int (pk p1 l2 (5 : Int32) (77 : Int32))), .val (.int (pk p1 l2 (6 : Int32) (73 : Int32))), .val (.int (pk p1 l2 (7 : Int32) (78 : Int32))), .val (.int ((((p1.toUInt32 >>> ((10 : Int32) &&& 31).toUInt32).toInt32) &&& (255 : Int32)).toUInt32.toUInt16.toUInt32.toInt32)), .unset, .unset, .unset, .unset]) rfl) ?_
    show Run p e below _ (T28.setTop (mkF m 129 #[.val (.int p0), .val (.int p1), .val (.long l2), .second, .val (.int ((p0 &&& (2147483647 : Int32)) % (3 : Int32))), .val (.ref kd), .val (.int (pk p1 l2 (0 : Int32) (86 : Int32))), .val (.int (pk p1 l2 (1 : Int32) (79 : Int32))), .val (.int (pk p1 l2 (2 : Int32) (95 : Int32))), .val (.int (pk p1 l2 (3 : Int32) (65 : Int32))), .val (.int (pk p1 l2 (4 : Int32) (68 : Int32))), .val (.int (pk p1 l2 (5 : Int32) (77 : Int32))), .val (.int (pk p1 l2 (6 : Int32) (73 : Int32))), .val (.int (pk p1 l2 (7 : Int32) (78 : Int32))), .val (.int ((((p1.toUInt32 >>> ((10 : Int32) &&& 31).toUInt32).toInt32) &&& (255 : Int32)).toUInt32.toUInt16.toUInt32.toInt32)), .unset, .unset, .unset, .unset] []))
    refine go (fun _ => XS.iloadN X28.here hx rfl (hb hby at_129) rfl) ?_
    show Run p e below _ (T28.setTop (mkF m 130 #[.val (.int p0), .val (.int p1), .val (.long l2), .second, .val (.int ((p0 &&& (2147483647 : Int32)) % (3 : Int32))), .val (.ref kd), .val (.int (pk p1 l2 (0 : Int32) (86 : Int32))), .val (.int (pk p1 l2 (1 : Int32) (79 : Int32))), .val (.int (pk p1 l2 (2 : Int32) (95 : Int32))), .val (.int (pk p1 l2 (3 : Int32) (65 : Int32))), .val (.int (pk p1 l2 (4 : Int32) (68 : Int32))), .val (.int (pk p1 l2 (5 : Int32) (77 : Int32))), .val (.int (pk p1 l2 (6 : Int32) (73 : Int32))), .val (.int (pk p1 l2 (7 : Int32) (78 : Int32))), .val (.int ((((p1.toUInt32 >>> ((10 : Int32) &&& 31).toUInt32).toInt32) &&& (255 : Int32)).toUInt32.toUInt16.toUInt32.toInt32)), .unset, .unset, .unset, .unset] [(.int p1)]))
    refine go (fun _ => XS.bipush X28.here hx rfl (hb hby at_130)) ?_
    show Run p e below _ (T28.setTop (mkF m 132 #[.val (.int p0), .val (.int p1), .val (.long l2), .second, .val (.int ((p0 &&& (2147483647 : Int32)) % (3 : Int32))), .val (.ref kd), .val (.int (pk p1 l2 (0 : Int32) (86 : Int32))), .val (.int (pk p1 l2 (1 : Int32) (79 : Int32))), .val (.int (pk p1 l2 (2 : Int32) (95 : Int32))), .val (.int (pk p1 l2 (3 : Int32) (65 : Int32))), .val (.int (pk p1 l2 (4 : Int32) (68 : Int32))), .val (.int (pk p1 l2 (5 : Int32) (77 : Int32))), .val (.int (pk p1 l2 (6 : Int32) (73 : Int32))), .val (.int (pk p1 l2 (7 : Int32) (78 : Int32))), .val (.int ((((p1.toUInt32 >>> ((10 : Int32) &&& 31).toUInt32).toInt32) &&& (255 : Int32)).toUInt32.toUInt16.toUInt32.toInt32)), .unset, .unset, .unset, .unset] [(.int (8 : Int32)), (.int p1)]))
    refine go (fun _ => XS.iushr X28.here hx rfl (hb hby at_132) rfl) ?_
    show Run p e below _ (T28.setTop (mkF m 133 #[.val (.int p0), .val (.int p1), .val (.long l2), .second, .val (.int ((p0 &&& (2147483647 : Int32)) % (3 : Int32))), .val (.ref kd), .val (.int (pk p1 l2 (0 : Int32) (86 : Int32))), .val (.int (pk p1 l2 (1 : Int32) (79 : Int32))), .val (.int (pk p1 l2 (2 : Int32) (95 : Int32))), .val (.int (pk p1 l2 (3 : Int32) (65 : Int32))), .val (.int (pk p1 l2 (4 : Int32) (68 : Int32))), .val (.int (pk p1 l2 (5 : Int32) (77 : Int32))), .val (.int (pk p1 l2 (6 : Int32) (73 : Int32))), .val (.int (pk p1 l2 (7 : Int32) (78 : Int32))), .val (.int ((((p1.toUInt32 >>> ((10 : Int32) &&& 31).toUInt32).toInt32) &&& (255 : Int32)).toUInt32.toUInt16.toUInt32.toInt32)), .unset, .unset, .unset, .unset] [(.int ((p1.toUInt32 >>> ((8 : Int32) &&& 31).toUInt32).toInt32))]))
    refine go (fun _ => XS.iconst X28.here hx rfl (hb hby at_133)) ?_
    show Run p e below _ (T28.setTop (mkF m 134 #[.val (.int p0), .val (.int p1), .val (.long l2), .second, .val (.int ((p0 &&& (2147483647 : Int32)) % (3 : Int32))), .val (.ref kd), .val (.int (pk p1 l2 (0 : Int32) (86 : Int32))), .val (.int (pk p1 l2 (1 : Int32) (79 : Int32))), .val (.int (pk p1 l2 (2 : Int32) (95 : Int32))), .val (.int (pk p1 l2 (3 : Int32) (65 : Int32))), .val (.int (pk p1 l2 (4 : Int32) (68 : Int32))), .val (.int (pk p1 l2 (5 : Int32) (77 : Int32))), .val (.int (pk p1 l2 (6 : Int32) (73 : Int32))), .val (.int (pk p1 l2 (7 : Int32) (78 : Int32))), .val (.int ((((p1.toUInt32 >>> ((10 : Int32) &&& 31).toUInt32).toInt32) &&& (255 : Int32)).toUInt32.toUInt16.toUInt32.toInt32)), .unset, .unset, .unset, .unset] [(.int (3 : Int32)), (.int ((p1.toUInt32 >>> ((8 : Int32) &&& 31).toUInt32).toInt32))]))
    refine go (fun _ => XS.iand X28.here hx rfl (hb hby at_134) rfl) ?_
    show Run p e below _ (T28.setTop (mkF m 135 #[.val (.int p0), .val (.int p1), .val (.long l2), .second, .val (.int ((p0 &&& (2147483647 : Int32)) % (3 : Int32))), .val (.ref kd), .val (.int (pk p1 l2 (0 : Int32) (86 : Int32))), .val (.int (pk p1 l2 (1 : Int32) (79 : Int32))), .val (.int (pk p1 l2 (2 : Int32) (95 : Int32))), .val (.int (pk p1 l2 (3 : Int32) (65 : Int32))), .val (.int (pk p1 l2 (4 : Int32) (68 : Int32))), .val (.int (pk p1 l2 (5 : Int32) (77 : Int32))), .val (.int (pk p1 l2 (6 : Int32) (73 : Int32))), .val (.int (pk p1 l2 (7 : Int32) (78 : Int32))), .val (.int ((((p1.toUInt32 >>> ((10 : Int32) &&& 31).toUInt32).toInt32) &&& (255 : Int32)).toUInt32.toUInt16.toUInt32.toInt32)), .unset, .unset, .unset, .unset] [(.int (((p1.toUInt32 >>> ((8 : Int32) &&& 31).toUInt32).toInt32) &&& (3 : Int32)))]))
    refine go (fun _ => XS.istore X28.here hx rfl (hb hby at_135) rfl (l' := #[.val (.int p0), .val (.int p1), .val (.long l2), .second, .val (.int ((p0 &&& (2147483647 : Int32)) % (3 : Int32))), .val (.ref kd), .val (.int (pk p1 l2 (0 : Int32) (86 : Int32))), .val (.int (pk p1 l2 (1 : Int32) (79 : Int32))), .val (.int (pk p1 l2 (2 : Int32) (95 : Int32))), .val (.int (pk p1 l2 (3 : Int32) (65 : Int32))), .val (.int (pk p1 l2 (4 : Int32) (68 : Int32))), .val (.int (pk p1 l2 (5 : Int32) (77 : Int32))), .val (.int (pk p1 l2 (6 : Int32) (73 : Int32))), .val (.int (pk p1 l2 (7 : Int32) (78 : Int32))), .val (.int ((((p1.toUInt32 >>> ((10 : Int32) &&& 31).toUInt32).toInt32) &&& (255 : Int32)).toUInt32.toUInt16.toUInt32.toInt32)), .val (.int (((p1.toUInt32 >>> ((8 : Int32) &&& 31).toUInt32).toInt32) &&& (3 : Int32))), .unset, .unset, .unset]) rfl) ?_
    show Run p e below _ (T28.setTop (mkF m 137 #[.val (.int p0), .val (.int p1), .val (.long l2), .second, .val (.int ((p0 &&& (2147483647 : Int32)) % (3 : Int32))), .val (.ref kd), .val (.int (pk p1 l2 (0 : Int32) (86 : Int32))), .val (.int (pk p1 l2 (1 : Int32) (79 : Int32))), .val (.int (pk p1 l2 (2 : Int32) (95 : Int32))), .val (.int (pk p1 l2 (3 : Int32) (65 : Int32))), .val (.int (pk p1 l2 (4 : Int32) (68 : Int32))), .val (.int (pk p1 l2 (5 : Int32) (77 : Int32))), .val (.int (pk p1 l2 (6 : Int32) (73 : Int32))), .val (.int (pk p1 l2 (7 : Int32) (78 : Int32))), .val (.int ((((p1.toUInt32 >>> ((10 : Int32) &&& 31).toUInt32).toInt32) &&& (255 : Int32)).toUInt32.toUInt16.toUInt32.toInt32)), .val (.int (((p1.toUInt32 >>> ((8 : Int32) &&& 31).toUInt32).toInt32) &&& (3 : Int32))), .unset, .unset, .unset] []))
    have J340 : ∀ (T29 : State) (L29 : List Loc) (h29 : Heap) (vm29 : Vm) (k29 : Nat) (X29 : Stand p l e room_1 (s.setVm vm29) m #[(.int p0), (.int p1), (.long l2)] below meth c T29 L29 8 60) (e29 : T29.heap = h29) (N29 : Fr n0 L29) (hZ : Z.Warmed39 vm29) (hown : vm29.findClass "com/example/gridsteward/gridsteward/NameKindIsProtectedPinLaw" = some m.cls) (hS : s.Since vm29 k29) (hk : k29 ≤ h29.size) (CH : CHr Z consts_1 s.vm h0 vm29 h29) (x t : Addr) (kb : ClassId) (cs : List Int32) (O0 : Old Z n0 h29) (T_x : Str Z h29 x t kb cs) (Hx : In8 cs) (lx : cs.length ≤ 4000) (hs0 : (((p1.toUInt32 >>> ((8 : Int32) &&& 31).toUInt32).toInt32) &&& (3 : Int32)) = 0 → cs = [(pk p1 l2 (0 : Int32) (86 : Int32)), (pk p1 l2 (1 : Int32) (79 : Int32)), (pk p1 l2 (2 : Int32) (95 : Int32)), (pk p1 l2 (3 : Int32) (65 : Int32)), (pk p1 l2 (4 : Int32) (68 : Int32)), (pk p1 l2 (5 : Int32) (77 : Int32)), (pk p1 l2 (6 : Int32) (73 : Int32)), (pk p1 l2 (7 : Int32) (78 : Int32))]) (hs1 : ¬ (((p1.toUInt32 >>> ((8 : Int32) &&& 31).toUInt32).toInt32) &&& (3 : Int32)) = 0 → ¬ ([86, 79, 95, 65, 68, 77, 73, 78] : List Int32) = cs), Run p e below (EndsS Z consts_1 s (Q_rmlaw p0 p1 l2 zc wg wr wc h0 n0) 24 2176) (T29.setTop (mkF m 340 #[.val (.int p0), .val (.int p1), .val (.long l2), .second, .val (.int ((p0 &&& (2147483647 : Int32)) % (3 : Int32))), .val (.ref kd), .val (.int (pk p1 l2 (0 : Int32) (86 : Int32))), .val (.int (pk p1 l2 (1 : Int32) (79 : Int32))), .val (.int (pk p1 l2 (2 : Int32) (95 : Int32))), .val (.int (pk p1 l2 (3 : Int32) (65 : Int32))), .val (.int (pk p1 l2 (4 : Int32) (68 : Int32))), .val (.int (pk p1 l2 (5 : Int32) (77 : Int32))), .val (.int (pk p1 l2 (6 : Int32) (73 : Int32))), .val (.int (pk p1 l2 (7 : Int32) (78 : Int32))), .val (.int ((((p1.toUInt32 >>> ((10 : Int32) &&& 31).toUInt32).toInt32) &&& (255 : Int32)).toUInt32.toUInt16.toUInt32.toInt32)), .val (.int (((p1.toUInt32 >>> ((8 : Int32) &&& 31).toUInt32).toInt32) &&& (3 : Int32))), .val (.ref x), .unset, .unset] [])) := by
      intro T29 L29 h29 vm29 k29 X29 e29 N29 hZ hown hS hk CH x t kb cs O0 T_x Hx lx hs0 hs1
      have J408 : ∀ (T30 : State) (L30 : List Loc) (X30 : Stand p l e room_1 (s.setVm vm29) m #[(.int p0), (.int p1), (.long l2)] below meth c T30 L30 8 60) (e30 : T30.heap = h29) (N30 : Fr n0 L30) (ex : Int32)  (hex : ex = if ([86, 79, 95, 65, 68, 77, 73, 78] : List Int32) = cs then 1 else 0), Run p e below (EndsS Z consts_1 s (Q_rmlaw p0 p1 l2 zc wg wr wc h0 n0) 24 2176) (T30.setTop (mkF m 408 #[.val (.int p0), .val (.int p1), .val (.long l2), .second, .val (.int ((p0 &&& (2147483647 : Int32)) % (3 : Int32))), .val (.ref kd), .val (.int (pk p1 l2 (0 : Int32) (86 : Int32))), .val (.int (pk p1 l2 (1 : Int32) (79 : Int32))), .val (.int (pk p1 l2 (2 : Int32) (95 : Int32))), .val (.int (pk p1 l2 (3 : Int32) (65 : Int32))), .val (.int (pk p1 l2 (4 : Int32) (68 : Int32))), .val (.int (pk p1 l2 (5 : Int32) (77 : Int32))), .val (.int (pk p1 l2 (6 : Int32) (73 : Int32))), .val (.int (pk p1 l2 (7 : Int32) (78 : Int32))), .val (.int ((((p1.toUInt32 >>> ((10 : Int32) &&& 31).toUInt32).toInt32) &&& (255 : Int32)).toUInt32.toUInt16.toUInt32.toInt32)), .val (.int (((p1.toUInt32 >>> ((8 : Int32) &&& 31).toUInt32).toInt32) &&& (3 : Int32))), .val (.ref x), .val (.int ex), .unset] [])) := by
        intro T30 L30 X30 e30 N30 ex  hex
        have J426 : ∀ (T31 : State) (L31 : List Loc) (X31 : Stand p l e room_1 (s.setVm vm29) m #[(.int p0), (.int p1), (.long l2)] below meth c T31 L31 8 60) (e31 : T31.heap = h29) (N31 : Fr n0 L31) (ey : Int32)  (hey : ey = (if ((p0 &&& (2147483647 : Int32)) % (3 : Int32)) = 1 then (if ([86, 79, 95, 65, 68, 77, 73, 78] : List Int32) = cs then (1 : Int32) else 0) else 0)), Run p e below (EndsS Z consts_1 s (Q_rmlaw p0 p1 l2 zc wg wr wc h0 n0) 24 2176) (T31.setTop (mkF m 426 #[.val (.int p0), .val (.int p1), .val (.long l2), .second, .val (.int ((p0 &&& (2147483647 : Int32)) % (3 : Int32))), .val (.ref kd), .val (.int (pk p1 l2 (0 : Int32) (86 : Int32))), .val (.int (pk p1 l2 (1 : Int32) (79 : Int32))), .val (.int (pk p1 l2 (2 : Int32) (95 : Int32))), .val (.int (pk p1 l2 (3 : Int32) (65 : Int32))), .val (.int (pk p1 l2 (4 : Int32) (68 : Int32))), .val (.int (pk p1 l2 (5 : Int32) (77 : Int32))), .val (.int (pk p1 l2 (6 : Int32) (73 : Int32))), .val (.int (pk p1 l2 (7 : Int32) (78 : Int32))), .val (.int ((((p1.toUInt32 >>> ((10 : Int32) &&& 31).toUInt32).toInt32) &&& (255 : Int32)).toUInt32.toUInt16.toUInt32.toInt32)), .val (.int (((p1.toUInt32 >>> ((8 : Int32) &&& 31).toUInt32).toInt32) &&& (3 : Int32))), .val (.ref x), .val (.int ex), .val (.int ey)] [])) := by
          intro T31 L31 X31 e31 N31 ey  hey
          have hwg : wg ≠ wr := ne_exa Ewg Ewr (by decide)
          have hwc : wc ≠ wr := ne_exa Ewc Ewr (by decide)
          rcases hK with ⟨hK, rfl⟩ | ⟨hK, rfl | rfl⟩
          · skip
            have hR : (if ([86, 79, 95, 65, 68, 77, 73, 78] : List Int32) = cs then (1 : Int32) else 0) = ey := by rw [hey, if_pos hK]
            refine go (fun _ => XS.aload X31.here hx rfl (hb hby at_426) rfl rfl) ?_
            show Run p e below _ (T31.setTop (mkF m 428 #[.val (.int p0), .val (.int p1), .val (.long l2), .second, .val (.int ((p0 &&& (2147483647 : Int32)) % (3 : Int32))), .val (.ref kd), .val (.int (pk p1 l2 (0 : Int32) (86 : Int32))), .val (.int (pk p1 l2 (1 : Int32) (79 : Int32))), .val (.int (pk p1 l2 (2 : Int32) (95 : Int32))), .val (.int (pk p1 l2 (3 : Int32) (65 : Int32))), .val (.int (pk p1 l2 (4 : Int32) (68 : Int32))), .val (.int (pk p1 l2 (5 : Int32) (77 : Int32))), .val (.int (pk p1 l2 (6 : Int32) (73 : Int32))), .val (.int (pk p1 l2 (7 : Int32) (78 : Int32))), .val (.int ((((p1.toUInt32 >>> ((10 : Int32) &&& 31).toUInt32).toInt32) &&& (255 : Int32)).toUInt32.toUInt16.toUInt32.toInt32)), .val (.int (((p1.toUInt32 >>> ((8 : Int32) &&& 31).toUInt32).toInt32) &&& (3 : Int32))), .val (.ref x), .val (.int ex), .val (.int ey)] [(.ref kd)]))
            refine go (fun _ => XS.aload X31.here hx rfl (hb hby at_428) rfl rfl) ?_
            show Run p e below _ (T31.setTop (mkF m 430 #[.val (.int p0), .val (.int p1), .val (.long l2), .second, .val (.int ((p0 &&& (2147483647 : Int32)) % (3 : Int32))), .val (.ref kd), .val (.int (pk p1 l2 (0 : Int32) (86 : Int32))), .val (.int (pk p1 l2 (1 : Int32) (79 : Int32))), .val (.int (pk p1 l2 (2 : Int32) (95 : Int32))), .val (.int (pk p1 l2 (3 : Int32) (65 : Int32))), .val (.int (pk p1 l2 (4 : Int32) (68 : Int32))), .val (.int (pk p1 l2 (5 : Int32) (77 : Int32))), .val (.int (pk p1 l2 (6 : Int32) (73 : Int32))), .val (.int (pk p1 l2 (7 : Int32) (78 : Int32))), .val (.int ((((p1.toUInt32 >>> ((10 : Int32) &&& 31).toUInt32).toInt32) &&& (255 : Int32)).toUInt32.toUInt16.toUInt32.toInt32)), .val (.int (((p1.toUInt32 >>> ((8 : Int32) &&& 31).toUInt32).toInt32) &&& (3 : Int32))), .val (.ref x), .val (.int ex), .val (.int ey)] [(.ref x), (.ref kd)]))
            refine callViS X31 hx hZ hown (wd hw 39 rfl) (wd hw 40 rfl) (notFace_of_selects (args := #[]) (mvT hZ (wd hw 47 rfl))) (wd hw 47 rfl) (wd hw 41 rfl) (wd hw 43 rfl) (wd hw 2 rfl) (by decide) e31 hS hk hEL CH (Ewr.ext O0.2) (argsL := [(.ref x)]) (rest := []) all0 (rm_ip1 l Z a0 hw [] zc kd x t kb cs h29 n0 O0 hEL S_COMPACT_STRINGS hzc S_ROLE T_x Hx lx) (W := 0) (by decide) (by decide) (by decide) (by decide) (by rw [hml]; rfl) (lenOf pd_3 rfl) rfl (Nat.le_of_eq rfl) (hb hby at_430) ?_
            intro v32 T32 L32 h32 k32 X32 e32 hS hk hZ hown CH' D32 q32
            have lt33_x := T_x.1.lt
            have lt33_t := T_x.2.2.2.lt
            obtain ⟨rv, n32, K32⟩ := q32
            replace rv : v32 = some (.int (if ([86, 79, 95, 65, 68, 77, 73, 78] : List Int32) = cs then (1 : Int32) else 0)) := rv
            subst rv
            have O0 := O0.keep K32 all0
            have T_x := T_x.keep K32 nin0 nin0
            have N32 := Fr.app N31 n32
            have CH := CH'
            show Run p e below _ (T32.setTop (mkF m 433 #[.val (.int p0), .val (.int p1), .val (.long l2), .second, .val (.int ((p0 &&& (2147483647 : Int32)) % (3 : Int32))), .val (.ref kd), .val (.int (pk p1 l2 (0 : Int32) (86 : Int32))), .val (.int (pk p1 l2 (1 : Int32) (79 : Int32))), .val (.int (pk p1 l2 (2 : Int32) (95 : Int32))), .val (.int (pk p1 l2 (3 : Int32) (65 : Int32))), .val (.int (pk p1 l2 (4 : Int32) (68 : Int32))), .val (.int (pk p1 l2 (5 : Int32) (77 : Int32))), .val (.int (pk p1 l2 (6 : Int32) (73 : Int32))), .val (.int (pk p1 l2 (7 : Int32) (78 : Int32))), .val (.int ((((p1.toUInt32 >>> ((10 : Int32) &&& 31).toUInt32).toInt32) &&& (255 : Int32)).toUInt32.toUInt16.toUInt32.toInt32)), .val (.int (((p1.toUInt32 >>> ((8 : Int32) &&& 31).toUInt32).toInt32) &&& (3 : Int32))), .val (.ref x), .val (.int ex), .val (.int ey)] [(.int (if ([86, 79, 95, 65, 68, 77, 73, 78] : List Int32) = cs then (1 : Int32) else 0))]))
            refine go (fun _ => XS.iload X32.here hx rfl (hb hby at_433) rfl) ?_
            show Run p e below _ (T32.setTop (mkF m 435 #[.val (.int p0), .val (.int p1), .val (.long l2), .second, .val (.int ((p0 &&& (2147483647 : Int32)) % (3 : Int32))), .val (.ref kd), .val (.int (pk p1 l2 (0 : Int32) (86 : Int32))), .val (.int (pk p1 l2 (1 : Int32) (79 : Int32))), .val (.int (pk p1 l2 (2 : Int32) (95 : Int32))), .val (.int (pk p1 l2 (3 : Int32) (65 : Int32))), .val (.int (pk p1 l2 (4 : Int32) (68 : Int32))), .val (.int (pk p1 l2 (5 : Int32) (77 : Int32))), .val (.int (pk p1 l2 (6 : Int32) (73 : Int32))), .val (.int (pk p1 l2 (7 : Int32) (78 : Int32))), .val (.int ((((p1.toUInt32 >>> ((10 : Int32) &&& 31).toUInt32).toInt32) &&& (255 : Int32)).toUInt32.toUInt16.toUInt32.toInt32)), .val (.int (((p1.toUInt32 >>> ((8 : Int32) &&& 31).toUInt32).toInt32) &&& (3 : Int32))), .val (.ref x), .val (.int ex), .val (.int ey)] [(.int ey), (.int (if ([86, 79, 95, 65, 68, 77, 73, 78] : List Int32) = cs then (1 : Int32) else 0))]))
            refine go (fun _ => XS.icmpNo X32.here hx rfl (hb hby at_435) rfl (teq hR).2) ?_
            show Run p e below _ (T32.setTop (mkF m 438 #[.val (.int p0), .val (.int p1), .val (.long l2), .second, .val (.int ((p0 &&& (2147483647 : Int32)) % (3 : Int32))), .val (.ref kd), .val (.int (pk p1 l2 (0 : Int32) (86 : Int32))), .val (.int (pk p1 l2 (1 : Int32) (79 : Int32))), .val (.int (pk p1 l2 (2 : Int32) (95 : Int32))), .val (.int (pk p1 l2 (3 : Int32) (65 : Int32))), .val (.int (pk p1 l2 (4 : Int32) (68 : Int32))), .val (.int (pk p1 l2 (5 : Int32) (77 : Int32))), .val (.int (pk p1 l2 (6 : Int32) (73 : Int32))), .val (.int (pk p1 l2 (7 : Int32) (78 : Int32))), .val (.int ((((p1.toUInt32 >>> ((10 : Int32) &&& 31).toUInt32).toInt32) &&& (255 : Int32)).toUInt32.toUInt16.toUInt32.toInt32)), .val (.int (((p1.toUInt32 >>> ((8 : Int32) &&& 31).toUInt32).toInt32) &&& (3 : Int32))), .val (.ref x), .val (.int ex), .val (.int ey)] []))
            refine go (fun _ => XS.iconst X32.here hx rfl (hb hby at_438)) ?_
            show Run p e below _ (T32.setTop (mkF m 439 #[.val (.int p0), .val (.int p1), .val (.long l2), .second, .val (.int ((p0 &&& (2147483647 : Int32)) % (3 : Int32))), .val (.ref kd), .val (.int (pk p1 l2 (0 : Int32) (86 : Int32))), .val (.int (pk p1 l2 (1 : Int32) (79 : Int32))), .val (.int (pk p1 l2 (2 : Int32) (95 : Int32))), .val (.int (pk p1 l2 (3 : Int32) (65 : Int32))), .val (.int (pk p1 l2 (4 : Int32) (68 : Int32))), .val (.int (pk p1 l2 (5 : Int32) (77 : Int32))), .val (.int (pk p1 l2 (6 : Int32) (73 : Int32))), .val (.int (pk p1 l2 (7 : Int32) (78 : Int32))), .val (.int ((((p1.toUInt32 >>> ((10 : Int32) &&& 31).toUInt32).toInt32) &&& (255 : Int32)).toUInt32.toUInt16.toUInt32.toInt32)), .val (.int (((p1.toUInt32 >>> ((8 : Int32) &&& 31).toUInt32).toInt32) &&& (3 : Int32))), .val (.ref x), .val (.int ex), .val (.int ey)] [(.int (1 : Int32))]))
            refine go (fun _ => XS.goto X32.here hx rfl (pc0 := 439) (pc' := 443) rfl (hb hby at_439) (by decide) (by decide)) ?_
            show Run p e below _ (T32.setTop (mkF m 443 #[.val (.int p0), .val (.int p1), .val (.long l2), .second, .val (.int ((p0 &&& (2147483647 : Int32)) % (3 : Int32))), .val (.ref kd), .val (.int (pk p1 l2 (0 : Int32) (86 : Int32))), .val (.int (pk p1 l2 (1 : Int32) (79 : Int32))), .val (.int (pk p1 l2 (2 : Int32) (95 : Int32))), .val (.int (pk p1 l2 (3 : Int32) (65 : Int32))), .val (.int (pk p1 l2 (4 : Int32) (68 : Int32))), .val (.int (pk p1 l2 (5 : Int32) (77 : Int32))), .val (.int (pk p1 l2 (6 : Int32) (73 : Int32))), .val (.int (pk p1 l2 (7 : Int32) (78 : Int32))), .val (.int ((((p1.toUInt32 >>> ((10 : Int32) &&& 31).toUInt32).toInt32) &&& (255 : Int32)).toUInt32.toUInt16.toUInt32.toInt32)), .val (.int (((p1.toUInt32 >>> ((8 : Int32) &&& 31).toUInt32).toInt32) &&& (3 : Int32))), .val (.ref x), .val (.int ex), .val (.int ey)] [(.int (1 : Int32))]))
            exact endNS X32 hx hlk hZ hEL e32 eS CH hS hk (t := .boolean) hret (by simp) (hb hby at_443) (⟨rfl, N32⟩) (by decide) (by decide)
          · skip
            have hR : (0 : Int32) = ey := by rw [hey, if_neg hK]
            refine go (fun _ => XS.aload X31.here hx rfl (hb hby at_426) rfl rfl) ?_
            show Run p e below _ (T31.setTop (mkF m 428 #[.val (.int p0), .val (.int p1), .val (.long l2), .second, .val (.int ((p0 &&& (2147483647 : Int32)) % (3 : Int32))), .val (.ref kd), .val (.int (pk p1 l2 (0 : Int32) (86 : Int32))), .val (.int (pk p1 l2 (1 : Int32) (79 : Int32))), .val (.int (pk p1 l2 (2 : Int32) (95 : Int32))), .val (.int (pk p1 l2 (3 : Int32) (65 : Int32))), .val (.int (pk p1 l2 (4 : Int32) (68 : Int32))), .val (.int (pk p1 l2 (5 : Int32) (77 : Int32))), .val (.int (pk p1 l2 (6 : Int32) (73 : Int32))), .val (.int (pk p1 l2 (7 : Int32) (78 : Int32))), .val (.int ((((p1.toUInt32 >>> ((10 : Int32) &&& 31).toUInt32).toInt32) &&& (255 : Int32)).toUInt32.toUInt16.toUInt32.toInt32)), .val (.int (((p1.toUInt32 >>> ((8 : Int32) &&& 31).toUInt32).toInt32) &&& (3 : Int32))), .val (.ref x), .val (.int ex), .val (.int ey)] [(.ref kd)]))
            refine go (fun _ => XS.aload X31.here hx rfl (hb hby at_428) rfl rfl) ?_
            show Run p e below _ (T31.setTop (mkF m 430 #[.val (.int p0), .val (.int p1), .val (.long l2), .second, .val (.int ((p0 &&& (2147483647 : Int32)) % (3 : Int32))), .val (.ref kd), .val (.int (pk p1 l2 (0 : Int32) (86 : Int32))), .val (.int (pk p1 l2 (1 : Int32) (79 : Int32))), .val (.int (pk p1 l2 (2 : Int32) (95 : Int32))), .val (.int (pk p1 l2 (3 : Int32) (65 : Int32))), .val (.int (pk p1 l2 (4 : Int32) (68 : Int32))), .val (.int (pk p1 l2 (5 : Int32) (77 : Int32))), .val (.int (pk p1 l2 (6 : Int32) (73 : Int32))), .val (.int (pk p1 l2 (7 : Int32) (78 : Int32))), .val (.int ((((p1.toUInt32 >>> ((10 : Int32) &&& 31).toUInt32).toInt32) &&& (255 : Int32)).toUInt32.toUInt16.toUInt32.toInt32)), .val (.int (((p1.toUInt32 >>> ((8 : Int32) &&& 31).toUInt32).toInt32) &&& (3 : Int32))), .val (.ref x), .val (.int ex), .val (.int ey)] [(.ref x), (.ref kd)]))
            refine callViS X31 hx hZ hown (wd hw 39 rfl) (wd hw 40 rfl) (notFace_of_selects (args := #[]) (mvT hZ (wd hw 42 rfl))) (wd hw 42 rfl) (wd hw 41 rfl) (wd hw 43 rfl) (wd hw 2 rfl) (by decide) e31 hS hk hEL CH (Ewg.ext O0.2) (argsL := [(.ref x)]) (rest := []) all0 (rm_ip0 l Z a0 hw [] zc kd wr x t kb cs h29 n0 O0 hEL S_COMPACT_STRINGS hzc S_ROLE T_x Hx lx hwg) (W := 0) (by decide) (by decide) (by decide) (by decide) (by rw [hml]; rfl) (lenOf pd_3 rfl) rfl (Nat.le_of_eq rfl) (hb hby at_430) ?_
            intro v34 T34 L34 h34 k34 X34 e34 hS hk hZ hown CH' D34 q34
            have lt35_x := T_x.1.lt
            have lt35_t := T_x.2.2.2.lt
            obtain ⟨rv, n34, K34⟩ := q34
            replace rv : v34 = some (.int (0 : Int32)) := rv
            subst rv
            have O0 := O0.keep K34 all0
            have T_x := T_x.keep K34 nin0 nin0
            have N34 := Fr.app N31 n34
            have CH := CH'
            show Run p e below _ (T34.setTop (mkF m 433 #[.val (.int p0), .val (.int p1), .val (.long l2), .second, .val (.int ((p0 &&& (2147483647 : Int32)) % (3 : Int32))), .val (.ref kd), .val (.int (pk p1 l2 (0 : Int32) (86 : Int32))), .val (.int (pk p1 l2 (1 : Int32) (79 : Int32))), .val (.int (pk p1 l2 (2 : Int32) (95 : Int32))), .val (.int (pk p1 l2 (3 : Int32) (65 : Int32))), .val (.int (pk p1 l2 (4 : Int32) (68 : Int32))), .val (.int (pk p1 l2 (5 : Int32) (77 : Int32))), .val (.int (pk p1 l2 (6 : Int32) (73 : Int32))), .val (.int (pk p1 l2 (7 : Int32) (78 : Int32))), .val (.int ((((p1.toUInt32 >>> ((10 : Int32) &&& 31).toUInt32).toInt32) &&& (255 : Int32)).toUInt32.toUInt16.toUInt32.toInt32)), .val (.int (((p1.toUInt32 >>> ((8 : Int32) &&& 31).toUInt32).toInt32) &&& (3 : Int32))), .val (.ref x), .val (.int ex), .val (.int ey)] [(.int (0 : Int32))]))
            refine go (fun _ => XS.iload X34.here hx rfl (hb hby at_433) rfl) ?_
            show Run p e below _ (T34.setTop (mkF m 435 #[.val (.int p0), .val (.int p1), .val (.long l2), .second, .val (.int ((p0 &&& (2147483647 : Int32)) % (3 : Int32))), .val (.ref kd), .val (.int (pk p1 l2 (0 : Int32) (86 : Int32))), .val (.int (pk p1 l2 (1 : Int32) (79 : Int32))), .val (.int (pk p1 l2 (2 : Int32) (95 : Int32))), .val (.int (pk p1 l2 (3 : Int32) (65 : Int32))), .val (.int (pk p1 l2 (4 : Int32) (68 : Int32))), .val (.int (pk p1 l2 (5 : Int32) (77 : Int32))), .val (.int (pk p1 l2 (6 : Int32) (73 : Int32))), .val (.int (pk p1 l2 (7 : Int32) (78 : Int32))), .val (.int ((((p1.toUInt32 >>> ((10 : Int32) &&& 31).toUInt32).toInt32) &&& (255 : Int32)).toUInt32.toUInt16.toUInt32.toInt32)), .val (.int (((p1.toUInt32 >>> ((8 : Int32) &&& 31).toUInt32).toInt32) &&& (3 : Int32))), .val (.ref x), .val (.int ex), .val (.int ey)] [(.int ey), (.int (0 : Int32))]))
            refine go (fun _ => XS.icmpNo X34.here hx rfl (hb hby at_435) rfl (teq hR).2) ?_
            show Run p e below _ (T34.setTop (mkF m 438 #[.val (.int p0), .val (.int p1), .val (.long l2), .second, .val (.int ((p0 &&& (2147483647 : Int32)) % (3 : Int32))), .val (.ref kd), .val (.int (pk p1 l2 (0 : Int32) (86 : Int32))), .val (.int (pk p1 l2 (1 : Int32) (79 : Int32))), .val (.int (pk p1 l2 (2 : Int32) (95 : Int32))), .val (.int (pk p1 l2 (3 : Int32) (65 : Int32))), .val (.int (pk p1 l2 (4 : Int32) (68 : Int32))), .val (.int (pk p1 l2 (5 : Int32) (77 : Int32))), .val (.int (pk p1 l2 (6 : Int32) (73 : Int32))), .val (.int (pk p1 l2 (7 : Int32) (78 : Int32))), .val (.int ((((p1.toUInt32 >>> ((10 : Int32) &&& 31).toUInt32).toInt32) &&& (255 : Int32)).toUInt32.toUInt16.toUInt32.toInt32)), .val (.int (((p1.toUInt32 >>> ((8 : Int32) &&& 31).toUInt32).toInt32) &&& (3 : Int32))), .val (.ref x), .val (.int ex), .val (.int ey)] []))
            refine go (fun _ => XS.iconst X34.here hx rfl (hb hby at_438)) ?_
            show Run p e below _ (T34.setTop (mkF m 439 #[.val (.int p0), .val (.int p1), .val (.long l2), .second, .val (.int ((p0 &&& (2147483647 : Int32)) % (3 : Int32))), .val (.ref kd), .val (.int (pk p1 l2 (0 : Int32) (86 : Int32))), .val (.int (pk p1 l2 (1 : Int32) (79 : Int32))), .val (.int (pk p1 l2 (2 : Int32) (95 : Int32))), .val (.int (pk p1 l2 (3 : Int32) (65 : Int32))), .val (.int (pk p1 l2 (4 : Int32) (68 : Int32))), .val (.int (pk p1 l2 (5 : Int32) (77 : Int32))), .val (.int (pk p1 l2 (6 : Int32) (73 : Int32))), .val (.int (pk p1 l2 (7 : Int32) (78 : Int32))), .val (.int ((((p1.toUInt32 >>> ((10 : Int32) &&& 31).toUInt32).toInt32) &&& (255 : Int32)).toUInt32.toUInt16.toUInt32.toInt32)), .val (.int (((p1.toUInt32 >>> ((8 : Int32) &&& 31).toUInt32).toInt32) &&& (3 : Int32))), .val (.ref x), .val (.int ex), .val (.int ey)] [(.int (1 : Int32))]))
            refine go (fun _ => XS.goto X34.here hx rfl (pc0 := 439) (pc' := 443) rfl (hb hby at_439) (by decide) (by decide)) ?_
            show Run p e below _ (T34.setTop (mkF m 443 #[.val (.int p0), .val (.int p1), .val (.long l2), .second, .val (.int ((p0 &&& (2147483647 : Int32)) % (3 : Int32))), .val (.ref kd), .val (.int (pk p1 l2 (0 : Int32) (86 : Int32))), .val (.int (pk p1 l2 (1 : Int32) (79 : Int32))), .val (.int (pk p1 l2 (2 : Int32) (95 : Int32))), .val (.int (pk p1 l2 (3 : Int32) (65 : Int32))), .val (.int (pk p1 l2 (4 : Int32) (68 : Int32))), .val (.int (pk p1 l2 (5 : Int32) (77 : Int32))), .val (.int (pk p1 l2 (6 : Int32) (73 : Int32))), .val (.int (pk p1 l2 (7 : Int32) (78 : Int32))), .val (.int ((((p1.toUInt32 >>> ((10 : Int32) &&& 31).toUInt32).toInt32) &&& (255 : Int32)).toUInt32.toUInt16.toUInt32.toInt32)), .val (.int (((p1.toUInt32 >>> ((8 : Int32) &&& 31).toUInt32).toInt32) &&& (3 : Int32))), .val (.ref x), .val (.int ex), .val (.int ey)] [(.int (1 : Int32))]))
            exact endNS X34 hx hlk hZ hEL e34 eS CH hS hk (t := .boolean) hret (by simp) (hb hby at_443) (⟨rfl, N34⟩) (by decide) (by decide)
          · skip
            have hR : (0 : Int32) = ey := by rw [hey, if_neg hK]
            refine go (fun _ => XS.aload X31.here hx rfl (hb hby at_426) rfl rfl) ?_
            show Run p e below _ (T31.setTop (mkF m 428 #[.val (.int p0), .val (.int p1), .val (.long l2), .second, .val (.int ((p0 &&& (2147483647 : Int32)) % (3 : Int32))), .val (.ref kd), .val (.int (pk p1 l2 (0 : Int32) (86 : Int32))), .val (.int (pk p1 l2 (1 : Int32) (79 : Int32))), .val (.int (pk p1 l2 (2 : Int32) (95 : Int32))), .val (.int (pk p1 l2 (3 : Int32) (65 : Int32))), .val (.int (pk p1 l2 (4 : Int32) (68 : Int32))), .val (.int (pk p1 l2 (5 : Int32) (77 : Int32))), .val (.int (pk p1 l2 (6 : Int32) (73 : Int32))), .val (.int (pk p1 l2 (7 : Int32) (78 : Int32))), .val (.int ((((p1.toUInt32 >>> ((10 : Int32) &&& 31).toUInt32).toInt32) &&& (255 : Int32)).toUInt32.toUInt16.toUInt32.toInt32)), .val (.int (((p1.toUInt32 >>> ((8 : Int32) &&& 31).toUInt32).toInt32) &&& (3 : Int32))), .val (.ref x), .val (.int ex), .val (.int ey)] [(.ref kd)]))
            refine go (fun _ => XS.aload X31.here hx rfl (hb hby at_428) rfl rfl) ?_
            show Run p e below _ (T31.setTop (mkF m 430 #[.val (.int p0), .val (.int p1), .val (.long l2), .second, .val (.int ((p0 &&& (2147483647 : Int32)) % (3 : Int32))), .val (.ref kd), .val (.int (pk p1 l2 (0 : Int32) (86 : Int32))), .val (.int (pk p1 l2 (1 : Int32) (79 : Int32))), .val (.int (pk p1 l2 (2 : Int32) (95 : Int32))), .val (.int (pk p1 l2 (3 : Int32) (65 : Int32))), .val (.int (pk p1 l2 (4 : Int32) (68 : Int32))), .val (.int (pk p1 l2 (5 : Int32) (77 : Int32))), .val (.int (pk p1 l2 (6 : Int32) (73 : Int32))), .val (.int (pk p1 l2 (7 : Int32) (78 : Int32))), .val (.int ((((p1.toUInt32 >>> ((10 : Int32) &&& 31).toUInt32).toInt32) &&& (255 : Int32)).toUInt32.toUInt16.toUInt32.toInt32)), .val (.int (((p1.toUInt32 >>> ((8 : Int32) &&& 31).toUInt32).toInt32) &&& (3 : Int32))), .val (.ref x), .val (.int ex), .val (.int ey)] [(.ref x), (.ref kd)]))
            refine callViS X31 hx hZ hown (wd hw 39 rfl) (wd hw 40 rfl) (notFace_of_selects (args := #[]) (mvT hZ (wd hw 64 rfl))) (wd hw 64 rfl) (wd hw 41 rfl) (wd hw 43 rfl) (wd hw 2 rfl) (by decide) e31 hS hk hEL CH (Ewc.ext O0.2) (argsL := [(.ref x)]) (rest := []) all0 (rm_ip0 l Z a0 hw [] zc kd wr x t kb cs h29 n0 O0 hEL S_COMPACT_STRINGS hzc S_ROLE T_x Hx lx hwc) (W := 0) (by decide) (by decide) (by decide) (by decide) (by rw [hml]; rfl) (lenOf pd_3 rfl) rfl (Nat.le_of_eq rfl) (hb hby at_430) ?_
            intro v36 T36 L36 h36 k36 X36 e36 hS hk hZ hown CH' D36 q36
            have lt37_x := T_x.1.lt
            have lt37_t := T_x.2.2.2.lt
            obtain ⟨rv, n36, K36⟩ := q36
            replace rv : v36 = some (.int (0 : Int32)) := rv
            subst rv
            have O0 := O0.keep K36 all0
            have T_x := T_x.keep K36 nin0 nin0
            have N36 := Fr.app N31 n36
            have CH := CH'
            show Run p e below _ (T36.setTop (mkF m 433 #[.val (.int p0), .val (.int p1), .val (.long l2), .second, .val (.int ((p0 &&& (2147483647 : Int32)) % (3 : Int32))), .val (.ref kd), .val (.int (pk p1 l2 (0 : Int32) (86 : Int32))), .val (.int (pk p1 l2 (1 : Int32) (79 : Int32))), .val (.int (pk p1 l2 (2 : Int32) (95 : Int32))), .val (.int (pk p1 l2 (3 : Int32) (65 : Int32))), .val (.int (pk p1 l2 (4 : Int32) (68 : Int32))), .val (.int (pk p1 l2 (5 : Int32) (77 : Int32))), .val (.int (pk p1 l2 (6 : Int32) (73 : Int32))), .val (.int (pk p1 l2 (7 : Int32) (78 : Int32))), .val (.int ((((p1.toUInt32 >>> ((10 : Int32) &&& 31).toUInt32).toInt32) &&& (255 : Int32)).toUInt32.toUInt16.toUInt32.toInt32)), .val (.int (((p1.toUInt32 >>> ((8 : Int32) &&& 31).toUInt32).toInt32) &&& (3 : Int32))), .val (.ref x), .val (.int ex), .val (.int ey)] [(.int (0 : Int32))]))
            refine go (fun _ => XS.iload X36.here hx rfl (hb hby at_433) rfl) ?_
            show Run p e below _ (T36.setTop (mkF m 435 #[.val (.int p0), .val (.int p1), .val (.long l2), .second, .val (.int ((p0 &&& (2147483647 : Int32)) % (3 : Int32))), .val (.ref kd), .val (.int (pk p1 l2 (0 : Int32) (86 : Int32))), .val (.int (pk p1 l2 (1 : Int32) (79 : Int32))), .val (.int (pk p1 l2 (2 : Int32) (95 : Int32))), .val (.int (pk p1 l2 (3 : Int32) (65 : Int32))), .val (.int (pk p1 l2 (4 : Int32) (68 : Int32))), .val (.int (pk p1 l2 (5 : Int32) (77 : Int32))), .val (.int (pk p1 l2 (6 : Int32) (73 : Int32))), .val (.int (pk p1 l2 (7 : Int32) (78 : Int32))), .val (.int ((((p1.toUInt32 >>> ((10 : Int32) &&& 31).toUInt32).toInt32) &&& (255 : Int32)).toUInt32.toUInt16.toUInt32.toInt32)), .val (.int (((p1.toUInt32 >>> ((8 : Int32) &&& 31).toUInt32).toInt32) &&& (3 : Int32))), .val (.ref x), .val (.int ex), .val (.int ey)] [(.int ey), (.int (0 : Int32))]))
            refine go (fun _ => XS.icmpNo X36.here hx rfl (hb hby at_435) rfl (teq hR).2) ?_
            show Run p e below _ (T36.setTop (mkF m 438 #[.val (.int p0), .val (.int p1), .val (.long l2), .second, .val (.int ((p0 &&& (2147483647 : Int32)) % (3 : Int32))), .val (.ref kd), .val (.int (pk p1 l2 (0 : Int32) (86 : Int32))), .val (.int (pk p1 l2 (1 : Int32) (79 : Int32))), .val (.int (pk p1 l2 (2 : Int32) (95 : Int32))), .val (.int (pk p1 l2 (3 : Int32) (65 : Int32))), .val (.int (pk p1 l2 (4 : Int32) (68 : Int32))), .val (.int (pk p1 l2 (5 : Int32) (77 : Int32))), .val (.int (pk p1 l2 (6 : Int32) (73 : Int32))), .val (.int (pk p1 l2 (7 : Int32) (78 : Int32))), .val (.int ((((p1.toUInt32 >>> ((10 : Int32) &&& 31).toUInt32).toInt32) &&& (255 : Int32)).toUInt32.toUInt16.toUInt32.toInt32)), .val (.int (((p1.toUInt32 >>> ((8 : Int32) &&& 31).toUInt32).toInt32) &&& (3 : Int32))), .val (.ref x), .val (.int ex), .val (.int ey)] []))
            refine go (fun _ => XS.iconst X36.here hx rfl (hb hby at_438)) ?_
            show Run p e below _ (T36.setTop (mkF m 439 #[.val (.int p0), .val (.int p1), .val (.long l2), .second, .val (.int ((p0 &&& (2147483647 : Int32)) % (3 : Int32))), .val (.ref kd), .val (.int (pk p1 l2 (0 : Int32) (86 : Int32))), .val (.int (pk p1 l2 (1 : Int32) (79 : Int32))), .val (.int (pk p1 l2 (2 : Int32) (95 : Int32))), .val (.int (pk p1 l2 (3 : Int32) (65 : Int32))), .val (.int (pk p1 l2 (4 : Int32) (68 : Int32))), .val (.int (pk p1 l2 (5 : Int32) (77 : Int32))), .val (.int (pk p1 l2 (6 : Int32) (73 : Int32))), .val (.int (pk p1 l2 (7 : Int32) (78 : Int32))), .val (.int ((((p1.toUInt32 >>> ((10 : Int32) &&& 31).toUInt32).toInt32) &&& (255 : Int32)).toUInt32.toUInt16.toUInt32.toInt32)), .val (.int (((p1.toUInt32 >>> ((8 : Int32) &&& 31).toUInt32).toInt32) &&& (3 : Int32))), .val (.ref x), .val (.int ex), .val (.int ey)] [(.int (1 : Int32))]))
            refine go (fun _ => XS.goto X36.here hx rfl (pc0 := 439) (pc' := 443) rfl (hb hby at_439) (by decide) (by decide)) ?_
            show Run p e below _ (T36.setTop (mkF m 443 #[.val (.int p0), .val (.int p1), .val (.long l2), .second, .val (.int ((p0 &&& (2147483647 : Int32)) % (3 : Int32))), .val (.ref kd), .val (.int (pk p1 l2 (0 : Int32) (86 : Int32))), .val (.int (pk p1 l2 (1 : Int32) (79 : Int32))), .val (.int (pk p1 l2 (2 : Int32) (95 : Int32))), .val (.int (pk p1 l2 (3 : Int32) (65 : Int32))), .val (.int (pk p1 l2 (4 : Int32) (68 : Int32))), .val (.int (pk p1 l2 (5 : Int32) (77 : Int32))), .val (.int (pk p1 l2 (6 : Int32) (73 : Int32))), .val (.int (pk p1 l2 (7 : Int32) (78 : Int32))), .val (.int ((((p1.toUInt32 >>> ((10 : Int32) &&& 31).toUInt32).toInt32) &&& (255 : Int32)).toUInt32.toUInt16.toUInt32.toInt32)), .val (.int (((p1.toUInt32 >>> ((8 : Int32) &&& 31).toUInt32).toInt32) &&& (3 : Int32))), .val (.ref x), .val (.int ex), .val (.int ey)] [(.int (1 : Int32))]))
            exact endNS X36 hx hlk hZ hEL e36 eS CH hS hk (t := .boolean) hret (by simp) (hb hby at_443) (⟨rfl, N36⟩) (by decide) (by decide)
        refine go (fun _ => XS.iload X30.here hx rfl (hb hby at_408) rfl) ?_
        show Run p e below _ (T30.setTop (mkF m 410 #[.val (.int p0), .val (.int p1), .val (.long l2), .second, .val (.int ((p0 &&& (2147483647 : Int32)) % (3 : Int32))), .val (.ref kd), .val (.int (pk p1 l2 (0 : Int32) (86 : Int32))), .val (.int (pk p1 l2 (1 : Int32) (79 : Int32))), .val (.int (pk p1 l2 (2 : Int32) (95 : Int32))), .val (.int (pk p1 l2 (3 : Int32) (65 : Int32))), .val (.int (pk p1 l2 (4 : Int32) (68 : Int32))), .val (.int (pk p1 l2 (5 : Int32) (77 : Int32))), .val (.int (pk p1 l2 (6 : Int32) (73 : Int32))), .val (.int (pk p1 l2 (7 : Int32) (78 : Int32))), .val (.int ((((p1.toUInt32 >>> ((10 : Int32) &&& 31).toUInt32).toInt32) &&& (255 : Int32)).toUInt32.toUInt16.toUInt32.toInt32)), .val (.int (((p1.toUInt32 >>> ((8 : Int32) &&& 31).toUInt32).toInt32) &&& (3 : Int32))), .val (.ref x), .val (.int ex), .unset] [(.int ((p0 &&& (2147483647 : Int32)) % (3 : Int32)))]))
        refine go (fun _ => XS.iconst X30.here hx rfl (hb hby at_410)) ?_
        show Run p e below _ (T30.setTop (mkF m 411 #[.val (.int p0), .val (.int p1), .val (.long l2), .second, .val (.int ((p0 &&& (2147483647 : Int32)) % (3 : Int32))), .val (.ref kd), .val (.int (pk p1 l2 (0 : Int32) (86 : Int32))), .val (.int (pk p1 l2 (1 : Int32) (79 : Int32))), .val (.int (pk p1 l2 (2 : Int32) (95 : Int32))), .val (.int (pk p1 l2 (3 : Int32) (65 : Int32))), .val (.int (pk p1 l2 (4 : Int32) (68 : Int32))), .val (.int (pk p1 l2 (5 : Int32) (77 : Int32))), .val (.int (pk p1 l2 (6 : Int32) (73 : Int32))), .val (.int (pk p1 l2 (7 : Int32) (78 : Int32))), .val (.int ((((p1.toUInt32 >>> ((10 : Int32) &&& 31).toUInt32).toInt32) &&& (255 : Int32)).toUInt32.toUInt16.toUInt32.toInt32)), .val (.int (((p1.toUInt32 >>> ((8 : Int32) &&& 31).toUInt32).toInt32) &&& (3 : Int32))), .val (.ref x), .val (.int ex), .unset] [(.int (1 : Int32)), (.int ((p0 &&& (2147483647 : Int32)) % (3 : Int32)))]))
        by_cases c38 : ((p0 &&& (2147483647 : Int32)) % (3 : Int32)) = (1 : Int32)
        · skip
          refine go (fun _ => XS.icmpNo X30.here hx rfl (hb hby at_411) rfl (teq c38).2) ?_
          show Run p e below _ (T30.setTop (mkF m 414 #[.val (.int p0), .val (.int p1), .val (.long l2), .second, .val (.int ((p0 &&& (2147483647 : Int32)) % (3 : Int32))), .val (.ref kd), .val (.int (pk p1 l2 (0 : Int32) (86 : Int32))), .val (.int (pk p1 l2 (1 : Int32) (79 : Int32))), .val (.int (pk p1 l2 (2 : Int32) (95 : Int32))), .val (.int (pk p1 l2 (3 : Int32) (65 : Int32))), .val (.int (pk p1 l2 (4 : Int32) (68 : Int32))), .val (.int (pk p1 l2 (5 : Int32) (77 : Int32))), .val (.int (pk p1 l2 (6 : Int32) (73 : Int32))), .val (.int (pk p1 l2 (7 : Int32) (78 : Int32))), .val (.int ((((p1.toUInt32 >>> ((10 : Int32) &&& 31).toUInt32).toInt32) &&& (255 : Int32)).toUInt32.toUInt16.toUInt32.toInt32)), .val (.int (((p1.toUInt32 >>> ((8 : Int32) &&& 31).toUInt32).toInt32) &&& (3 : Int32))), .val (.ref x), .val (.int ex), .unset] []))
          refine go (fun _ => XS.iload X30.here hx rfl (hb hby at_414) rfl) ?_
          show Run p e below _ (T30.setTop (mkF m 416 #[.val (.int p0), .val (.int p1), .val (.long l2), .second, .val (.int ((p0 &&& (2147483647 : Int32)) % (3 : Int32))), .val (.ref kd), .val (.int (pk p1 l2 (0 : Int32) (86 : Int32))), .val (.int (pk p1 l2 (1 : Int32) (79 : Int32))), .val (.int (pk p1 l2 (2 : Int32) (95 : Int32))), .val (.int (pk p1 l2 (3 : Int32) (65 : Int32))), .val (.int (pk p1 l2 (4 : Int32) (68 : Int32))), .val (.int (pk p1 l2 (5 : Int32) (77 : Int32))), .val (.int (pk p1 l2 (6 : Int32) (73 : Int32))), .val (.int (pk p1 l2 (7 : Int32) (78 : Int32))), .val (.int ((((p1.toUInt32 >>> ((10 : Int32) &&& 31).toUInt32).toInt32) &&& (255 : Int32)).toUInt32.toUInt16.toUInt32.toInt32)), .val (.int (((p1.toUInt32 >>> ((8 : Int32) &&& 31).toUInt32).toInt32) &&& (3 : Int32))), .val (.ref x), .val (.int ex), .unset] [(.int ex)]))
          by_cases c39 : ex = 0
          · skip
            refine go (fun _ => XS.ifYes X30.here hx rfl (pc0 := 416) (pc' := 423) rfl (hb hby at_416) rfl ((if0 _ _).trans (teq c39).1) (by decide) (by decide)) ?_
            show Run p e below _ (T30.setTop (mkF m 423 #[.val (.int p0), .val (.int p1), .val (.long l2), .second, .val (.int ((p0 &&& (2147483647 : Int32)) % (3 : Int32))), .val (.ref kd), .val (.int (pk p1 l2 (0 : Int32) (86 : Int32))), .val (.int (pk p1 l2 (1 : Int32) (79 : Int32))), .val (.int (pk p1 l2 (2 : Int32) (95 : Int32))), .val (.int (pk p1 l2 (3 : Int32) (65 : Int32))), .val (.int (pk p1 l2 (4 : Int32) (68 : Int32))), .val (.int (pk p1 l2 (5 : Int32) (77 : Int32))), .val (.int (pk p1 l2 (6 : Int32) (73 : Int32))), .val (.int (pk p1 l2 (7 : Int32) (78 : Int32))), .val (.int ((((p1.toUInt32 >>> ((10 : Int32) &&& 31).toUInt32).toInt32) &&& (255 : Int32)).toUInt32.toUInt16.toUInt32.toInt32)), .val (.int (((p1.toUInt32 >>> ((8 : Int32) &&& 31).toUInt32).toInt32) &&& (3 : Int32))), .val (.ref x), .val (.int ex), .unset] []))
            refine go (fun _ => XS.iconst X30.here hx rfl (hb hby at_423)) ?_
            show Run p e below _ (T30.setTop (mkF m 424 #[.val (.int p0), .val (.int p1), .val (.long l2), .second, .val (.int ((p0 &&& (2147483647 : Int32)) % (3 : Int32))), .val (.ref kd), .val (.int (pk p1 l2 (0 : Int32) (86 : Int32))), .val (.int (pk p1 l2 (1 : Int32) (79 : Int32))), .val (.int (pk p1 l2 (2 : Int32) (95 : Int32))), .val (.int (pk p1 l2 (3 : Int32) (65 : Int32))), .val (.int (pk p1 l2 (4 : Int32) (68 : Int32))), .val (.int (pk p1 l2 (5 : Int32) (77 : Int32))), .val (.int (pk p1 l2 (6 : Int32) (73 : Int32))), .val (.int (pk p1 l2 (7 : Int32) (78 : Int32))), .val (.int ((((p1.toUInt32 >>> ((10 : Int32) &&& 31).toUInt32).toInt32) &&& (255 : Int32)).toUInt32.toUInt16.toUInt32.toInt32)), .val (.int (((p1.toUInt32 >>> ((8 : Int32) &&& 31).toUInt32).toInt32) &&& (3 : Int32))), .val (.ref x), .val (.int ex), .unset] [(.int (0 : Int32))]))
            refine go (fun _ => XS.istore X30.here hx rfl (hb hby at_424) rfl (l' := #[.val (.int p0), .val (.int p1), .val (.long l2), .second, .val (.int ((p0 &&& (2147483647 : Int32)) % (3 : Int32))), .val (.ref kd), .val (.int (pk p1 l2 (0 : Int32) (86 : Int32))), .val (.int (pk p1 l2 (1 : Int32) (79 : Int32))), .val (.int (pk p1 l2 (2 : Int32) (95 : Int32))), .val (.int (pk p1 l2 (3 : Int32) (65 : Int32))), .val (.int (pk p1 l2 (4 : Int32) (68 : Int32))), .val (.int (pk p1 l2 (5 : Int32) (77 : Int32))), .val (.int (pk p1 l2 (6 : Int32) (73 : Int32))), .val (.int (pk p1 l2 (7 : Int32) (78 : Int32))), .val (.int ((((p1.toUInt32 >>> ((10 : Int32) &&& 31).toUInt32).toInt32) &&& (255 : Int32)).toUInt32.toUInt16.toUInt32.toInt32)), .val (.int (((p1.toUInt32 >>> ((8 : Int32) &&& 31).toUInt32).toInt32) &&& (3 : Int32))), .val (.ref x), .val (.int ex), .val (.int (0 : Int32))]) rfl) ?_
            show Run p e below _ (T30.setTop (mkF m 426 #[.val (.int p0), .val (.int p1), .val (.long l2), .second, .val (.int ((p0 &&& (2147483647 : Int32)) % (3 : Int32))), .val (.ref kd), .val (.int (pk p1 l2 (0 : Int32) (86 : Int32))), .val (.int (pk p1 l2 (1 : Int32) (79 : Int32))), .val (.int (pk p1 l2 (2 : Int32) (95 : Int32))), .val (.int (pk p1 l2 (3 : Int32) (65 : Int32))), .val (.int (pk p1 l2 (4 : Int32) (68 : Int32))), .val (.int (pk p1 l2 (5 : Int32) (77 : Int32))), .val (.int (pk p1 l2 (6 : Int32) (73 : Int32))), .val (.int (pk p1 l2 (7 : Int32) (78 : Int32))), .val (.int ((((p1.toUInt32 >>> ((10 : Int32) &&& 31).toUInt32).toInt32) &&& (255 : Int32)).toUInt32.toUInt16.toUInt32.toInt32)), .val (.int (((p1.toUInt32 >>> ((8 : Int32) &&& 31).toUInt32).toInt32) &&& (3 : Int32))), .val (.ref x), .val (.int ex), .val (.int (0 : Int32))] []))
            exact J426 _ _ X30 e30 N30 (0 : Int32)  (by rw [if_pos c38, ← hex]; exact c39.symm)
          · skip
            refine go (fun _ => XS.ifNo X30.here hx rfl (hb hby at_416) rfl ((if0 _ _).trans (feq c39).1)) ?_
            show Run p e below _ (T30.setTop (mkF m 419 #[.val (.int p0), .val (.int p1), .val (.long l2), .second, .val (.int ((p0 &&& (2147483647 : Int32)) % (3 : Int32))), .val (.ref kd), .val (.int (pk p1 l2 (0 : Int32) (86 : Int32))), .val (.int (pk p1 l2 (1 : Int32) (79 : Int32))), .val (.int (pk p1 l2 (2 : Int32) (95 : Int32))), .val (.int (pk p1 l2 (3 : Int32) (65 : Int32))), .val (.int (pk p1 l2 (4 : Int32) (68 : Int32))), .val (.int (pk p1 l2 (5 : Int32) (77 : Int32))), .val (.int (pk p1 l2 (6 : Int32) (73 : Int32))), .val (.int (pk p1 l2 (7 : Int32) (78 : Int32))), .val (.int ((((p1.toUInt32 >>> ((10 : Int32) &&& 31).toUInt32).toInt32) &&& (255 : Int32)).toUInt32.toUInt16.toUInt32.toInt32)), .val (.int (((p1.toUInt32 >>> ((8 : Int32) &&& 31).toUInt32).toInt32) &&& (3 : Int32))), .val (.ref x), .val (.int ex), .unset] []))
            refine go (fun _ => XS.iconst X30.here hx rfl (hb hby at_419)) ?_
            show Run p e below _ (T30.setTop (mkF m 420 #[.val (.int p0), .val (.int p1), .val (.long l2), .second, .val (.int ((p0 &&& (2147483647 : Int32)) % (3 : Int32))), .val (.ref kd), .val (.int (pk p1 l2 (0 : Int32) (86 : Int32))), .val (.int (pk p1 l2 (1 : Int32) (79 : Int32))), .val (.int (pk p1 l2 (2 : Int32) (95 : Int32))), .val (.int (pk p1 l2 (3 : Int32) (65 : Int32))), .val (.int (pk p1 l2 (4 : Int32) (68 : Int32))), .val (.int (pk p1 l2 (5 : Int32) (77 : Int32))), .val (.int (pk p1 l2 (6 : Int32) (73 : Int32))), .val (.int (pk p1 l2 (7 : Int32) (78 : Int32))), .val (.int ((((p1.toUInt32 >>> ((10 : Int32) &&& 31).toUInt32).toInt32) &&& (255 : Int32)).toUInt32.toUInt16.toUInt32.toInt32)), .val (.int (((p1.toUInt32 >>> ((8 : Int32) &&& 31).toUInt32).toInt32) &&& (3 : Int32))), .val (.ref x), .val (.int ex), .unset] [(.int (1 : Int32))]))
            refine go (fun _ => XS.goto X30.here hx rfl (pc0 := 420) (pc' := 424) rfl (hb hby at_420) (by decide) (by decide)) ?_
            show Run p e below _ (T30.setTop (mkF m 424 #[.val (.int p0), .val (.int p1), .val (.long l2), .second, .val (.int ((p0 &&& (2147483647 : Int32)) % (3 : Int32))), .val (.ref kd), .val (.int (pk p1 l2 (0 : Int32) (86 : Int32))), .val (.int (pk p1 l2 (1 : Int32) (79 : Int32))), .val (.int (pk p1 l2 (2 : Int32) (95 : Int32))), .val (.int (pk p1 l2 (3 : Int32) (65 : Int32))), .val (.int (pk p1 l2 (4 : Int32) (68 : Int32))), .val (.int (pk p1 l2 (5 : Int32) (77 : Int32))), .val (.int (pk p1 l2 (6 : Int32) (73 : Int32))), .val (.int (pk p1 l2 (7 : Int32) (78 : Int32))), .val (.int ((((p1.toUInt32 >>> ((10 : Int32) &&& 31).toUInt32).toInt32) &&& (255 : Int32)).toUInt32.toUInt16.toUInt32.toInt32)), .val (.int (((p1.toUInt32 >>> ((8 : Int32) &&& 31).toUInt32).toInt32) &&& (3 : Int32))), .val (.ref x), .val (.int ex), .unset] [(.int (1 : Int32))]))
            refine go (fun _ => XS.istore X30.here hx rfl (hb hby at_424) rfl (l' := #[.val (.int p0), .val (.int p1), .val (.long l2), .second, .val (.int ((p0 &&& (2147483647 : Int32)) % (3 : Int32))), .val (.ref kd), .val (.int (pk p1 l2 (0 : Int32) (86 : Int32))), .val (.int (pk p1 l2 (1 : Int32) (79 : Int32))), .val (.int (pk p1 l2 (2 : Int32) (95 : Int32))), .val (.int (pk p1 l2 (3 : Int32) (65 : Int32))), .val (.int (pk p1 l2 (4 : Int32) (68 : Int32))), .val (.int (pk p1 l2 (5 : Int32) (77 : Int32))), .val (.int (pk p1 l2 (6 : Int32) (73 : Int32))), .val (.int (pk p1 l2 (7 : Int32) (78 : Int32))), .val (.int ((((p1.toUInt32 >>> ((10 : Int32) &&& 31).toUInt32).toInt32) &&& (255 : Int32)).toUInt32.toUInt16.toUInt32.toInt32)), .val (.int (((p1.toUInt32 >>> ((8 : Int32) &&& 31).toUInt32).toInt32) &&& (3 : Int32))), .val (.ref x), .val (.int ex), .val (.int (1 : Int32))]) rfl) ?_
            show Run p e below _ (T30.setTop (mkF m 426 #[.val (.int p0), .val (.int p1), .val (.long l2), .second, .val (.int ((p0 &&& (2147483647 : Int32)) % (3 : Int32))), .val (.ref kd), .val (.int (pk p1 l2 (0 : Int32) (86 : Int32))), .val (.int (pk p1 l2 (1 : Int32) (79 : Int32))), .val (.int (pk p1 l2 (2 : Int32) (95 : Int32))), .val (.int (pk p1 l2 (3 : Int32) (65 : Int32))), .val (.int (pk p1 l2 (4 : Int32) (68 : Int32))), .val (.int (pk p1 l2 (5 : Int32) (77 : Int32))), .val (.int (pk p1 l2 (6 : Int32) (73 : Int32))), .val (.int (pk p1 l2 (7 : Int32) (78 : Int32))), .val (.int ((((p1.toUInt32 >>> ((10 : Int32) &&& 31).toUInt32).toInt32) &&& (255 : Int32)).toUInt32.toUInt16.toUInt32.toInt32)), .val (.int (((p1.toUInt32 >>> ((8 : Int32) &&& 31).toUInt32).toInt32) &&& (3 : Int32))), .val (.ref x), .val (.int ex), .val (.int (1 : Int32))] []))
            exact J426 _ _ X30 e30 N30 (1 : Int32)  (by rw [if_pos c38, ← hex]; by_cases q : ([86, 79, 95, 65, 68, 77, 73, 78] : List Int32) = cs <;> simp_all)
        · skip
          refine go (fun _ => XS.icmpYes X30.here hx rfl (pc0 := 411) (pc' := 423) rfl (hb hby at_411) rfl (feq c38).2 (by decide) (by decide)) ?_
          show Run p e below _ (T30.setTop (mkF m 423 #[.val (.int p0), .val (.int p1), .val (.long l2), .second, .val (.int ((p0 &&& (2147483647 : Int32)) % (3 : Int32))), .val (.ref kd), .val (.int (pk p1 l2 (0 : Int32) (86 : Int32))), .val (.int (pk p1 l2 (1 : Int32) (79 : Int32))), .val (.int (pk p1 l2 (2 : Int32) (95 : Int32))), .val (.int (pk p1 l2 (3 : Int32) (65 : Int32))), .val (.int (pk p1 l2 (4 : Int32) (68 : Int32))), .val (.int (pk p1 l2 (5 : Int32) (77 : Int32))), .val (.int (pk p1 l2 (6 : Int32) (73 : Int32))), .val (.int (pk p1 l2 (7 : Int32) (78 : Int32))), .val (.int ((((p1.toUInt32 >>> ((10 : Int32) &&& 31).toUInt32).toInt32) &&& (255 : Int32)).toUInt32.toUInt16.toUInt32.toInt32)), .val (.int (((p1.toUInt32 >>> ((8 : Int32) &&& 31).toUInt32).toInt32) &&& (3 : Int32))), .val (.ref x), .val (.int ex), .unset] []))
          refine go (fun _ => XS.iconst X30.here hx rfl (hb hby at_423)) ?_
          show Run p e below _ (T30.setTop (mkF m 424 #[.val (.int p0), .val (.int p1), .val (.long l2), .second, .val (.int ((p0 &&& (2147483647 : Int32)) % (3 : Int32))), .val (.ref kd), .val (.int (pk p1 l2 (0 : Int32) (86 : Int32))), .val (.int (pk p1 l2 (1 : Int32) (79 : Int32))), .val (.int (pk p1 l2 (2 : Int32) (95 : Int32))), .val (.int (pk p1 l2 (3 : Int32) (65 : Int32))), .val (.int (pk p1 l2 (4 : Int32) (68 : Int32))), .val (.int (pk p1 l2 (5 : Int32) (77 : Int32))), .val (.int (pk p1 l2 (6 : Int32) (73 : Int32))), .val (.int (pk p1 l2 (7 : Int32) (78 : Int32))), .val (.int ((((p1.toUInt32 >>> ((10 : Int32) &&& 31).toUInt32).toInt32) &&& (255 : Int32)).toUInt32.toUInt16.toUInt32.toInt32)), .val (.int (((p1.toUInt32 >>> ((8 : Int32) &&& 31).toUInt32).toInt32) &&& (3 : Int32))), .val (.ref x), .val (.int ex), .unset] [(.int (0 : Int32))]))
          refine go (fun _ => XS.istore X30.here hx rfl (hb hby at_424) rfl (l' := #[.val (.int p0), .val (.int p1), .val (.long l2), .second, .val (.int ((p0 &&& (2147483647 : Int32)) % (3 : Int32))), .val (.ref kd), .val (.int (pk p1 l2 (0 : Int32) (86 : Int32))), .val (.int (pk p1 l2 (1 : Int32) (79 : Int32))), .val (.int (pk p1 l2 (2 : Int32) (95 : Int32))), .val (.int (pk p1 l2 (3 : Int32) (65 : Int32))), .val (.int (pk p1 l2 (4 : Int32) (68 : Int32))), .val (.int (pk p1 l2 (5 : Int32) (77 : Int32))), .val (.int (pk p1 l2 (6 : Int32) (73 : Int32))), .val (.int (pk p1 l2 (7 : Int32) (78 : Int32))), .val (.int ((((p1.toUInt32 >>> ((10 : Int32) &&& 31).toUInt32).toInt32) &&& (255 : Int32)).toUInt32.toUInt16.toUInt32.toInt32)), .val (.int (((p1.toUInt32 >>> ((8 : Int32) &&& 31).toUInt32).toInt32) &&& (3 : Int32))), .val (.ref x), .val (.int ex), .val (.int (0 : Int32))]) rfl) ?_
          show Run p e below _ (T30.setTop (mkF m 426 #[.val (.int p0), .val (.int p1), .val (.long l2), .second, .val (.int ((p0 &&& (2147483647 : Int32)) % (3 : Int32))), .val (.ref kd), .val (.int (pk p1 l2 (0 : Int32) (86 : Int32))), .val (.int (pk p1 l2 (1 : Int32) (79 : Int32))), .val (.int (pk p1 l2 (2 : Int32) (95 : Int32))), .val (.int (pk p1 l2 (3 : Int32) (65 : Int32))), .val (.int (pk p1 l2 (4 : Int32) (68 : Int32))), .val (.int (pk p1 l2 (5 : Int32) (77 : Int32))), .val (.int (pk p1 l2 (6 : Int32) (73 : Int32))), .val (.int (pk p1 l2 (7 : Int32) (78 : Int32))), .val (.int ((((p1.toUInt32 >>> ((10 : Int32) &&& 31).toUInt32).toInt32) &&& (255 : Int32)).toUInt32.toUInt16.toUInt32.toInt32)), .val (.int (((p1.toUInt32 >>> ((8 : Int32) &&& 31).toUInt32).toInt32) &&& (3 : Int32))), .val (.ref x), .val (.int ex), .val (.int (0 : Int32))] []))
          exact J426 _ _ X30 e30 N30 (0 : Int32)  (by rw [if_neg c38])
      refine go (fun _ => XS.iload X29.here hx rfl (hb hby at_340) rfl) ?_
      show Run p e below _ (T29.setTop (mkF m 342 #[.val (.int p0), .val (.int p1), .val (.long l2), .second, .val (.int ((p0 &&& (2147483647 : Int32)) % (3 : Int32))), .val (.ref kd), .val (.int (pk p1 l2 (0 : Int32) (86 : Int32))), .val (.int (pk p1 l2 (1 : Int32) (79 : Int32))), .val (.int (pk p1 l2 (2 : Int32) (95 : Int32))), .val (.int (pk p1 l2 (3 : Int32) (65 : Int32))), .val (.int (pk p1 l2 (4 : Int32) (68 : Int32))), .val (.int (pk p1 l2 (5 : Int32) (77 : Int32))), .val (.int (pk p1 l2 (6 : Int32) (73 : Int32))), .val (.int (pk p1 l2 (7 : Int32) (78 : Int32))), .val (.int ((((p1.toUInt32 >>> ((10 : Int32) &&& 31).toUInt32).toInt32) &&& (255 : Int32)).toUInt32.toUInt16.toUInt32.toInt32)), .val (.int (((p1.toUInt32 >>> ((8 : Int32) &&& 31).toUInt32).toInt32) &&& (3 : Int32))), .val (.ref x), .unset, .unset] [(.int (((p1.toUInt32 >>> ((8 : Int32) &&& 31).toUInt32).toInt32) &&& (3 : Int32)))]))
      by_cases c40 : (((p1.toUInt32 >>> ((8 : Int32) &&& 31).toUInt32).toInt32) &&& (3 : Int32)) = 0
      · skip
        refine go (fun _ => XS.ifNo X29.here hx rfl (hb hby at_342) rfl ((if0 _ _).trans (teq c40).2)) ?_
        show Run p e below _ (T29.setTop (mkF m 345 #[.val (.int p0), .val (.int p1), .val (.long l2), .second, .val (.int ((p0 &&& (2147483647 : Int32)) % (3 : Int32))), .val (.ref kd), .val (.int (pk p1 l2 (0 : Int32) (86 : Int32))), .val (.int (pk p1 l2 (1 : Int32) (79 : Int32))), .val (.int (pk p1 l2 (2 : Int32) (95 : Int32))), .val (.int (pk p1 l2 (3 : Int32) (65 : Int32))), .val (.int (pk p1 l2 (4 : Int32) (68 : Int32))), .val (.int (pk p1 l2 (5 : Int32) (77 : Int32))), .val (.int (pk p1 l2 (6 : Int32) (73 : Int32))), .val (.int (pk p1 l2 (7 : Int32) (78 : Int32))), .val (.int ((((p1.toUInt32 >>> ((10 : Int32) &&& 31).toUInt32).toInt32) &&& (255 : Int32)).toUInt32.toUInt16.toUInt32.toInt32)), .val (.int (((p1.toUInt32 >>> ((8 : Int32) &&& 31).toUInt32).toInt32) &&& (3 : Int32))), .val (.ref x), .unset, .unset] []))
        refine go (fun _ => XS.iload X29.here hx rfl (hb hby at_345) rfl) ?_
        show Run p e below _ (T29.setTop (mkF m 347 #[.val (.int p0), .val (.int p1), .val (.long l2), .second, .val (.int ((p0 &&& (2147483647 : Int32)) % (3 : Int32))), .val (.ref kd), .val (.int (pk p1 l2 (0 : Int32) (86 : Int32))), .val (.int (pk p1 l2 (1 : Int32) (79 : Int32))), .val (.int (pk p1 l2 (2 : Int32) (95 : Int32))), .val (.int (pk p1 l2 (3 : Int32) (65 : Int32))), .val (.int (pk p1 l2 (4 : Int32) (68 : Int32))), .val (.int (pk p1 l2 (5 : Int32) (77 : Int32))), .val (.int (pk p1 l2 (6 : Int32) (73 : Int32))), .val (.int (pk p1 l2 (7 : Int32) (78 : Int32))), .val (.int ((((p1.toUInt32 >>> ((10 : Int32) &&& 31).toUInt32).toInt32) &&& (255 : Int32)).toUInt32.toUInt16.toUInt32.toInt32)), .val (.int (((p1.toUInt32 >>> ((8 : Int32) &&& 31).toUInt32).toInt32) &&& (3 : Int32))), .val (.ref x), .unset, .unset] [(.int (pk p1 l2 (0 : Int32) (86 : Int32)))]))
        refine go (fun _ => XS.bipush X29.here hx rfl (hb hby at_347)) ?_
        show Run p e below _ (T29.setTop (mkF m 349 #[.val (.int p0), .val (.int p1), .val (.long l2), .second, .val (.int ((p0 &&& (2147483647 : Int32)) % (3 : Int32))), .val (.ref kd), .val (.int (pk p1 l2 (0 : Int32) (86 : Int32))), .val (.int (pk p1 l2 (1 : Int32) (79 : Int32))), .val (.int (pk p1 l2 (2 : Int32) (95 : Int32))), .val (.int (pk p1 l2 (3 : Int32) (65 : Int32))), .val (.int (pk p1 l2 (4 : Int32) (68 : Int32))), .val (.int (pk p1 l2 (5 : Int32) (77 : Int32))), .val (.int (pk p1 l2 (6 : Int32) (73 : Int32))), .val (.int (pk p1 l2 (7 : Int32) (78 : Int32))), .val (.int ((((p1.toUInt32 >>> ((10 : Int32) &&& 31).toUInt32).toInt32) &&& (255 : Int32)).toUInt32.toUInt16.toUInt32.toInt32)), .val (.int (((p1.toUInt32 >>> ((8 : Int32) &&& 31).toUInt32).toInt32) &&& (3 : Int32))), .val (.ref x), .unset, .unset] [(.int (86 : Int32)), (.int (pk p1 l2 (0 : Int32) (86 : Int32)))]))
        by_cases c41 : (pk p1 l2 (0 : Int32) (86 : Int32)) = (86 : Int32)
        · skip
          refine go (fun _ => XS.icmpNo X29.here hx rfl (hb hby at_349) rfl (teq c41).2) ?_
          show Run p e below _ (T29.setTop (mkF m 352 #[.val (.int p0), .val (.int p1), .val (.long l2), .second, .val (.int ((p0 &&& (2147483647 : Int32)) % (3 : Int32))), .val (.ref kd), .val (.int (pk p1 l2 (0 : Int32) (86 : Int32))), .val (.int (pk p1 l2 (1 : Int32) (79 : Int32))), .val (.int (pk p1 l2 (2 : Int32) (95 : Int32))), .val (.int (pk p1 l2 (3 : Int32) (65 : Int32))), .val (.int (pk p1 l2 (4 : Int32) (68 : Int32))), .val (.int (pk p1 l2 (5 : Int32) (77 : Int32))), .val (.int (pk p1 l2 (6 : Int32) (73 : Int32))), .val (.int (pk p1 l2 (7 : Int32) (78 : Int32))), .val (.int ((((p1.toUInt32 >>> ((10 : Int32) &&& 31).toUInt32).toInt32) &&& (255 : Int32)).toUInt32.toUInt16.toUInt32.toInt32)), .val (.int (((p1.toUInt32 >>> ((8 : Int32) &&& 31).toUInt32).toInt32) &&& (3 : Int32))), .val (.ref x), .unset, .unset] []))
          refine go (fun _ => XS.iload X29.here hx rfl (hb hby at_352) rfl) ?_
          show Run p e below _ (T29.setTop (mkF m 354 #[.val (.int p0), .val (.int p1), .val (.long l2), .second, .val (.int ((p0 &&& (2147483647 : Int32)) % (3 : Int32))), .val (.ref kd), .val (.int (pk p1 l2 (0 : Int32) (86 : Int32))), .val (.int (pk p1 l2 (1 : Int32) (79 : Int32))), .val (.int (pk p1 l2 (2 : Int32) (95 : Int32))), .val (.int (pk p1 l2 (3 : Int32) (65 : Int32))), .val (.int (pk p1 l2 (4 : Int32) (68 : Int32))), .val (.int (pk p1 l2 (5 : Int32) (77 : Int32))), .val (.int (pk p1 l2 (6 : Int32) (73 : Int32))), .val (.int (pk p1 l2 (7 : Int32) (78 : Int32))), .val (.int ((((p1.toUInt32 >>> ((10 : Int32) &&& 31).toUInt32).toInt32) &&& (255 : Int32)).toUInt32.toUInt16.toUInt32.toInt32)), .val (.int (((p1.toUInt32 >>> ((8 : Int32) &&& 31).toUInt32).toInt32) &&& (3 : Int32))), .val (.ref x), .unset, .unset] [(.int (pk p1 l2 (1 : Int32) (79 : Int32)))]))
          refine go (fun _ => XS.bipush X29.here hx rfl (hb hby at_354)) ?_
          show Run p e below _ (T29.setTop (mkF m 356 #[.val (.int p0), .val (.int p1), .val (.long l2), .second, .val (.int ((p0 &&& (2147483647 : Int32)) % (3 : Int32))), .val (.ref kd), .val (.int (pk p1 l2 (0 : Int32) (86 : Int32))), .val (.int (pk p1 l2 (1 : Int32) (79 : Int32))), .val (.int (pk p1 l2 (2 : Int32) (95 : Int32))), .val (.int (pk p1 l2 (3 : Int32) (65 : Int32))), .val (.int (pk p1 l2 (4 : Int32) (68 : Int32))), .val (.int (pk p1 l2 (5 : Int32) (77 : Int32))), .val (.int (pk p1 l2 (6 : Int32) (73 : Int32))), .val (.int (pk p1 l2 (7 : Int32) (78 : Int32))), .val (.int ((((p1.toUInt32 >>> ((10 : Int32) &&& 31).toUInt32).toInt32) &&& (255 : Int32)).toUInt32.toUInt16.toUInt32.toInt32)), .val (.int (((p1.toUInt32 >>> ((8 : Int32) &&& 31).toUInt32).toInt32) &&& (3 : Int32))), .val (.ref x), .unset, .unset] [(.int (79 : Int32)), (.int (pk p1 l2 (1 : Int32) (79 : Int32)))]))
          by_cases c42 : (pk p1 l2 (1 : Int32) (79 : Int32)) = (79 : Int32)
          · skip
            refine go (fun _ => XS.icmpNo X29.here hx rfl (hb hby at_356) rfl (teq c42).2) ?_
            show Run p e below _ (T29.setTop (mkF m 359 #[.val (.int p0), .val (.int p1), .val (.long l2), .second, .val (.int ((p0 &&& (2147483647 : Int32)) % (3 : Int32))), .val (.ref kd), .val (.int (pk p1 l2 (0 : Int32) (86 : Int32))), .val (.int (pk p1 l2 (1 : Int32) (79 : Int32))), .val (.int (pk p1 l2 (2 : Int32) (95 : Int32))), .val (.int (pk p1 l2 (3 : Int32) (65 : Int32))), .val (.int (pk p1 l2 (4 : Int32) (68 : Int32))), .val (.int (pk p1 l2 (5 : Int32) (77 : Int32))), .val (.int (pk p1 l2 (6 : Int32) (73 : Int32))), .val (.int (pk p1 l2 (7 : Int32) (78 : Int32))), .val (.int ((((p1.toUInt32 >>> ((10 : Int32) &&& 31).toUInt32).toInt32) &&& (255 : Int32)).toUInt32.toUInt16.toUInt32.toInt32)), .val (.int (((p1.toUInt32 >>> ((8 : Int32) &&& 31).toUInt32).toInt32) &&& (3 : Int32))), .val (.ref x), .unset, .unset] []))
            refine go (fun _ => XS.iload X29.here hx rfl (hb hby at_359) rfl) ?_
            show Run p e below _ (T29.setTop (mkF m 361 #[.val (.int p0), .val (.int p1), .val (.long l2), .second, .val (.int ((p0 &&& (2147483647 : Int32)) % (3 : Int32))), .val (.ref kd), .val (.int (pk p1 l2 (0 : Int32) (86 : Int32))), .val (.int (pk p1 l2 (1 : Int32) (79 : Int32))), .val (.int (pk p1 l2 (2 : Int32) (95 : Int32))), .val (.int (pk p1 l2 (3 : Int32) (65 : Int32))), .val (.int (pk p1 l2 (4 : Int32) (68 : Int32))), .val (.int (pk p1 l2 (5 : Int32) (77 : Int32))), .val (.int (pk p1 l2 (6 : Int32) (73 : Int32))), .val (.int (pk p1 l2 (7 : Int32) (78 : Int32))), .val (.int ((((p1.toUInt32 >>> ((10 : Int32) &&& 31).toUInt32).toInt32) &&& (255 : Int32)).toUInt32.toUInt16.toUInt32.toInt32)), .val (.int (((p1.toUInt32 >>> ((8 : Int32) &&& 31).toUInt32).toInt32) &&& (3 : Int32))), .val (.ref x), .unset, .unset] [(.int (pk p1 l2 (2 : Int32) (95 : Int32)))]))
            refine go (fun _ => XS.bipush X29.here hx rfl (hb hby at_361)) ?_
            show Run p e below _ (T29.setTop (mkF m 363 #[.val (.int p0), .val (.int p1), .val (.long l2), .second, .val (.int ((p0 &&& (2147483647 : Int32)) % (3 : Int32))), .val (.ref kd), .val (.int (pk p1 l2 (0 : Int32) (86 : Int32))), .val (.int (pk p1 l2 (1 : Int32) (79 : Int32))), .val (.int (pk p1 l2 (2 : Int32) (95 : Int32))), .val (.int (pk p1 l2 (3 : Int32) (65 : Int32))), .val (.int (pk p1 l2 (4 : Int32) (68 : Int32))), .val (.int (pk p1 l2 (5 : Int32) (77 : Int32))), .val (.int (pk p1 l2 (6 : Int32) (73 : Int32))), .val (.int (pk p1 l2 (7 : Int32) (78 : Int32))), .val (.int ((((p1.toUInt32 >>> ((10 : Int32) &&& 31).toUInt32).toInt32) &&& (255 : Int32)).toUInt32.toUInt16.toUInt32.toInt32)), .val (.int (((p1.toUInt32 >>> ((8 : Int32) &&& 31).toUInt32).toInt32) &&& (3 : Int32))), .val (.ref x), .unset, .unset] [(.int (95 : Int32)), (.int (pk p1 l2 (2 : Int32) (95 : Int32)))]))
            by_cases c43 : (pk p1 l2 (2 : Int32) (95 : Int32)) = (95 : Int32)
            · skip
              refine go (fun _ => XS.icmpNo X29.here hx rfl (hb hby at_363) rfl (teq c43).2) ?_
              show Run p e below _ (T29.setTop (mkF m 366 #[.val (.int p0), .val (.int p1), .val (.long l2), .second, .val (.int ((p0 &&& (2147483647 : Int32)) % (3 : Int32))), .val (.ref kd), .val (.int (pk p1 l2 (0 : Int32) (86 : Int32))), .val (.int (pk p1 l2 (1 : Int32) (79 : Int32))), .val (.int (pk p1 l2 (2 : Int32) (95 : Int32))), .val (.int (pk p1 l2 (3 : Int32) (65 : Int32))), .val (.int (pk p1 l2 (4 : Int32) (68 : Int32))), .val (.int (pk p1 l2 (5 : Int32) (77 : Int32))), .val (.int (pk p1 l2 (6 : Int32) (73 : Int32))), .val (.int (pk p1 l2 (7 : Int32) (78 : Int32))), .val (.int ((((p1.toUInt32 >>> ((10 : Int32) &&& 31).toUInt32).toInt32) &&& (255 : Int32)).toUInt32.toUInt16.toUInt32.toInt32)), .val (.int (((p1.toUInt32 >>> ((8 : Int32) &&& 31).toUInt32).toInt32) &&& (3 : Int32))), .val (.ref x), .unset, .unset] []))
              refine go (fun _ => XS.iload X29.here hx rfl (hb hby at_366) rfl) ?_
              show Run p e below _ (T29.setTop (mkF m 368 #[.val (.int p0), .val (.int p1), .val (.long l2), .second, .val (.int ((p0 &&& (2147483647 : Int32)) % (3 : Int32))), .val (.ref kd), .val (.int (pk p1 l2 (0 : Int32) (86 : Int32))), .val (.int (pk p1 l2 (1 : Int32) (79 : Int32))), .val (.int (pk p1 l2 (2 : Int32) (95 : Int32))), .val (.int (pk p1 l2 (3 : Int32) (65 : Int32))), .val (.int (pk p1 l2 (4 : Int32) (68 : Int32))), .val (.int (pk p1 l2 (5 : Int32) (77 : Int32))), .val (.int (pk p1 l2 (6 : Int32) (73 : Int32))), .val (.int (pk p1 l2 (7 : Int32) (78 : Int32))), .val (.int ((((p1.toUInt32 >>> ((10 : Int32) &&& 31).toUInt32).toInt32) &&& (255 : Int32)).toUInt32.toUInt16.toUInt32.toInt32)), .val (.int (((p1.toUInt32 >>> ((8 : Int32) &&& 31).toUInt32).toInt32) &&& (3 : Int32))), .val (.ref x), .unset, .unset] [(.int (pk p1 l2 (3 : Int32) (65 : Int32)))]))
              refine go (fun _ => XS.bipush X29.here hx rfl (hb hby at_368)) ?_
              show Run p e below _ (T29.setTop (mkF m 370 #[.val (.int p0), .val (.int p1), .val (.long l2), .second, .val (.int ((p0 &&& (2147483647 : Int32)) % (3 : Int32))), .val (.ref kd), .val (.int (pk p1 l2 (0 : Int32) (86 : Int32))), .val (.int (pk p1 l2 (1 : Int32) (79 : Int32))), .val (.int (pk p1 l2 (2 : Int32) (95 : Int32))), .val (.int (pk p1 l2 (3 : Int32) (65 : Int32))), .val (.int (pk p1 l2 (4 : Int32) (68 : Int32))), .val (.int (pk p1 l2 (5 : Int32) (77 : Int32))), .val (.int (pk p1 l2 (6 : Int32) (73 : Int32))), .val (.int (pk p1 l2 (7 : Int32) (78 : Int32))), .val (.int ((((p1.toUInt32 >>> ((10 : Int32) &&& 31).toUInt32).toInt32) &&& (255 : Int32)).toUInt32.toUInt16.toUInt32.toInt32)), .val (.int (((p1.toUInt32 >>> ((8 : Int32) &&& 31).toUInt32).toInt32) &&& (3 : Int32))), .val (.ref x), .unset, .unset] [(.int (65 : Int32)), (.int (pk p1 l2 (3 : Int32) (65 : Int32)))]))
              by_cases c44 : (pk p1 l2 (3 : Int32) (65 : Int32)) = (65 : Int32)
              · skip
                refine go (fun _ => XS.icmpNo X29.here hx rfl (hb hby at_370) rfl (teq c44).2) ?_
                show Run p e below _ (T29.setTop (mkF m 373 #[.val (.int p0), .val (.int p1), .val (.long l2), .second, .val (.int ((p0 &&& (2147483647 : Int32)) % (3 : Int32))), .val (.ref kd), .val (.int (pk p1 l2 (0 : Int32) (86 : Int32))), .val (.int (pk p1 l2 (1 : Int32) (79 : Int32))), .val (.int (pk p1 l2 (2 : Int32) (95 : Int32))), .val (.int (pk p1 l2 (3 : Int32) (65 : Int32))), .val (.int (pk p1 l2 (4 : Int32) (68 : Int32))), .val (.int (pk p1 l2 (5 : Int32) (77 : Int32))), .val (.int (pk p1 l2 (6 : Int32) (73 : Int32))), .val (.int (pk p1 l2 (7 : Int32) (78 : Int32))), .val (.int ((((p1.toUInt32 >>> ((10 : Int32) &&& 31).toUInt32).toInt32) &&& (255 : Int32)).toUInt32.toUInt16.toUInt32.toInt32)), .val (.int (((p1.toUInt32 >>> ((8 : Int32) &&& 31).toUInt32).toInt32) &&& (3 : Int32))), .val (.ref x), .unset, .unset] []))
                refine go (fun _ => XS.iload X29.here hx rfl (hb hby at_373) rfl) ?_
                show Run p e below _ (T29.setTop (mkF m 375 #[.val (.int p0), .val (.int p1), .val (.long l2), .second, .val (.int ((p0 &&& (2147483647 : Int32)) % (3 : Int32))), .val (.ref kd), .val (.int (pk p1 l2 (0 : Int32) (86 : Int32))), .val (.int (pk p1 l2 (1 : Int32) (79 : Int32))), .val (.int (pk p1 l2 (2 : Int32) (95 : Int32))), .val (.int (pk p1 l2 (3 : Int32) (65 : Int32))), .val (.int (pk p1 l2 (4 : Int32) (68 : Int32))), .val (.int (pk p1 l2 (5 : Int32) (77 : Int32))), .val (.int (pk p1 l2 (6 : Int32) (73 : Int32))), .val (.int (pk p1 l2 (7 : Int32) (78 : Int32))), .val (.int ((((p1.toUInt32 >>> ((10 : Int32) &&& 31).toUInt32).toInt32) &&& (255 : Int32)).toUInt32.toUInt16.toUInt32.toInt32)), .val (.int (((p1.toUInt32 >>> ((8 : Int32) &&& 31).toUInt32).toInt32) &&& (3 : Int32))), .val (.ref x), .unset, .unset] [(.int (pk p1 l2 (4 : Int32) (68 : Int32)))]))
                refine go (fun _ => XS.bipush X29.here hx rfl (hb hby at_375)) ?_
                show Run p e below _ (T29.setTop (mkF m 377 #[.val (.int p0), .val (.int p1), .val (.long l2), .second, .val (.int ((p0 &&& (2147483647 : Int32)) % (3 : Int32))), .val (.ref kd), .val (.int (pk p1 l2 (0 : Int32) (86 : Int32))), .val (.int (pk p1 l2 (1 : Int32) (79 : Int32))), .val (.int (pk p1 l2 (2 : Int32) (95 : Int32))), .val (.int (pk p1 l2 (3 : Int32) (65 : Int32))), .val (.int (pk p1 l2 (4 : Int32) (68 : Int32))), .val (.int (pk p1 l2 (5 : Int32) (77 : Int32))), .val (.int (pk p1 l2 (6 : Int32) (73 : Int32))), .val (.int (pk p1 l2 (7 : Int32) (78 : Int32))), .val (.int ((((p1.toUInt32 >>> ((10 : Int32) &&& 31).toUInt32).toInt32) &&& (255 : Int32)).toUInt32.toUInt16.toUInt32.toInt32)), .val (.int (((p1.toUInt32 >>> ((8 : Int32) &&& 31).toUInt32).toInt32) &&& (3 : Int32))), .val (.ref x), .unset, .unset] [(.int (68 : Int32)), (.int (pk p1 l2 (4 : Int32) (68 : Int32)))]))
                by_cases c45 : (pk p1 l2 (4 : Int32) (68 : Int32)) = (68 : Int32)
                · skip
                  refine go (fun _ => XS.icmpNo X29.here hx rfl (hb hby at_377) rfl (teq c45).2) ?_
                  show Run p e below _ (T29.setTop (mkF m 380 #[.val (.int p0), .val (.int p1), .val (.long l2), .second, .val (.int ((p0 &&& (2147483647 : Int32)) % (3 : Int32))), .val (.ref kd), .val (.int (pk p1 l2 (0 : Int32) (86 : Int32))), .val (.int (pk p1 l2 (1 : Int32) (79 : Int32))), .val (.int (pk p1 l2 (2 : Int32) (95 : Int32))), .val (.int (pk p1 l2 (3 : Int32) (65 : Int32))), .val (.int (pk p1 l2 (4 : Int32) (68 : Int32))), .val (.int (pk p1 l2 (5 : Int32) (77 : Int32))), .val (.int (pk p1 l2 (6 : Int32) (73 : Int32))), .val (.int (pk p1 l2 (7 : Int32) (78 : Int32))), .val (.int ((((p1.toUInt32 >>> ((10 : Int32) &&& 31).toUInt32).toInt32) &&& (255 : Int32)).toUInt32.toUInt16.toUInt32.toInt32)), .val (.int (((p1.toUInt32 >>> ((8 : Int32) &&& 31).toUInt32).toInt32) &&& (3 : Int32))), .val (.ref x), .unset, .unset] []))
                  refine go (fun _ => XS.iload X29.here hx rfl (hb hby at_380) rfl) ?_
                  show Run p e below _ (T29.setTop (mkF m 382 #[.val (.int p0), .val (.int p1), .val (.long l2), .second, .val (.int ((p0 &&& (2147483647 : Int32)) % (3 : Int32))), .val (.ref kd), .val (.int (pk p1 l2 (0 : Int32) (86 : Int32))), .val (.int (pk p1 l2 (1 : Int32) (79 : Int32))), .val (.int (pk p1 l2 (2 : Int32) (95 : Int32))), .val (.int (pk p1 l2 (3 : Int32) (65 : Int32))), .val (.int (pk p1 l2 (4 : Int32) (68 : Int32))), .val (.int (pk p1 l2 (5 : Int32) (77 : Int32))), .val (.int (pk p1 l2 (6 : Int32) (73 : Int32))), .val (.int (pk p1 l2 (7 : Int32) (78 : Int32))), .val (.int ((((p1.toUInt32 >>> ((10 : Int32) &&& 31).toUInt32).toInt32) &&& (255 : Int32)).toUInt32.toUInt16.toUInt32.toInt32)), .val (.int (((p1.toUInt32 >>> ((8 : Int32) &&& 31).toUInt32).toInt32) &&& (3 : Int32))), .val (.ref x), .unset, .unset] [(.int (pk p1 l2 (5 : Int32) (77 : Int32)))]))
                  refine go (fun _ => XS.bipush X29.here hx rfl (hb hby at_382)) ?_
                  show Run p e below _ (T29.setTop (mkF m 384 #[.val (.int p0), .val (.int p1), .val (.long l2), .second, .val (.int ((p0 &&& (2147483647 : Int32)) % (3 : Int32))), .val (.ref kd), .val (.int (pk p1 l2 (0 : Int32) (86 : Int32))), .val (.int (pk p1 l2 (1 : Int32) (79 : Int32))), .val (.int (pk p1 l2 (2 : Int32) (95 : Int32))), .val (.int (pk p1 l2 (3 : Int32) (65 : Int32))), .val (.int (pk p1 l2 (4 : Int32) (68 : Int32))), .val (.int (pk p1 l2 (5 : Int32) (77 : Int32))), .val (.int (pk p1 l2 (6 : Int32) (73 : Int32))), .val (.int (pk p1 l2 (7 : Int32) (78 : Int32))), .val (.int ((((p1.toUInt32 >>> ((10 : Int32) &&& 31).toUInt32).toInt32) &&& (255 : Int32)).toUInt32.toUInt16.toUInt32.toInt32)), .val (.int (((p1.toUInt32 >>> ((8 : Int32) &&& 31).toUInt32).toInt32) &&& (3 : Int32))), .val (.ref x), .unset, .unset] [(.int (77 : Int32)), (.int (pk p1 l2 (5 : Int32) (77 : Int32)))]))
                  by_cases c46 : (pk p1 l2 (5 : Int32) (77 : Int32)) = (77 : Int32)
                  · skip
                    refine go (fun _ => XS.icmpNo X29.here hx rfl (hb hby at_384) rfl (teq c46).2) ?_
                    show Run p e below _ (T29.setTop (mkF m 387 #[.val (.int p0), .val (.int p1), .val (.long l2), .second, .val (.int ((p0 &&& (2147483647 : Int32)) % (3 : Int32))), .val (.ref kd), .val (.int (pk p1 l2 (0 : Int32) (86 : Int32))), .val (.int (pk p1 l2 (1 : Int32) (79 : Int32))), .val (.int (pk p1 l2 (2 : Int32) (95 : Int32))), .val (.int (pk p1 l2 (3 : Int32) (65 : Int32))), .val (.int (pk p1 l2 (4 : Int32) (68 : Int32))), .val (.int (pk p1 l2 (5 : Int32) (77 : Int32))), .val (.int (pk p1 l2 (6 : Int32) (73 : Int32))), .val (.int (pk p1 l2 (7 : Int32) (78 : Int32))), .val (.int ((((p1.toUInt32 >>> ((10 : Int32) &&& 31).toUInt32).toInt32) &&& (255 : Int32)).toUInt32.toUInt16.toUInt32.toInt32)), .val (.int (((p1.toUInt32 >>> ((8 : Int32) &&& 31).toUInt32).toInt32) &&& (3 : Int32))), .val (.ref x), .unset, .unset] []))
                    refine go (fun _ => XS.iload X29.here hx rfl (hb hby at_387) rfl) ?_
                    show Run p e below _ (T29.setTop (mkF m 389 #[.val (.int p0), .val (.int p1), .val (.long l2), .second, .val (.int ((p0 &&& (2147483647 : Int32)) % (3 : Int32))), .val (.ref kd), .val (.int (pk p1 l2 (0 : Int32) (86 : Int32))), .val (.int (pk p1 l2 (1 : Int32) (79 : Int32))), .val (.int (pk p1 l2 (2 : Int32) (95 : Int32))), .val (.int (pk p1 l2 (3 : Int32) (65 : Int32))), .val (.int (pk p1 l2 (4 : Int32) (68 : Int32))), .val (.int (pk p1 l2 (5 : Int32) (77 : Int32))), .val (.int (pk p1 l2 (6 : Int32) (73 : Int32))), .val (.int (pk p1 l2 (7 : Int32) (78 : Int32))), .val (.int ((((p1.toUInt32 >>> ((10 : Int32) &&& 31).toUInt32).toInt32) &&& (255 : Int32)).toUInt32.toUInt16.toUInt32.toInt32)), .val (.int (((p1.toUInt32 >>> ((8 : Int32) &&& 31).toUInt32).toInt32) &&& (3 : Int32))), .val (.ref x), .unset, .unset] [(.int (pk p1 l2 (6 : Int32) (73 : Int32)))]))
                    refine go (fun _ => XS.bipush X29.here hx rfl (hb hby at_389)) ?_
                    show Run p e below _ (T29.setTop (mkF m 391 #[.val (.int p0), .val (.int p1), .val (.long l2), .second, .val (.int ((p0 &&& (2147483647 : Int32)) % (3 : Int32))), .val (.ref kd), .val (.int (pk p1 l2 (0 : Int32) (86 : Int32))), .val (.int (pk p1 l2 (1 : Int32) (79 : Int32))), .val (.int (pk p1 l2 (2 : Int32) (95 : Int32))), .val (.int (pk p1 l2 (3 : Int32) (65 : Int32))), .val (.int (pk p1 l2 (4 : Int32) (68 : Int32))), .val (.int (pk p1 l2 (5 : Int32) (77 : Int32))), .val (.int (pk p1 l2 (6 : Int32) (73 : Int32))), .val (.int (pk p1 l2 (7 : Int32) (78 : Int32))), .val (.int ((((p1.toUInt32 >>> ((10 : Int32) &&& 31).toUInt32).toInt32) &&& (255 : Int32)).toUInt32.toUInt16.toUInt32.toInt32)), .val (.int (((p1.toUInt32 >>> ((8 : Int32) &&& 31).toUInt32).toInt32) &&& (3 : Int32))), .val (.ref x), .unset, .unset] [(.int (73 : Int32)), (.int (pk p1 l2 (6 : Int32) (73 : Int32)))]))
                    by_cases c47 : (pk p1 l2 (6 : Int32) (73 : Int32)) = (73 : Int32)
                    · skip
                      refine go (fun _ => XS.icmpNo X29.here hx rfl (hb hby at_391) rfl (teq c47).2) ?_
                      show Run p e below _ (T29.setTop (mkF m 394 #[.val (.int p0), .val (.int p1), .val (.long l2), .second, .val (.int ((p0 &&& (2147483647 : Int32)) % (3 : Int32))), .val (.ref kd), .val (.int (pk p1 l2 (0 : Int32) (86 : Int32))), .val (.int (pk p1 l2 (1 : Int32) (79 : Int32))), .val (.int (pk p1 l2 (2 : Int32) (95 : Int32))), .val (.int (pk p1 l2 (3 : Int32) (65 : Int32))), .val (.int (pk p1 l2 (4 : Int32) (68 : Int32))), .val (.int (pk p1 l2 (5 : Int32) (77 : Int32))), .val (.int (pk p1 l2 (6 : Int32) (73 : Int32))), .val (.int (pk p1 l2 (7 : Int32) (78 : Int32))), .val (.int ((((p1.toUInt32 >>> ((10 : Int32) &&& 31).toUInt32).toInt32) &&& (255 : Int32)).toUInt32.toUInt16.toUInt32.toInt32)), .val (.int (((p1.toUInt32 >>> ((8 : Int32) &&& 31).toUInt32).toInt32) &&& (3 : Int32))), .val (.ref x), .unset, .unset] []))
                      refine go (fun _ => XS.iload X29.here hx rfl (hb hby at_394) rfl) ?_
                      show Run p e below _ (T29.setTop (mkF m 396 #[.val (.int p0), .val (.int p1), .val (.long l2), .second, .val (.int ((p0 &&& (2147483647 : Int32)) % (3 : Int32))), .val (.ref kd), .val (.int (pk p1 l2 (0 : Int32) (86 : Int32))), .val (.int (pk p1 l2 (1 : Int32) (79 : Int32))), .val (.int (pk p1 l2 (2 : Int32) (95 : Int32))), .val (.int (pk p1 l2 (3 : Int32) (65 : Int32))), .val (.int (pk p1 l2 (4 : Int32) (68 : Int32))), .val (.int (pk p1 l2 (5 : Int32) (77 : Int32))), .val (.int (pk p1 l2 (6 : Int32) (73 : Int32))), .val (.int (pk p1 l2 (7 : Int32) (78 : Int32))), .val (.int ((((p1.toUInt32 >>> ((10 : Int32) &&& 31).toUInt32).toInt32) &&& (255 : Int32)).toUInt32.toUInt16.toUInt32.toInt32)), .val (.int (((p1.toUInt32 >>> ((8 : Int32) &&& 31).toUInt32).toInt32) &&& (3 : Int32))), .val (.ref x), .unset, .unset] [(.int (pk p1 l2 (7 : Int32) (78 : Int32)))]))
                      refine go (fun _ => XS.bipush X29.here hx rfl (hb hby at_396)) ?_
                      show Run p e below _ (T29.setTop (mkF m 398 #[.val (.int p0), .val (.int p1), .val (.long l2), .second, .val (.int ((p0 &&& (2147483647 : Int32)) % (3 : Int32))), .val (.ref kd), .val (.int (pk p1 l2 (0 : Int32) (86 : Int32))), .val (.int (pk p1 l2 (1 : Int32) (79 : Int32))), .val (.int (pk p1 l2 (2 : Int32) (95 : Int32))), .val (.int (pk p1 l2 (3 : Int32) (65 : Int32))), .val (.int (pk p1 l2 (4 : Int32) (68 : Int32))), .val (.int (pk p1 l2 (5 : Int32) (77 : Int32))), .val (.int (pk p1 l2 (6 : Int32) (73 : Int32))), .val (.int (pk p1 l2 (7 : Int32) (78 : Int32))), .val (.int ((((p1.toUInt32 >>> ((10 : Int32) &&& 31).toUInt32).toInt32) &&& (255 : Int32)).toUInt32.toUInt16.toUInt32.toInt32)), .val (.int (((p1.toUInt32 >>> ((8 : Int32) &&& 31).toUInt32).toInt32) &&& (3 : Int32))), .val (.ref x), .unset, .unset] [(.int (78 : Int32)), (.int (pk p1 l2 (7 : Int32) (78 : Int32)))]))
                      by_cases c48 : (pk p1 l2 (7 : Int32) (78 : Int32)) = (78 : Int32)
                      · skip
                        refine go (fun _ => XS.icmpNo X29.here hx rfl (hb hby at_398) rfl (teq c48).2) ?_
                        show Run p e below _ (T29.setTop (mkF m 401 #[.val (.int p0), .val (.int p1), .val (.long l2), .second, .val (.int ((p0 &&& (2147483647 : Int32)) % (3 : Int32))), .val (.ref kd), .val (.int (pk p1 l2 (0 : Int32) (86 : Int32))), .val (.int (pk p1 l2 (1 : Int32) (79 : Int32))), .val (.int (pk p1 l2 (2 : Int32) (95 : Int32))), .val (.int (pk p1 l2 (3 : Int32) (65 : Int32))), .val (.int (pk p1 l2 (4 : Int32) (68 : Int32))), .val (.int (pk p1 l2 (5 : Int32) (77 : Int32))), .val (.int (pk p1 l2 (6 : Int32) (73 : Int32))), .val (.int (pk p1 l2 (7 : Int32) (78 : Int32))), .val (.int ((((p1.toUInt32 >>> ((10 : Int32) &&& 31).toUInt32).toInt32) &&& (255 : Int32)).toUInt32.toUInt16.toUInt32.toInt32)), .val (.int (((p1.toUInt32 >>> ((8 : Int32) &&& 31).toUInt32).toInt32) &&& (3 : Int32))), .val (.ref x), .unset, .unset] []))
                        refine go (fun _ => XS.iconst X29.here hx rfl (hb hby at_401)) ?_
                        show Run p e below _ (T29.setTop (mkF m 402 #[.val (.int p0), .val (.int p1), .val (.long l2), .second, .val (.int ((p0 &&& (2147483647 : Int32)) % (3 : Int32))), .val (.ref kd), .val (.int (pk p1 l2 (0 : Int32) (86 : Int32))), .val (.int (pk p1 l2 (1 : Int32) (79 : Int32))), .val (.int (pk p1 l2 (2 : Int32) (95 : Int32))), .val (.int (pk p1 l2 (3 : Int32) (65 : Int32))), .val (.int (pk p1 l2 (4 : Int32) (68 : Int32))), .val (.int (pk p1 l2 (5 : Int32) (77 : Int32))), .val (.int (pk p1 l2 (6 : Int32) (73 : Int32))), .val (.int (pk p1 l2 (7 : Int32) (78 : Int32))), .val (.int ((((p1.toUInt32 >>> ((10 : Int32) &&& 31).toUInt32).toInt32) &&& (255 : Int32)).toUInt32.toUInt16.toUInt32.toInt32)), .val (.int (((p1.toUInt32 >>> ((8 : Int32) &&& 31).toUInt32).toInt32) &&& (3 : Int32))), .val (.ref x), .unset, .unset] [(.int (1 : Int32))]))
                        refine go (fun _ => XS.goto X29.here hx rfl (pc0 := 402) (pc' := 406) rfl (hb hby at_402) (by decide) (by decide)) ?_
                        show Run p e below _ (T29.setTop (mkF m 406 #[.val (.int p0), .val (.int p1), .val (.long l2), .second, .val (.int ((p0 &&& (2147483647 : Int32)) % (3 : Int32))), .val (.ref kd), .val (.int (pk p1 l2 (0 : Int32) (86 : Int32))), .val (.int (pk p1 l2 (1 : Int32) (79 : Int32))), .val (.int (pk p1 l2 (2 : Int32) (95 : Int32))), .val (.int (pk p1 l2 (3 : Int32) (65 : Int32))), .val (.int (pk p1 l2 (4 : Int32) (68 : Int32))), .val (.int (pk p1 l2 (5 : Int32) (77 : Int32))), .val (.int (pk p1 l2 (6 : Int32) (73 : Int32))), .val (.int (pk p1 l2 (7 : Int32) (78 : Int32))), .val (.int ((((p1.toUInt32 >>> ((10 : Int32) &&& 31).toUInt32).toInt32) &&& (255 : Int32)).toUInt32.toUInt16.toUInt32.toInt32)), .val (.int (((p1.toUInt32 >>> ((8 : Int32) &&& 31).toUInt32).toInt32) &&& (3 : Int32))), .val (.ref x), .unset, .unset] [(.int (1 : Int32))]))
                        refine go (fun _ => XS.istore X29.here hx rfl (hb hby at_406) rfl (l' := #[.val (.int p0), .val (.int p1), .val (.long l2), .second, .val (.int ((p0 &&& (2147483647 : Int32)) % (3 : Int32))), .val (.ref kd), .val (.int (pk p1 l2 (0 : Int32) (86 : Int32))), .val (.int (pk p1 l2 (1 : Int32) (79 : Int32))), .val (.int (pk p1 l2 (2 : Int32) (95 : Int32))), .val (.int (pk p1 l2 (3 : Int32) (65 : Int32))), .val (.int (pk p1 l2 (4 : Int32) (68 : Int32))), .val (.int (pk p1 l2 (5 : Int32) (77 : Int32))), .val (.int (pk p1 l2 (6 : Int32) (73 : Int32))), .val (.int (pk p1 l2 (7 : Int32) (78 : Int32))), .val (.int ((((p1.toUInt32 >>> ((10 : Int32) &&& 31).toUInt32).toInt32) &&& (255 : Int32)).toUInt32.toUInt16.toUInt32.toInt32)), .val (.int (((p1.toUInt32 >>> ((8 : Int32) &&& 31).toUInt32).toInt32) &&& (3 : Int32))), .val (.ref x), .val (.int (1 : Int32)), .unset]) rfl) ?_
                        show Run p e below _ (T29.setTop (mkF m 408 #[.val (.int p0), .val (.int p1), .val (.long l2), .second, .val (.int ((p0 &&& (2147483647 : Int32)) % (3 : Int32))), .val (.ref kd), .val (.int (pk p1 l2 (0 : Int32) (86 : Int32))), .val (.int (pk p1 l2 (1 : Int32) (79 : Int32))), .val (.int (pk p1 l2 (2 : Int32) (95 : Int32))), .val (.int (pk p1 l2 (3 : Int32) (65 : Int32))), .val (.int (pk p1 l2 (4 : Int32) (68 : Int32))), .val (.int (pk p1 l2 (5 : Int32) (77 : Int32))), .val (.int (pk p1 l2 (6 : Int32) (73 : Int32))), .val (.int (pk p1 l2 (7 : Int32) (78 : Int32))), .val (.int ((((p1.toUInt32 >>> ((10 : Int32) &&& 31).toUInt32).toInt32) &&& (255 : Int32)).toUInt32.toUInt16.toUInt32.toInt32)), .val (.int (((p1.toUInt32 >>> ((8 : Int32) &&& 31).toUInt32).toInt32) &&& (3 : Int32))), .val (.ref x), .val (.int (1 : Int32)), .unset] []))
                        exact J408 _ _ X29 e29 N29 (1 : Int32)  (by rw [hs0 c40]; simp [c41, c42, c43, c44, c45, c46, c47, c48])
                      · skip
                        refine go (fun _ => XS.icmpYes X29.here hx rfl (pc0 := 398) (pc' := 405) rfl (hb hby at_398) rfl (feq c48).2 (by decide) (by decide)) ?_
                        show Run p e below _ (T29.setTop (mkF m 405 #[.val (.int p0), .val (.int p1), .val (.long l2), .second, .val (.int ((p0 &&& (2147483647 : Int32)) % (3 : Int32))), .val (.ref kd), .val (.int (pk p1 l2 (0 : Int32) (86 : Int32))), .val (.int (pk p1 l2 (1 : Int32) (79 : Int32))), .val (.int (pk p1 l2 (2 : Int32) (95 : Int32))), .val (.int (pk p1 l2 (3 : Int32) (65 : Int32))), .val (.int (pk p1 l2 (4 : Int32) (68 : Int32))), .val (.int (pk p1 l2 (5 : Int32) (77 : Int32))), .val (.int (pk p1 l2 (6 : Int32) (73 : Int32))), .val (.int (pk p1 l2 (7 : Int32) (78 : Int32))), .val (.int ((((p1.toUInt32 >>> ((10 : Int32) &&& 31).toUInt32).toInt32) &&& (255 : Int32)).toUInt32.toUInt16.toUInt32.toInt32)), .val (.int (((p1.toUInt32 >>> ((8 : Int32) &&& 31).toUInt32).toInt32) &&& (3 : Int32))), .val (.ref x), .unset, .unset] []))
                        refine go (fun _ => XS.iconst X29.here hx rfl (hb hby at_405)) ?_
                        show Run p e below _ (T29.setTop (mkF m 406 #[.val (.int p0), .val (.int p1), .val (.long l2), .second, .val (.int ((p0 &&& (2147483647 : Int32)) % (3 : Int32))), .val (.ref kd), .val (.int (pk p1 l2 (0 : Int32) (86 : Int32))), .val (.int (pk p1 l2 (1 : Int32) (79 : Int32))), .val (.int (pk p1 l2 (2 : Int32) (95 : Int32))), .val (.int (pk p1 l2 (3 : Int32) (65 : Int32))), .val (.int (pk p1 l2 (4 : Int32) (68 : Int32))), .val (.int (pk p1 l2 (5 : Int32) (77 : Int32))), .val (.int (pk p1 l2 (6 : Int32) (73 : Int32))), .val (.int (pk p1 l2 (7 : Int32) (78 : Int32))), .val (.int ((((p1.toUInt32 >>> ((10 : Int32) &&& 31).toUInt32).toInt32) &&& (255 : Int32)).toUInt32.toUInt16.toUInt32.toInt32)), .val (.int (((p1.toUInt32 >>> ((8 : Int32) &&& 31).toUInt32).toInt32) &&& (3 : Int32))), .val (.ref x), .unset, .unset] [(.int (0 : Int32))]))
                        refine go (fun _ => XS.istore X29.here hx rfl (hb hby at_406) rfl (l' := #[.val (.int p0), .val (.int p1), .val (.long l2), .second, .val (.int ((p0 &&& (2147483647 : Int32)) % (3 : Int32))), .val (.ref kd), .val (.int (pk p1 l2 (0 : Int32) (86 : Int32))), .val (.int (pk p1 l2 (1 : Int32) (79 : Int32))), .val (.int (pk p1 l2 (2 : Int32) (95 : Int32))), .val (.int (pk p1 l2 (3 : Int32) (65 : Int32))), .val (.int (pk p1 l2 (4 : Int32) (68 : Int32))), .val (.int (pk p1 l2 (5 : Int32) (77 : Int32))), .val (.int (pk p1 l2 (6 : Int32) (73 : Int32))), .val (.int (pk p1 l2 (7 : Int32) (78 : Int32))), .val (.int ((((p1.toUInt32 >>> ((10 : Int32) &&& 31).toUInt32).toInt32) &&& (255 : Int32)).toUInt32.toUInt16.toUInt32.toInt32)), .val (.int (((p1.toUInt32 >>> ((8 : Int32) &&& 31).toUInt32).toInt32) &&& (3 : Int32))), .val (.ref x), .val (.int (0 : Int32)), .unset]) rfl) ?_
                        show Run p e below _ (T29.setTop (mkF m 408 #[.val (.int p0), .val (.int p1), .val (.long l2), .second, .val (.int ((p0 &&& (2147483647 : Int32)) % (3 : Int32))), .val (.ref kd), .val (.int (pk p1 l2 (0 : Int32) (86 : Int32))), .val (.int (pk p1 l2 (1 : Int32) (79 : Int32))), .val (.int (pk p1 l2 (2 : Int32) (95 : Int32))), .val (.int (pk p1 l2 (3 : Int32) (65 : Int32))), .val (.int (pk p1 l2 (4 : Int32) (68 : Int32))), .val (.int (pk p1 l2 (5 : Int32) (77 : Int32))), .val (.int (pk p1 l2 (6 : Int32) (73 : Int32))), .val (.int (pk p1 l2 (7 : Int32) (78 : Int32))), .val (.int ((((p1.toUInt32 >>> ((10 : Int32) &&& 31).toUInt32).toInt32) &&& (255 : Int32)).toUInt32.toUInt16.toUInt32.toInt32)), .val (.int (((p1.toUInt32 >>> ((8 : Int32) &&& 31).toUInt32).toInt32) &&& (3 : Int32))), .val (.ref x), .val (.int (0 : Int32)), .unset] []))
                        exact J408 _ _ X29 e29 N29 (0 : Int32)  (by rw [hs0 c40]; simp [c41, c42, c43, c44, c45, c46, c47, c48, Ne.symm c48])
                    · skip
                      refine go (fun _ => XS.icmpYes X29.here hx rfl (pc0 := 391) (pc' := 405) rfl (hb hby at_391) rfl (feq c47).2 (by decide) (by decide)) ?_
                      show Run p e below _ (T29.setTop (mkF m 405 #[.val (.int p0), .val (.int p1), .val (.long l2), .second, .val (.int ((p0 &&& (2147483647 : Int32)) % (3 : Int32))), .val (.ref kd), .val (.int (pk p1 l2 (0 : Int32) (86 : Int32))), .val (.int (pk p1 l2 (1 : Int32) (79 : Int32))), .val (.int (pk p1 l2 (2 : Int32) (95 : Int32))), .val (.int (pk p1 l2 (3 : Int32) (65 : Int32))), .val (.int (pk p1 l2 (4 : Int32) (68 : Int32))), .val (.int (pk p1 l2 (5 : Int32) (77 : Int32))), .val (.int (pk p1 l2 (6 : Int32) (73 : Int32))), .val (.int (pk p1 l2 (7 : Int32) (78 : Int32))), .val (.int ((((p1.toUInt32 >>> ((10 : Int32) &&& 31).toUInt32).toInt32) &&& (255 : Int32)).toUInt32.toUInt16.toUInt32.toInt32)), .val (.int (((p1.toUInt32 >>> ((8 : Int32) &&& 31).toUInt32).toInt32) &&& (3 : Int32))), .val (.ref x), .unset, .unset] []))
                      refine go (fun _ => XS.iconst X29.here hx rfl (hb hby at_405)) ?_
                      show Run p e below _ (T29.setTop (mkF m 406 #[.val (.int p0), .val (.int p1), .val (.long l2), .second, .val (.int ((p0 &&& (2147483647 : Int32)) % (3 : Int32))), .val (.ref kd), .val (.int (pk p1 l2 (0 : Int32) (86 : Int32))), .val (.int (pk p1 l2 (1 : Int32) (79 : Int32))), .val (.int (pk p1 l2 (2 : Int32) (95 : Int32))), .val (.int (pk p1 l2 (3 : Int32) (65 : Int32))), .val (.int (pk p1 l2 (4 : Int32) (68 : Int32))), .val (.int (pk p1 l2 (5 : Int32) (77 : Int32))), .val (.int (pk p1 l2 (6 : Int32) (73 : Int32))), .val (.int (pk p1 l2 (7 : Int32) (78 : Int32))), .val (.int ((((p1.toUInt32 >>> ((10 : Int32) &&& 31).toUInt32).toInt32) &&& (255 : Int32)).toUInt32.toUInt16.toUInt32.toInt32)), .val (.int (((p1.toUInt32 >>> ((8 : Int32) &&& 31).toUInt32).toInt32) &&& (3 : Int32))), .val (.ref x), .unset, .unset] [(.int (0 : Int32))]))
                      refine go (fun _ => XS.istore X29.here hx rfl (hb hby at_406) rfl (l' := #[.val (.int p0), .val (.int p1), .val (.long l2), .second, .val (.int ((p0 &&& (2147483647 : Int32)) % (3 : Int32))), .val (.ref kd), .val (.int (pk p1 l2 (0 : Int32) (86 : Int32))), .val (.int (pk p1 l2 (1 : Int32) (79 : Int32))), .val (.int (pk p1 l2 (2 : Int32) (95 : Int32))), .val (.int (pk p1 l2 (3 : Int32) (65 : Int32))), .val (.int (pk p1 l2 (4 : Int32) (68 : Int32))), .val (.int (pk p1 l2 (5 : Int32) (77 : Int32))), .val (.int (pk p1 l2 (6 : Int32) (73 : Int32))), .val (.int (pk p1 l2 (7 : Int32) (78 : Int32))), .val (.int ((((p1.toUInt32 >>> ((10 : Int32) &&& 31).toUInt32).toInt32) &&& (255 : Int32)).toUInt32.toUInt16.toUInt32.toInt32)), .val (.int (((p1.toUInt32 >>> ((8 : Int32) &&& 31).toUInt32).toInt32) &&& (3 : Int32))), .val (.ref x), .val (.int (0 : Int32)), .unset]) rfl) ?_
                      show Run p e below _ (T29.setTop (mkF m 408 #[.val (.int p0), .val (.int p1), .val (.long l2), .second, .val (.int ((p0 &&& (2147483647 : Int32)) % (3 : Int32))), .val (.ref kd), .val (.int (pk p1 l2 (0 : Int32) (86 : Int32))), .val (.int (pk p1 l2 (1 : Int32) (79 : Int32))), .val (.int (pk p1 l2 (2 : Int32) (95 : Int32))), .val (.int (pk p1 l2 (3 : Int32) (65 : Int32))), .val (.int (pk p1 l2 (4 : Int32) (68 : Int32))), .val (.int (pk p1 l2 (5 : Int32) (77 : Int32))), .val (.int (pk p1 l2 (6 : Int32) (73 : Int32))), .val (.int (pk p1 l2 (7 : Int32) (78 : Int32))), .val (.int ((((p1.toUInt32 >>> ((10 : Int32) &&& 31).toUInt32).toInt32) &&& (255 : Int32)).toUInt32.toUInt16.toUInt32.toInt32)), .val (.int (((p1.toUInt32 >>> ((8 : Int32) &&& 31).toUInt32).toInt32) &&& (3 : Int32))), .val (.ref x), .val (.int (0 : Int32)), .unset] []))
                      exact J408 _ _ X29 e29 N29 (0 : Int32)  (by rw [hs0 c40]; simp [c41, c42, c43, c44, c45, c46, c47, Ne.symm c47])
                  · skip
                    refine go (fun _ => XS.icmpYes X29.here hx rfl (pc0 := 384) (pc' := 405) rfl (hb hby at_384) rfl (feq c46).2 (by decide) (by decide)) ?_
                    show Run p e below _ (T29.setTop (mkF m 405 #[.val (.int p0), .val (.int p1), .val (.long l2), .second, .val (.int ((p0 &&& (2147483647 : Int32)) % (3 : Int32))), .val (.ref kd), .val (.int (pk p1 l2 (0 : Int32) (86 : Int32))), .val (.int (pk p1 l2 (1 : Int32) (79 : Int32))), .val (.int (pk p1 l2 (2 : Int32) (95 : Int32))), .val (.int (pk p1 l2 (3 : Int32) (65 : Int32))), .val (.int (pk p1 l2 (4 : Int32) (68 : Int32))), .val (.int (pk p1 l2 (5 : Int32) (77 : Int32))), .val (.int (pk p1 l2 (6 : Int32) (73 : Int32))), .val (.int (pk p1 l2 (7 : Int32) (78 : Int32))), .val (.int ((((p1.toUInt32 >>> ((10 : Int32) &&& 31).toUInt32).toInt32) &&& (255 : Int32)).toUInt32.toUInt16.toUInt32.toInt32)), .val (.int (((p1.toUInt32 >>> ((8 : Int32) &&& 31).toUInt32).toInt32) &&& (3 : Int32))), .val (.ref x), .unset, .unset] []))
                    refine go (fun _ => XS.iconst X29.here hx rfl (hb hby at_405)) ?_
                    show Run p e below _ (T29.setTop (mkF m 406 #[.val (.int p0), .val (.int p1), .val (.long l2), .second, .val (.int ((p0 &&& (2147483647 : Int32)) % (3 : Int32))), .val (.ref kd), .val (.int (pk p1 l2 (0 : Int32) (86 : Int32))), .val (.int (pk p1 l2 (1 : Int32) (79 : Int32))), .val (.int (pk p1 l2 (2 : Int32) (95 : Int32))), .val (.int (pk p1 l2 (3 : Int32) (65 : Int32))), .val (.int (pk p1 l2 (4 : Int32) (68 : Int32))), .val (.int (pk p1 l2 (5 : Int32) (77 : Int32))), .val (.int (pk p1 l2 (6 : Int32) (73 : Int32))), .val (.int (pk p1 l2 (7 : Int32) (78 : Int32))), .val (.int ((((p1.toUInt32 >>> ((10 : Int32) &&& 31).toUInt32).toInt32) &&& (255 : Int32)).toUInt32.toUInt16.toUInt32.toInt32)), .val (.int (((p1.toUInt32 >>> ((8 : Int32) &&& 31).toUInt32).toInt32) &&& (3 : Int32))), .val (.ref x), .unset, .unset] [(.int (0 : Int32))]))
                    refine go (fun _ => XS.istore X29.here hx rfl (hb hby at_406) rfl (l' := #[.val (.int p0), .val (.int p1), .val (.long l2), .second, .val (.int ((p0 &&& (2147483647 : Int32)) % (3 : Int32))), .val (.ref kd), .val (.int (pk p1 l2 (0 : Int32) (86 : Int32))), .val (.int (pk p1 l2 (1 : Int32) (79 : Int32))), .val (.int (pk p1 l2 (2 : Int32) (95 : Int32))), .val (.int (pk p1 l2 (3 : Int32) (65 : Int32))), .val (.int (pk p1 l2 (4 : Int32) (68 : Int32))), .val (.int (pk p1 l2 (5 : Int32) (77 : Int32))), .val (.int (pk p1 l2 (6 : Int32) (73 : Int32))), .val (.int (pk p1 l2 (7 : Int32) (78 : Int32))), .val (.int ((((p1.toUInt32 >>> ((10 : Int32) &&& 31).toUInt32).toInt32) &&& (255 : Int32)).toUInt32.toUInt16.toUInt32.toInt32)), .val (.int (((p1.toUInt32 >>> ((8 : Int32) &&& 31).toUInt32).toInt32) &&& (3 : Int32))), .val (.ref x), .val (.int (0 : Int32)), .unset]) rfl) ?_
                    show Run p e below _ (T29.setTop (mkF m 408 #[.val (.int p0), .val (.int p1), .val (.long l2), .second, .val (.int ((p0 &&& (2147483647 : Int32)) % (3 : Int32))), .val (.ref kd), .val (.int (pk p1 l2 (0 : Int32) (86 : Int32))), .val (.int (pk p1 l2 (1 : Int32) (79 : Int32))), .val (.int (pk p1 l2 (2 : Int32) (95 : Int32))), .val (.int (pk p1 l2 (3 : Int32) (65 : Int32))), .val (.int (pk p1 l2 (4 : Int32) (68 : Int32))), .val (.int (pk p1 l2 (5 : Int32) (77 : Int32))), .val (.int (pk p1 l2 (6 : Int32) (73 : Int32))), .val (.int (pk p1 l2 (7 : Int32) (78 : Int32))), .val (.int ((((p1.toUInt32 >>> ((10 : Int32) &&& 31).toUInt32).toInt32) &&& (255 : Int32)).toUInt32.toUInt16.toUInt32.toInt32)), .val (.int (((p1.toUInt32 >>> ((8 : Int32) &&& 31).toUInt32).toInt32) &&& (3 : Int32))), .val (.ref x), .val (.int (0 : Int32)), .unset] []))
                    exact J408 _ _ X29 e29 N29 (0 : Int32)  (by rw [hs0 c40]; simp [c41, c42, c43, c44, c45, c46, Ne.symm c46])
                · skip
                  refine go (fun _ => XS.icmpYes X29.here hx rfl (pc0 := 377) (pc' := 405) rfl (hb hby at_377) rfl (feq c45).2 (by decide) (by decide)) ?_
                  show Run p e below _ (T29.setTop (mkF m 405 #[.val (.int p0), .val (.int p1), .val (.long l2), .second, .val (.int ((p0 &&& (2147483647 : Int32)) % (3 : Int32))), .val (.ref kd), .val (.int (pk p1 l2 (0 : Int32) (86 : Int32))), .val (.int (pk p1 l2 (1 : Int32) (79 : Int32))), .val (.int (pk p1 l2 (2 : Int32) (95 : Int32))), .val (.int (pk p1 l2 (3 : Int32) (65 : Int32))), .val (.int (pk p1 l2 (4 : Int32) (68 : Int32))), .val (.int (pk p1 l2 (5 : Int32) (77 : Int32))), .val (.int (pk p1 l2 (6 : Int32) (73 : Int32))), .val (.int (pk p1 l2 (7 : Int32) (78 : Int32))), .val (.int ((((p1.toUInt32 >>> ((10 : Int32) &&& 31).toUInt32).toInt32) &&& (255 : Int32)).toUInt32.toUInt16.toUInt32.toInt32)), .val (.int (((p1.toUInt32 >>> ((8 : Int32) &&& 31).toUInt32).toInt32) &&& (3 : Int32))), .val (.ref x), .unset, .unset] []))
                  refine go (fun _ => XS.iconst X29.here hx rfl (hb hby at_405)) ?_
                  show Run p e below _ (T29.setTop (mkF m 406 #[.val (.int p0), .val (.int p1), .val (.long l2), .second, .val (.int ((p0 &&& (2147483647 : Int32)) % (3 : Int32))), .val (.ref kd), .val (.int (pk p1 l2 (0 : Int32) (86 : Int32))), .val (.int (pk p1 l2 (1 : Int32) (79 : Int32))), .val (.int (pk p1 l2 (2 : Int32) (95 : Int32))), .val (.int (pk p1 l2 (3 : Int32) (65 : Int32))), .val (.int (pk p1 l2 (4 : Int32) (68 : Int32))), .val (.int (pk p1 l2 (5 : Int32) (77 : Int32))), .val (.int (pk p1 l2 (6 : Int32) (73 : Int32))), .val (.int (pk p1 l2 (7 : Int32) (78 : Int32))), .val (.int ((((p1.toUInt32 >>> ((10 : Int32) &&& 31).toUInt32).toInt32) &&& (255 : Int32)).toUInt32.toUInt16.toUInt32.toInt32)), .val (.int (((p1.toUInt32 >>> ((8 : Int32) &&& 31).toUInt32).toInt32) &&& (3 : Int32))), .val (.ref x), .unset, .unset] [(.int (0 : Int32))]))
                  refine go (fun _ => XS.istore X29.here hx rfl (hb hby at_406) rfl (l' := #[.val (.int p0), .val (.int p1), .val (.long l2), .second, .val (.int ((p0 &&& (2147483647 : Int32)) % (3 : Int32))), .val (.ref kd), .val (.int (pk p1 l2 (0 : Int32) (86 : Int32))), .val (.int (pk p1 l2 (1 : Int32) (79 : Int32))), .val (.int (pk p1 l2 (2 : Int32) (95 : Int32))), .val (.int (pk p1 l2 (3 : Int32) (65 : Int32))), .val (.int (pk p1 l2 (4 : Int32) (68 : Int32))), .val (.int (pk p1 l2 (5 : Int32) (77 : Int32))), .val (.int (pk p1 l2 (6 : Int32) (73 : Int32))), .val (.int (pk p1 l2 (7 : Int32) (78 : Int32))), .val (.int ((((p1.toUInt32 >>> ((10 : Int32) &&& 31).toUInt32).toInt32) &&& (255 : Int32)).toUInt32.toUInt16.toUInt32.toInt32)), .val (.int (((p1.toUInt32 >>> ((8 : Int32) &&& 31).toUInt32).toInt32) &&& (3 : Int32))), .val (.ref x), .val (.int (0 : Int32)), .unset]) rfl) ?_
                  show Run p e below _ (T29.setTop (mkF m 408 #[.val (.int p0), .val (.int p1), .val (.long l2), .second, .val (.int ((p0 &&& (2147483647 : Int32)) % (3 : Int32))), .val (.ref kd), .val (.int (pk p1 l2 (0 : Int32) (86 : Int32))), .val (.int (pk p1 l2 (1 : Int32) (79 : Int32))), .val (.int (pk p1 l2 (2 : Int32) (95 : Int32))), .val (.int (pk p1 l2 (3 : Int32) (65 : Int32))), .val (.int (pk p1 l2 (4 : Int32) (68 : Int32))), .val (.int (pk p1 l2 (5 : Int32) (77 : Int32))), .val (.int (pk p1 l2 (6 : Int32) (73 : Int32))), .val (.int (pk p1 l2 (7 : Int32) (78 : Int32))), .val (.int ((((p1.toUInt32 >>> ((10 : Int32) &&& 31).toUInt32).toInt32) &&& (255 : Int32)).toUInt32.toUInt16.toUInt32.toInt32)), .val (.int (((p1.toUInt32 >>> ((8 : Int32) &&& 31).toUInt32).toInt32) &&& (3 : Int32))), .val (.ref x), .val (.int (0 : Int32)), .unset] []))
                  exact J408 _ _ X29 e29 N29 (0 : Int32)  (by rw [hs0 c40]; simp [c41, c42, c43, c44, c45, Ne.symm c45])
              · skip
                refine go (fun _ => XS.icmpYes X29.here hx rfl (pc0 := 370) (pc' := 405) rfl (hb hby at_370) rfl (feq c44).2 (by decide) (by decide)) ?_
                show Run p e below _ (T29.setTop (mkF m 405 #[.val (.int p0), .val (.int p1), .val (.long l2), .second, .val (.int ((p0 &&& (2147483647 : Int32)) % (3 : Int32))), .val (.ref kd), .val (.int (pk p1 l2 (0 : Int32) (86 : Int32))), .val (.int (pk p1 l2 (1 : Int32) (79 : Int32))), .val (.int (pk p1 l2 (2 : Int32) (95 : Int32))), .val (.int (pk p1 l2 (3 : Int32) (65 : Int32))), .val (.int (pk p1 l2 (4 : Int32) (68 : Int32))), .val (.int (pk p1 l2 (5 : Int32) (77 : Int32))), .val (.int (pk p1 l2 (6 : Int32) (73 : Int32))), .val (.int (pk p1 l2 (7 : Int32) (78 : Int32))), .val (.int ((((p1.toUInt32 >>> ((10 : Int32) &&& 31).toUInt32).toInt32) &&& (255 : Int32)).toUInt32.toUInt16.toUInt32.toInt32)), .val (.int (((p1.toUInt32 >>> ((8 : Int32) &&& 31).toUInt32).toInt32) &&& (3 : Int32))), .val (.ref x), .unset, .unset] []))
                refine go (fun _ => XS.iconst X29.here hx rfl (hb hby at_405)) ?_
                show Run p e below _ (T29.setTop (mkF m 406 #[.val (.int p0), .val (.int p1), .val (.long l2), .second, .val (.int ((p0 &&& (2147483647 : Int32)) % (3 : Int32))), .val (.ref kd), .val (.int (pk p1 l2 (0 : Int32) (86 : Int32))), .val (.int (pk p1 l2 (1 : Int32) (79 : Int32))), .val (.int (pk p1 l2 (2 : Int32) (95 : Int32))), .val (.int (pk p1 l2 (3 : Int32) (65 : Int32))), .val (.int (pk p1 l2 (4 : Int32) (68 : Int32))), .val (.int (pk p1 l2 (5 : Int32) (77 : Int32))), .val (.int (pk p1 l2 (6 : Int32) (73 : Int32))), .val (.int (pk p1 l2 (7 : Int32) (78 : Int32))), .val (.int ((((p1.toUInt32 >>> ((10 : Int32) &&& 31).toUInt32).toInt32) &&& (255 : Int32)).toUInt32.toUInt16.toUInt32.toInt32)), .val (.int (((p1.toUInt32 >>> ((8 : Int32) &&& 31).toUInt32).toInt32) &&& (3 : Int32))), .val (.ref x), .unset, .unset] [(.int (0 : Int32))]))
                refine go (fun _ => XS.istore X29.here hx rfl (hb hby at_406) rfl (l' := #[.val (.int p0), .val (.int p1), .val (.long l2), .second, .val (.int ((p0 &&& (2147483647 : Int32)) % (3 : Int32))), .val (.ref kd), .val (.int (pk p1 l2 (0 : Int32) (86 : Int32))), .val (.int (pk p1 l2 (1 : Int32) (79 : Int32))), .val (.int (pk p1 l2 (2 : Int32) (95 : Int32))), .val (.int (pk p1 l2 (3 : Int32) (65 : Int32))), .val (.int (pk p1 l2 (4 : Int32) (68 : Int32))), .val (.int (pk p1 l2 (5 : Int32) (77 : Int32))), .val (.int (pk p1 l2 (6 : Int32) (73 : Int32))), .val (.int (pk p1 l2 (7 : Int32) (78 : Int32))), .val (.int ((((p1.toUInt32 >>> ((10 : Int32) &&& 31).toUInt32).toInt32) &&& (255 : Int32)).toUInt32.toUInt16.toUInt32.toInt32)), .val (.int (((p1.toUInt32 >>> ((8 : Int32) &&& 31).toUInt32).toInt32) &&& (3 : Int32))), .val (.ref x), .val (.int (0 : Int32)), .unset]) rfl) ?_
                show Run p e below _ (T29.setTop (mkF m 408 #[.val (.int p0), .val (.int p1), .val (.long l2), .second, .val (.int ((p0 &&& (2147483647 : Int32)) % (3 : Int32))), .val (.ref kd), .val (.int (pk p1 l2 (0 : Int32) (86 : Int32))), .val (.int (pk p1 l2 (1 : Int32) (79 : Int32))), .val (.int (pk p1 l2 (2 : Int32) (95 : Int32))), .val (.int (pk p1 l2 (3 : Int32) (65 : Int32))), .val (.int (pk p1 l2 (4 : Int32) (68 : Int32))), .val (.int (pk p1 l2 (5 : Int32) (77 : Int32))), .val (.int (pk p1 l2 (6 : Int32) (73 : Int32))), .val (.int (pk p1 l2 (7 : Int32) (78 : Int32))), .val (.int ((((p1.toUInt32 >>> ((10 : Int32) &&& 31).toUInt32).toInt32) &&& (255 : Int32)).toUInt32.toUInt16.toUInt32.toInt32)), .val (.int (((p1.toUInt32 >>> ((8 : Int32) &&& 31).toUInt32).toInt32) &&& (3 : Int32))), .val (.ref x), .val (.int (0 : Int32)), .unset] []))
                exact J408 _ _ X29 e29 N29 (0 : Int32)  (by rw [hs0 c40]; simp [c41, c42, c43, c44, Ne.symm c44])
            · skip
              refine go (fun _ => XS.icmpYes X29.here hx rfl (pc0 := 363) (pc' := 405) rfl (hb hby at_363) rfl (feq c43).2 (by decide) (by decide)) ?_
              show Run p e below _ (T29.setTop (mkF m 405 #[.val (.int p0), .val (.int p1), .val (.long l2), .second, .val (.int ((p0 &&& (2147483647 : Int32)) % (3 : Int32))), .val (.ref kd), .val (.int (pk p1 l2 (0 : Int32) (86 : Int32))), .val (.int (pk p1 l2 (1 : Int32) (79 : Int32))), .val (.int (pk p1 l2 (2 : Int32) (95 : Int32))), .val (.int (pk p1 l2 (3 : Int32) (65 : Int32))), .val (.int (pk p1 l2 (4 : Int32) (68 : Int32))), .val (.int (pk p1 l2 (5 : Int32) (77 : Int32))), .val (.int (pk p1 l2 (6 : Int32) (73 : Int32))), .val (.int (pk p1 l2 (7 : Int32) (78 : Int32))), .val (.int ((((p1.toUInt32 >>> ((10 : Int32) &&& 31).toUInt32).toInt32) &&& (255 : Int32)).toUInt32.toUInt16.toUInt32.toInt32)), .val (.int (((p1.toUInt32 >>> ((8 : Int32) &&& 31).toUInt32).toInt32) &&& (3 : Int32))), .val (.ref x), .unset, .unset] []))
              refine go (fun _ => XS.iconst X29.here hx rfl (hb hby at_405)) ?_
              show Run p e below _ (T29.setTop (mkF m 406 #[.val (.int p0), .val (.int p1), .val (.long l2), .second, .val (.int ((p0 &&& (2147483647 : Int32)) % (3 : Int32))), .val (.ref kd), .val (.int (pk p1 l2 (0 : Int32) (86 : Int32))), .val (.int (pk p1 l2 (1 : Int32) (79 : Int32))), .val (.int (pk p1 l2 (2 : Int32) (95 : Int32))), .val (.int (pk p1 l2 (3 : Int32) (65 : Int32))), .val (.int (pk p1 l2 (4 : Int32) (68 : Int32))), .val (.int (pk p1 l2 (5 : Int32) (77 : Int32))), .val (.int (pk p1 l2 (6 : Int32) (73 : Int32))), .val (.int (pk p1 l2 (7 : Int32) (78 : Int32))), .val (.int ((((p1.toUInt32 >>> ((10 : Int32) &&& 31).toUInt32).toInt32) &&& (255 : Int32)).toUInt32.toUInt16.toUInt32.toInt32)), .val (.int (((p1.toUInt32 >>> ((8 : Int32) &&& 31).toUInt32).toInt32) &&& (3 : Int32))), .val (.ref x), .unset, .unset] [(.int (0 : Int32))]))
              refine go (fun _ => XS.istore X29.here hx rfl (hb hby at_406) rfl (l' := #[.val (.int p0), .val (.int p1), .val (.long l2), .second, .val (.int ((p0 &&& (2147483647 : Int32)) % (3 : Int32))), .val (.ref kd), .val (.int (pk p1 l2 (0 : Int32) (86 : Int32))), .val (.int (pk p1 l2 (1 : Int32) (79 : Int32))), .val (.int (pk p1 l2 (2 : Int32) (95 : Int32))), .val (.int (pk p1 l2 (3 : Int32) (65 : Int32))), .val (.int (pk p1 l2 (4 : Int32) (68 : Int32))), .val (.int (pk p1 l2 (5 : Int32) (77 : Int32))), .val (.int (pk p1 l2 (6 : Int32) (73 : Int32))), .val (.int (pk p1 l2 (7 : Int32) (78 : Int32))), .val (.int ((((p1.toUInt32 >>> ((10 : Int32) &&& 31).toUInt32).toInt32) &&& (255 : Int32)).toUInt32.toUInt16.toUInt32.toInt32)), .val (.int (((p1.toUInt32 >>> ((8 : Int32) &&& 31).toUInt32).toInt32) &&& (3 : Int32))), .val (.ref x), .val (.int (0 : Int32)), .unset]) rfl) ?_
              show Run p e below _ (T29.setTop (mkF m 408 #[.val (.int p0), .val (.int p1), .val (.long l2), .second, .val (.int ((p0 &&& (2147483647 : Int32)) % (3 : Int32))), .val (.ref kd), .val (.int (pk p1 l2 (0 : Int32) (86 : Int32))), .val (.int (pk p1 l2 (1 : Int32) (79 : Int32))), .val (.int (pk p1 l2 (2 : Int32) (95 : Int32))), .val (.int (pk p1 l2 (3 : Int32) (65 : Int32))), .val (.int (pk p1 l2 (4 : Int32) (68 : Int32))), .val (.int (pk p1 l2 (5 : Int32) (77 : Int32))), .val (.int (pk p1 l2 (6 : Int32) (73 : Int32))), .val (.int (pk p1 l2 (7 : Int32) (78 : Int32))), .val (.int ((((p1.toUInt32 >>> ((10 : Int32) &&& 31).toUInt32).toInt32) &&& (255 : Int32)).toUInt32.toUInt16.toUInt32.toInt32)), .val (.int (((p1.toUInt32 >>> ((8 : Int32) &&& 31).toUInt32).toInt32) &&& (3 : Int32))), .val (.ref x), .val (.int (0 : Int32)), .unset] []))
              exact J408 _ _ X29 e29 N29 (0 : Int32)  (by rw [hs0 c40]; simp [c41, c42, c43, Ne.symm c43])
          · skip
            refine go (fun _ => XS.icmpYes X29.here hx rfl (pc0 := 356) (pc' := 405) rfl (hb hby at_356) rfl (feq c42).2 (by decide) (by decide)) ?_
            show Run p e below _ (T29.setTop (mkF m 405 #[.val (.int p0), .val (.int p1), .val (.long l2), .second, .val (.int ((p0 &&& (2147483647 : Int32)) % (3 : Int32))), .val (.ref kd), .val (.int (pk p1 l2 (0 : Int32) (86 : Int32))), .val (.int (pk p1 l2 (1 : Int32) (79 : Int32))), .val (.int (pk p1 l2 (2 : Int32) (95 : Int32))), .val (.int (pk p1 l2 (3 : Int32) (65 : Int32))), .val (.int (pk p1 l2 (4 : Int32) (68 : Int32))), .val (.int (pk p1 l2 (5 : Int32) (77 : Int32))), .val (.int (pk p1 l2 (6 : Int32) (73 : Int32))), .val (.int (pk p1 l2 (7 : Int32) (78 : Int32))), .val (.int ((((p1.toUInt32 >>> ((10 : Int32) &&& 31).toUInt32).toInt32) &&& (255 : Int32)).toUInt32.toUInt16.toUInt32.toInt32)), .val (.int (((p1.toUInt32 >>> ((8 : Int32) &&& 31).toUInt32).toInt32) &&& (3 : Int32))), .val (.ref x), .unset, .unset] []))
            refine go (fun _ => XS.iconst X29.here hx rfl (hb hby at_405)) ?_
            show Run p e below _ (T29.setTop (mkF m 406 #[.val (.int p0), .val (.int p1), .val (.long l2), .second, .val (.int ((p0 &&& (2147483647 : Int32)) % (3 : Int32))), .val (.ref kd), .val (.int (pk p1 l2 (0 : Int32) (86 : Int32))), .val (.int (pk p1 l2 (1 : Int32) (79 : Int32))), .val (.int (pk p1 l2 (2 : Int32) (95 : Int32))), .val (.int (pk p1 l2 (3 : Int32) (65 : Int32))), .val (.int (pk p1 l2 (4 : Int32) (68 : Int32))), .val (.int (pk p1 l2 (5 : Int32) (77 : Int32))), .val (.int (pk p1 l2 (6 : Int32) (73 : Int32))), .val (.int (pk p1 l2 (7 : Int32) (78 : Int32))), .val (.int ((((p1.toUInt32 >>> ((10 : Int32) &&& 31).toUInt32).toInt32) &&& (255 : Int32)).toUInt32.toUInt16.toUInt32.toInt32)), .val (.int (((p1.toUInt32 >>> ((8 : Int32) &&& 31).toUInt32).toInt32) &&& (3 : Int32))), .val (.ref x), .unset, .unset] [(.int (0 : Int32))]))
            refine go (fun _ => XS.istore X29.here hx rfl (hb hby at_406) rfl (l' := #[.val (.int p0), .val (.int p1), .val (.long l2), .second, .val (.int ((p0 &&& (2147483647 : Int32)) % (3 : Int32))), .val (.ref kd), .val (.int (pk p1 l2 (0 : Int32) (86 : Int32))), .val (.int (pk p1 l2 (1 : Int32) (79 : Int32))), .val (.int (pk p1 l2 (2 : Int32) (95 : Int32))), .val (.int (pk p1 l2 (3 : Int32) (65 : Int32))), .val (.int (pk p1 l2 (4 : Int32) (68 : Int32))), .val (.int (pk p1 l2 (5 : Int32) (77 : Int32))), .val (.int (pk p1 l2 (6 : Int32) (73 : Int32))), .val (.int (pk p1 l2 (7 : Int32) (78 : Int32))), .val (.int ((((p1.toUInt32 >>> ((10 : Int32) &&& 31).toUInt32).toInt32) &&& (255 : Int32)).toUInt32.toUInt16.toUInt32.toInt32)), .val (.int (((p1.toUInt32 >>> ((8 : Int32) &&& 31).toUInt32).toInt32) &&& (3 : Int32))), .val (.ref x), .val (.int (0 : Int32)), .unset]) rfl) ?_
            show Run p e below _ (T29.setTop (mkF m 408 #[.val (.int p0), .val (.int p1), .val (.long l2), .second, .val (.int ((p0 &&& (2147483647 : Int32)) % (3 : Int32))), .val (.ref kd), .val (.int (pk p1 l2 (0 : Int32) (86 : Int32))), .val (.int (pk p1 l2 (1 : Int32) (79 : Int32))), .val (.int (pk p1 l2 (2 : Int32) (95 : Int32))), .val (.int (pk p1 l2 (3 : Int32) (65 : Int32))), .val (.int (pk p1 l2 (4 : Int32) (68 : Int32))), .val (.int (pk p1 l2 (5 : Int32) (77 : Int32))), .val (.int (pk p1 l2 (6 : Int32) (73 : Int32))), .val (.int (pk p1 l2 (7 : Int32) (78 : Int32))), .val (.int ((((p1.toUInt32 >>> ((10 : Int32) &&& 31).toUInt32).toInt32) &&& (255 : Int32)).toUInt32.toUInt16.toUInt32.toInt32)), .val (.int (((p1.toUInt32 >>> ((8 : Int32) &&& 31).toUInt32).toInt32) &&& (3 : Int32))), .val (.ref x), .val (.int (0 : Int32)), .unset] []))
            exact J408 _ _ X29 e29 N29 (0 : Int32)  (by rw [hs0 c40]; simp [c41, c42, Ne.symm c42])
        · skip
          refine go (fun _ => XS.icmpYes X29.here hx rfl (pc0 := 349) (pc' := 405) rfl (hb hby at_349) rfl (feq c41).2 (by decide) (by decide)) ?_
          show Run p e below _ (T29.setTop (mkF m 405 #[.val (.int p0), .val (.int p1), .val (.long l2), .second, .val (.int ((p0 &&& (2147483647 : Int32)) % (3 : Int32))), .val (.ref kd), .val (.int (pk p1 l2 (0 : Int32) (86 : Int32))), .val (.int (pk p1 l2 (1 : Int32) (79 : Int32))), .val (.int (pk p1 l2 (2 : Int32) (95 : Int32))), .val (.int (pk p1 l2 (3 : Int32) (65 : Int32))), .val (.int (pk p1 l2 (4 : Int32) (68 : Int32))), .val (.int (pk p1 l2 (5 : Int32) (77 : Int32))), .val (.int (pk p1 l2 (6 : Int32) (73 : Int32))), .val (.int (pk p1 l2 (7 : Int32) (78 : Int32))), .val (.int ((((p1.toUInt32 >>> ((10 : Int32) &&& 31).toUInt32).toInt32) &&& (255 : Int32)).toUInt32.toUInt16.toUInt32.toInt32)), .val (.int (((p1.toUInt32 >>> ((8 : Int32) &&& 31).toUInt32).toInt32) &&& (3 : Int32))), .val (.ref x), .unset, .unset] []))
          refine go (fun _ => XS.iconst X29.here hx rfl (hb hby at_405)) ?_
          show Run p e below _ (T29.setTop (mkF m 406 #[.val (.int p0), .val (.int p1), .val (.long l2), .second, .val (.int ((p0 &&& (2147483647 : Int32)) % (3 : Int32))), .val (.ref kd), .val (.int (pk p1 l2 (0 : Int32) (86 : Int32))), .val (.int (pk p1 l2 (1 : Int32) (79 : Int32))), .val (.int (pk p1 l2 (2 : Int32) (95 : Int32))), .val (.int (pk p1 l2 (3 : Int32) (65 : Int32))), .val (.int (pk p1 l2 (4 : Int32) (68 : Int32))), .val (.int (pk p1 l2 (5 : Int32) (77 : Int32))), .val (.int (pk p1 l2 (6 : Int32) (73 : Int32))), .val (.int (pk p1 l2 (7 : Int32) (78 : Int32))), .val (.int ((((p1.toUInt32 >>> ((10 : Int32) &&& 31).toUInt32).toInt32) &&& (255 : Int32)).toUInt32.toUInt16.toUInt32.toInt32)), .val (.int (((p1.toUInt32 >>> ((8 : Int32) &&& 31).toUInt32).toInt32) &&& (3 : Int32))), .val (.ref x), .unset, .unset] [(.int (0 : Int32))]))
          refine go (fun _ => XS.istore X29.here hx rfl (hb hby at_406) rfl (l' := #[.val (.int p0), .val (.int p1), .val (.long l2), .second, .val (.int ((p0 &&& (2147483647 : Int32)) % (3 : Int32))), .val (.ref kd), .val (.int (pk p1 l2 (0 : Int32) (86 : Int32))), .val (.int (pk p1 l2 (1 : Int32) (79 : Int32))), .val (.int (pk p1 l2 (2 : Int32) (95 : Int32))), .val (.int (pk p1 l2 (3 : Int32) (65 : Int32))), .val (.int (pk p1 l2 (4 : Int32) (68 : Int32))), .val (.int (pk p1 l2 (5 : Int32) (77 : Int32))), .val (.int (pk p1 l2 (6 : Int32) (73 : Int32))), .val (.int (pk p1 l2 (7 : Int32) (78 : Int32))), .val (.int ((((p1.toUInt32 >>> ((10 : Int32) &&& 31).toUInt32).toInt32) &&& (255 : Int32)).toUInt32.toUInt16.toUInt32.toInt32)), .val (.int (((p1.toUInt32 >>> ((8 : Int32) &&& 31).toUInt32).toInt32) &&& (3 : Int32))), .val (.ref x), .val (.int (0 : Int32)), .unset]) rfl) ?_
          show Run p e below _ (T29.setTop (mkF m 408 #[.val (.int p0), .val (.int p1), .val (.long l2), .second, .val (.int ((p0 &&& (2147483647 : Int32)) % (3 : Int32))), .val (.ref kd), .val (.int (pk p1 l2 (0 : Int32) (86 : Int32))), .val (.int (pk p1 l2 (1 : Int32) (79 : Int32))), .val (.int (pk p1 l2 (2 : Int32) (95 : Int32))), .val (.int (pk p1 l2 (3 : Int32) (65 : Int32))), .val (.int (pk p1 l2 (4 : Int32) (68 : Int32))), .val (.int (pk p1 l2 (5 : Int32) (77 : Int32))), .val (.int (pk p1 l2 (6 : Int32) (73 : Int32))), .val (.int (pk p1 l2 (7 : Int32) (78 : Int32))), .val (.int ((((p1.toUInt32 >>> ((10 : Int32) &&& 31).toUInt32).toInt32) &&& (255 : Int32)).toUInt32.toUInt16.toUInt32.toInt32)), .val (.int (((p1.toUInt32 >>> ((8 : Int32) &&& 31).toUInt32).toInt32) &&& (3 : Int32))), .val (.ref x), .val (.int (0 : Int32)), .unset] []))
          exact J408 _ _ X29 e29 N29 (0 : Int32)  (by rw [hs0 c40]; simp [c41, Ne.symm c41])
      · skip
        refine go (fun _ => XS.ifYes X29.here hx rfl (pc0 := 342) (pc' := 405) rfl (hb hby at_342) rfl ((if0 _ _).trans (feq c40).2) (by decide) (by decide)) ?_
        show Run p e below _ (T29.setTop (mkF m 405 #[.val (.int p0), .val (.int p1), .val (.long l2), .second, .val (.int ((p0 &&& (2147483647 : Int32)) % (3 : Int32))), .val (.ref kd), .val (.int (pk p1 l2 (0 : Int32) (86 : Int32))), .val (.int (pk p1 l2 (1 : Int32) (79 : Int32))), .val (.int (pk p1 l2 (2 : Int32) (95 : Int32))), .val (.int (pk p1 l2 (3 : Int32) (65 : Int32))), .val (.int (pk p1 l2 (4 : Int32) (68 : Int32))), .val (.int (pk p1 l2 (5 : Int32) (77 : Int32))), .val (.int (pk p1 l2 (6 : Int32) (73 : Int32))), .val (.int (pk p1 l2 (7 : Int32) (78 : Int32))), .val (.int ((((p1.toUInt32 >>> ((10 : Int32) &&& 31).toUInt32).toInt32) &&& (255 : Int32)).toUInt32.toUInt16.toUInt32.toInt32)), .val (.int (((p1.toUInt32 >>> ((8 : Int32) &&& 31).toUInt32).toInt32) &&& (3 : Int32))), .val (.ref x), .unset, .unset] []))
        refine go (fun _ => XS.iconst X29.here hx rfl (hb hby at_405)) ?_
        show Run p e below _ (T29.setTop (mkF m 406 #[.val (.int p0), .val (.int p1), .val (.long l2), .second, .val (.int ((p0 &&& (2147483647 : Int32)) % (3 : Int32))), .val (.ref kd), .val (.int (pk p1 l2 (0 : Int32) (86 : Int32))), .val (.int (pk p1 l2 (1 : Int32) (79 : Int32))), .val (.int (pk p1 l2 (2 : Int32) (95 : Int32))), .val (.int (pk p1 l2 (3 : Int32) (65 : Int32))), .val (.int (pk p1 l2 (4 : Int32) (68 : Int32))), .val (.int (pk p1 l2 (5 : Int32) (77 : Int32))), .val (.int (pk p1 l2 (6 : Int32) (73 : Int32))), .val (.int (pk p1 l2 (7 : Int32) (78 : Int32))), .val (.int ((((p1.toUInt32 >>> ((10 : Int32) &&& 31).toUInt32).toInt32) &&& (255 : Int32)).toUInt32.toUInt16.toUInt32.toInt32)), .val (.int (((p1.toUInt32 >>> ((8 : Int32) &&& 31).toUInt32).toInt32) &&& (3 : Int32))), .val (.ref x), .unset, .unset] [(.int (0 : Int32))]))
        refine go (fun _ => XS.istore X29.here hx rfl (hb hby at_406) rfl (l' := #[.val (.int p0), .val (.int p1), .val (.long l2), .second, .val (.int ((p0 &&& (2147483647 : Int32)) % (3 : Int32))), .val (.ref kd), .val (.int (pk p1 l2 (0 : Int32) (86 : Int32))), .val (.int (pk p1 l2 (1 : Int32) (79 : Int32))), .val (.int (pk p1 l2 (2 : Int32) (95 : Int32))), .val (.int (pk p1 l2 (3 : Int32) (65 : Int32))), .val (.int (pk p1 l2 (4 : Int32) (68 : Int32))), .val (.int (pk p1 l2 (5 : Int32) (77 : Int32))), .val (.int (pk p1 l2 (6 : Int32) (73 : Int32))), .val (.int (pk p1 l2 (7 : Int32) (78 : Int32))), .val (.int ((((p1.toUInt32 >>> ((10 : Int32) &&& 31).toUInt32).toInt32) &&& (255 : Int32)).toUInt32.toUInt16.toUInt32.toInt32)), .val (.int (((p1.toUInt32 >>> ((8 : Int32) &&& 31).toUInt32).toInt32) &&& (3 : Int32))), .val (.ref x), .val (.int (0 : Int32)), .unset]) rfl) ?_
        show Run p e below _ (T29.setTop (mkF m 408 #[.val (.int p0), .val (.int p1), .val (.long l2), .second, .val (.int ((p0 &&& (2147483647 : Int32)) % (3 : Int32))), .val (.ref kd), .val (.int (pk p1 l2 (0 : Int32) (86 : Int32))), .val (.int (pk p1 l2 (1 : Int32) (79 : Int32))), .val (.int (pk p1 l2 (2 : Int32) (95 : Int32))), .val (.int (pk p1 l2 (3 : Int32) (65 : Int32))), .val (.int (pk p1 l2 (4 : Int32) (68 : Int32))), .val (.int (pk p1 l2 (5 : Int32) (77 : Int32))), .val (.int (pk p1 l2 (6 : Int32) (73 : Int32))), .val (.int (pk p1 l2 (7 : Int32) (78 : Int32))), .val (.int ((((p1.toUInt32 >>> ((10 : Int32) &&& 31).toUInt32).toInt32) &&& (255 : Int32)).toUInt32.toUInt16.toUInt32.toInt32)), .val (.int (((p1.toUInt32 >>> ((8 : Int32) &&& 31).toUInt32).toInt32) &&& (3 : Int32))), .val (.ref x), .val (.int (0 : Int32)), .unset] []))
        exact J408 _ _ X29 e29 N29 (0 : Int32)  (by rw [if_neg (hs1 c40)])
    refine go (fun _ => XS.iload X28.here hx rfl (hb hby at_137) rfl) ?_
    show Run p e below _ (T28.setTop (mkF m 139 #[.val (.int p0), .val (.int p1), .val (.long l2), .second, .val (.int ((p0 &&& (2147483647 : Int32)) % (3 : Int32))), .val (.ref kd), .val (.int (pk p1 l2 (0 : Int32) (86 : Int32))), .val (.int (pk p1 l2 (1 : Int32) (79 : Int32))), .val (.int (pk p1 l2 (2 : Int32) (95 : Int32))), .val (.int (pk p1 l2 (3 : Int32) (65 : Int32))), .val (.int (pk p1 l2 (4 : Int32) (68 : Int32))), .val (.int (pk p1 l2 (5 : Int32) (77 : Int32))), .val (.int (pk p1 l2 (6 : Int32) (73 : Int32))), .val (.int (pk p1 l2 (7 : Int32) (78 : Int32))), .val (.int ((((p1.toUInt32 >>> ((10 : Int32) &&& 31).toUInt32).toInt32) &&& (255 : Int32)).toUInt32.toUInt16.toUInt32.toInt32)), .val (.int (((p1.toUInt32 >>> ((8 : Int32) &&& 31).toUInt32).toInt32) &&& (3 : Int32))), .unset, .unset, .unset] [(.int (((p1.toUInt32 >>> ((8 : Int32) &&& 31).toUInt32).toInt32) &&& (3 : Int32)))]))
    by_cases c49 : (((p1.toUInt32 >>> ((8 : Int32) &&& 31).toUInt32).toInt32) &&& (3 : Int32)) = 0
    · skip
      refine go (fun _ => XS.ifNo X28.here hx rfl (hb hby at_139) rfl ((if0 _ _).trans (teq c49).2)) ?_
      show Run p e below _ (T28.setTop (mkF m 142 #[.val (.int p0), .val (.int p1), .val (.long l2), .second, .val (.int ((p0 &&& (2147483647 : Int32)) % (3 : Int32))), .val (.ref kd), .val (.int (pk p1 l2 (0 : Int32) (86 : Int32))), .val (.int (pk p1 l2 (1 : Int32) (79 : Int32))), .val (.int (pk p1 l2 (2 : Int32) (95 : Int32))), .val (.int (pk p1 l2 (3 : Int32) (65 : Int32))), .val (.int (pk p1 l2 (4 : Int32) (68 : Int32))), .val (.int (pk p1 l2 (5 : Int32) (77 : Int32))), .val (.int (pk p1 l2 (6 : Int32) (73 : Int32))), .val (.int (pk p1 l2 (7 : Int32) (78 : Int32))), .val (.int ((((p1.toUInt32 >>> ((10 : Int32) &&& 31).toUInt32).toInt32) &&& (255 : Int32)).toUInt32.toUInt16.toUInt32.toInt32)), .val (.int (((p1.toUInt32 >>> ((8 : Int32) &&& 31).toUInt32).toInt32) &&& (3 : Int32))), .unset, .unset, .unset] []))
      obtain ⟨T50, h50, X50, e50, E50, A50, D50, -, st50⟩ := newO X28 hx hZ hown (wd hw 9 rfl) (wd hw 10 rfl) (wd hw 11 rfl) e28 (g := (mkF m 142 #[.val (.int p0), .val (.int p1), .val (.long l2), .second, .val (.int ((p0 &&& (2147483647 : Int32)) % (3 : Int32))), .val (.ref kd), .val (.int (pk p1 l2 (0 : Int32) (86 : Int32))), .val (.int (pk p1 l2 (1 : Int32) (79 : Int32))), .val (.int (pk p1 l2 (2 : Int32) (95 : Int32))), .val (.int (pk p1 l2 (3 : Int32) (65 : Int32))), .val (.int (pk p1 l2 (4 : Int32) (68 : Int32))), .val (.int (pk p1 l2 (5 : Int32) (77 : Int32))), .val (.int (pk p1 l2 (6 : Int32) (73 : Int32))), .val (.int (pk p1 l2 (7 : Int32) (78 : Int32))), .val (.int ((((p1.toUInt32 >>> ((10 : Int32) &&& 31).toUInt32).toInt32) &&& (255 : Int32)).toUInt32.toUInt16.toUInt32.toInt32)), .val (.int (((p1.toUInt32 >>> ((8 : Int32) &&& 31).toUInt32).toInt32) &&& (3 : Int32))), .unset, .unset, .unset] [])) rfl (hb hby at_142) (by decide) (by decide)
      obtain ⟨b50, y50⟩ : ∃ z, z = h0.size := ⟨_, rfl⟩
      rw [← y50] at A50 D50 st50
      have g_b50 : n0 ≤ b50 := y50.symm ▸ old_sz O0
      have SF_b50 : Safe Z consts_1 s.vm h0 b50 := Safe.new (Nat.le_of_eq y50.symm)
      have CHo := CH
      have SF_b50o := SF_b50
      have hk := Nat.le_trans hk E50.1
      have O0 := O0.ext E50
      have SF_b50 := Safe.ext E50 CHo.1 SF_b50o
      have CH := CHo.trans (CHr.ext E50 CHo.1)
      have E_b50 := A50
      have F_coder_b50 : Fld Z h50 b50 "java/lang/String" "coder" "B" (.int (0 : Int32)) := D50 (Or.inr (wd hw 36 rfl)) (ty := .byte) (by decide)
      have F_value_b50 : Fld Z h50 b50 "java/lang/String" "value" "[B" .null := D50 (Or.inr (wd hw 38 rfl)) (ty := (.array .byte)) (by decide)
      refine go st50 ?_
      show Run p e below _ (T50.setTop (mkF m 145 #[.val (.int p0), .val (.int p1), .val (.long l2), .second, .val (.int ((p0 &&& (2147483647 : Int32)) % (3 : Int32))), .val (.ref kd), .val (.int (pk p1 l2 (0 : Int32) (86 : Int32))), .val (.int (pk p1 l2 (1 : Int32) (79 : Int32))), .val (.int (pk p1 l2 (2 : Int32) (95 : Int32))), .val (.int (pk p1 l2 (3 : Int32) (65 : Int32))), .val (.int (pk p1 l2 (4 : Int32) (68 : Int32))), .val (.int (pk p1 l2 (5 : Int32) (77 : Int32))), .val (.int (pk p1 l2 (6 : Int32) (73 : Int32))), .val (.int (pk p1 l2 (7 : Int32) (78 : Int32))), .val (.int ((((p1.toUInt32 >>> ((10 : Int32) &&& 31).toUInt32).toInt32) &&& (255 : Int32)).toUInt32.toUInt16.toUInt32.toInt32)), .val (.int (((p1.toUInt32 >>> ((8 : Int32) &&& 31).toUInt32).toInt32) &&& (3 : Int32))), .unset, .unset, .unset] [(.ref b50)]))
      refine go (fun _ => XS.dup X50.here hx rfl (hb hby at_145) rfl rfl) ?_
      show Run p e below _ (T50.setTop (mkF m 146 #[.val (.int p0), .val (.int p1), .val (.long l2), .second, .val (.int ((p0 &&& (2147483647 : Int32)) % (3 : Int32))), .val (.ref kd), .val (.int (pk p1 l2 (0 : Int32) (86 : Int32))), .val (.int (pk p1 l2 (1 : Int32) (79 : Int32))), .val (.int (pk p1 l2 (2 : Int32) (95 : Int32))), .val (.int (pk p1 l2 (3 : Int32) (65 : Int32))), .val (.int (pk p1 l2 (4 : Int32) (68 : Int32))), .val (.int (pk p1 l2 (5 : Int32) (77 : Int32))), .val (.int (pk p1 l2 (6 : Int32) (73 : Int32))), .val (.int (pk p1 l2 (7 : Int32) (78 : Int32))), .val (.int ((((p1.toUInt32 >>> ((10 : Int32) &&& 31).toUInt32).toInt32) &&& (255 : Int32)).toUInt32.toUInt16.toUInt32.toInt32)), .val (.int (((p1.toUInt32 >>> ((8 : Int32) &&& 31).toUInt32).toInt32) &&& (3 : Int32))), .unset, .unset, .unset] [(.ref b50), (.ref b50)]))
      refine go (fun _ => XS.bipush X50.here hx rfl (hb hby at_146)) ?_
      show Run p e below _ (T50.setTop (mkF m 148 #[.val (.int p0), .val (.int p1), .val (.long l2), .second, .val (.int ((p0 &&& (2147483647 : Int32)) % (3 : Int32))), .val (.ref kd), .val (.int (pk p1 l2 (0 : Int32) (86 : Int32))), .val (.int (pk p1 l2 (1 : Int32) (79 : Int32))), .val (.int (pk p1 l2 (2 : Int32) (95 : Int32))), .val (.int (pk p1 l2 (3 : Int32) (65 : Int32))), .val (.int (pk p1 l2 (4 : Int32) (68 : Int32))), .val (.int (pk p1 l2 (5 : Int32) (77 : Int32))), .val (.int (pk p1 l2 (6 : Int32) (73 : Int32))), .val (.int (pk p1 l2 (7 : Int32) (78 : Int32))), .val (.int ((((p1.toUInt32 >>> ((10 : Int32) &&& 31).toUInt32).toInt32) &&& (255 : Int32)).toUInt32.toUInt16.toUInt32.toInt32)), .val (.int (((p1.toUInt32 >>> ((8 : Int32) &&& 31).toUInt32).toInt32) &&& (3 : Int32))), .unset, .unset, .unset] [(.int (8 : Int32)), (.ref b50), (.ref b50)]))
      obtain ⟨T51, h51, k51, X51, e51, E51, A51, st51⟩ := newP X50 hx hZ (wd hw 12 rfl) e50 (g := (mkF m 148 #[.val (.int p0), .val (.int p1), .val (.long l2), .second, .val (.int ((p0 &&& (2147483647 : Int32)) % (3 : Int32))), .val (.ref kd), .val (.int (pk p1 l2 (0 : Int32) (86 : Int32))), .val (.int (pk p1 l2 (1 : Int32) (79 : Int32))), .val (.int (pk p1 l2 (2 : Int32) (95 : Int32))), .val (.int (pk p1 l2 (3 : Int32) (65 : Int32))), .val (.int (pk p1 l2 (4 : Int32) (68 : Int32))), .val (.int (pk p1 l2 (5 : Int32) (77 : Int32))), .val (.int (pk p1 l2 (6 : Int32) (73 : Int32))), .val (.int (pk p1 l2 (7 : Int32) (78 : Int32))), .val (.int ((((p1.toUInt32 >>> ((10 : Int32) &&& 31).toUInt32).toInt32) &&& (255 : Int32)).toUInt32.toUInt16.toUInt32.toInt32)), .val (.int (((p1.toUInt32 >>> ((8 : Int32) &&& 31).toUInt32).toInt32) &&& (3 : Int32))), .unset, .unset, .unset] [(.int (8 : Int32)), (.ref b50), (.ref b50)])) rfl (hb hby at_148) rfl (by decide) (cap := 8) (by decide) (by decide) (by decide) (by decide)
      obtain ⟨b51, y51⟩ : ∃ z, z = h50.size := ⟨_, rfl⟩
      rw [← y51] at A51 st51
      have g_b51 : n0 ≤ b51 := y51.symm ▸ old_sz O0
      have SF_b51 : Safe Z consts_1 s.vm h50 b51 := Safe.new (Nat.le_of_eq y51.symm)
      have ne_b50_b51 : b50 ≠ b51 := Nat.ne_of_lt (y51.symm ▸ E_b50.lt)
      have CHo := CH
      have SF_b50o := SF_b50
      have SF_b51o := SF_b51
      have hk := Nat.le_trans hk E51.1
      have O0 := O0.ext E51
      have SF_b50 := Safe.ext E51 CHo.1 SF_b50o
      have E_b50 := E_b50.ext E51
      have F_coder_b50 := F_coder_b50.ext E51
      have F_value_b50 := F_value_b50.ext E51
      have SF_b51 := Safe.ext E51 CHo.1 SF_b51o
      have CH := CHo.trans (CHr.ext E51 CHo.1)
      have V_b51 : Arv Z h51 b51 k51 .char (8 : Int32) [(.int (0 : Int32)), (.int (0 : Int32)), (.int (0 : Int32)), (.int (0 : Int32)), (.int (0 : Int32)), (.int (0 : Int32)), (.int (0 : Int32)), (.int (0 : Int32))] (.int (0 : Int32)) := (Arv.new A51 (by decide)).pad (pad_rep [] (.int (0 : Int32)) 8)
      refine go st51 ?_
      show Run p e below _ (T51.setTop (mkF m 150 #[.val (.int p0), .val (.int p1), .val (.long l2), .second, .val (.int ((p0 &&& (2147483647 : Int32)) % (3 : Int32))), .val (.ref kd), .val (.int (pk p1 l2 (0 : Int32) (86 : Int32))), .val (.int (pk p1 l2 (1 : Int32) (79 : Int32))), .val (.int (pk p1 l2 (2 : Int32) (95 : Int32))), .val (.int (pk p1 l2 (3 : Int32) (65 : Int32))), .val (.int (pk p1 l2 (4 : Int32) (68 : Int32))), .val (.int (pk p1 l2 (5 : Int32) (77 : Int32))), .val (.int (pk p1 l2 (6 : Int32) (73 : Int32))), .val (.int (pk p1 l2 (7 : Int32) (78 : Int32))), .val (.int ((((p1.toUInt32 >>> ((10 : Int32) &&& 31).toUInt32).toInt32) &&& (255 : Int32)).toUInt32.toUInt16.toUInt32.toInt32)), .val (.int (((p1.toUInt32 >>> ((8 : Int32) &&& 31).toUInt32).toInt32) &&& (3 : Int32))), .unset, .unset, .unset] [(.ref b51), (.ref b50), (.ref b50)]))
      refine go (fun _ => XS.dup X51.here hx rfl (hb hby at_150) rfl rfl) ?_
      show Run p e below _ (T51.setTop (mkF m 151 #[.val (.int p0), .val (.int p1), .val (.long l2), .second, .val (.int ((p0 &&& (2147483647 : Int32)) % (3 : Int32))), .val (.ref kd), .val (.int (pk p1 l2 (0 : Int32) (86 : Int32))), .val (.int (pk p1 l2 (1 : Int32) (79 : Int32))), .val (.int (pk p1 l2 (2 : Int32) (95 : Int32))), .val (.int (pk p1 l2 (3 : Int32) (65 : Int32))), .val (.int (pk p1 l2 (4 : Int32) (68 : Int32))), .val (.int (pk p1 l2 (5 : Int32) (77 : Int32))), .val (.int (pk p1 l2 (6 : Int32) (73 : Int32))), .val (.int (pk p1 l2 (7 : Int32) (78 : Int32))), .val (.int ((((p1.toUInt32 >>> ((10 : Int32) &&& 31).toUInt32).toInt32) &&& (255 : Int32)).toUInt32.toUInt16.toUInt32.toInt32)), .val (.int (((p1.toUInt32 >>> ((8 : Int32) &&& 31).toUInt32).toInt32) &&& (3 : Int32))), .unset, .unset, .unset] [(.ref b51), (.ref b51), (.ref b50), (.ref b50)]))
      refine go (fun _ => XS.iconst X51.here hx rfl (hb hby at_151)) ?_
      show Run p e below _ (T51.setTop (mkF m 152 #[.val (.int p0), .val (.int p1), .val (.long l2), .second, .val (.int ((p0 &&& (2147483647 : Int32)) % (3 : Int32))), .val (.ref kd), .val (.int (pk p1 l2 (0 : Int32) (86 : Int32))), .val (.int (pk p1 l2 (1 : Int32) (79 : Int32))), .val (.int (pk p1 l2 (2 : Int32) (95 : Int32))), .val (.int (pk p1 l2 (3 : Int32) (65 : Int32))), .val (.int (pk p1 l2 (4 : Int32) (68 : Int32))), .val (.int (pk p1 l2 (5 : Int32) (77 : Int32))), .val (.int (pk p1 l2 (6 : Int32) (73 : Int32))), .val (.int (pk p1 l2 (7 : Int32) (78 : Int32))), .val (.int ((((p1.toUInt32 >>> ((10 : Int32) &&& 31).toUInt32).toInt32) &&& (255 : Int32)).toUInt32.toUInt16.toUInt32.toInt32)), .val (.int (((p1.toUInt32 >>> ((8 : Int32) &&& 31).toUInt32).toInt32) &&& (3 : Int32))), .unset, .unset, .unset] [(.int (0 : Int32)), (.ref b51), (.ref b51), (.ref b50), (.ref b50)]))
      refine go (fun _ => XS.iload X51.here hx rfl (hb hby at_152) rfl) ?_
      show Run p e below _ (T51.setTop (mkF m 154 #[.val (.int p0), .val (.int p1), .val (.long l2), .second, .val (.int ((p0 &&& (2147483647 : Int32)) % (3 : Int32))), .val (.ref kd), .val (.int (pk p1 l2 (0 : Int32) (86 : Int32))), .val (.int (pk p1 l2 (1 : Int32) (79 : Int32))), .val (.int (pk p1 l2 (2 : Int32) (95 : Int32))), .val (.int (pk p1 l2 (3 : Int32) (65 : Int32))), .val (.int (pk p1 l2 (4 : Int32) (68 : Int32))), .val (.int (pk p1 l2 (5 : Int32) (77 : Int32))), .val (.int (pk p1 l2 (6 : Int32) (73 : Int32))), .val (.int (pk p1 l2 (7 : Int32) (78 : Int32))), .val (.int ((((p1.toUInt32 >>> ((10 : Int32) &&& 31).toUInt32).toInt32) &&& (255 : Int32)).toUInt32.toUInt16.toUInt32.toInt32)), .val (.int (((p1.toUInt32 >>> ((8 : Int32) &&& 31).toUInt32).toInt32) &&& (3 : Int32))), .unset, .unset, .unset] [(.int (pk p1 l2 (0 : Int32) (86 : Int32))), (.int (0 : Int32)), (.ref b51), (.ref b51), (.ref b50), (.ref b50)]))
      obtain ⟨cl52, Ar52, ak52, as52, an52, ah52, ag52⟩ := id V_b51
      have hin52 := inb_of as52 (j := (0 : Int32)) ⟨by decide, by decide⟩
      obtain ⟨T52, h52, X52, e52, W52, st52⟩ := stC X51 hx hZ e51 Ar52 (j := (0 : Int32)) hin52 (g := (mkF m 154 #[.val (.int p0), .val (.int p1), .val (.long l2), .second, .val (.int ((p0 &&& (2147483647 : Int32)) % (3 : Int32))), .val (.ref kd), .val (.int (pk p1 l2 (0 : Int32) (86 : Int32))), .val (.int (pk p1 l2 (1 : Int32) (79 : Int32))), .val (.int (pk p1 l2 (2 : Int32) (95 : Int32))), .val (.int (pk p1 l2 (3 : Int32) (65 : Int32))), .val (.int (pk p1 l2 (4 : Int32) (68 : Int32))), .val (.int (pk p1 l2 (5 : Int32) (77 : Int32))), .val (.int (pk p1 l2 (6 : Int32) (73 : Int32))), .val (.int (pk p1 l2 (7 : Int32) (78 : Int32))), .val (.int ((((p1.toUInt32 >>> ((10 : Int32) &&& 31).toUInt32).toInt32) &&& (255 : Int32)).toUInt32.toUInt16.toUInt32.toInt32)), .val (.int (((p1.toUInt32 >>> ((8 : Int32) &&& 31).toUInt32).toInt32) &&& (3 : Int32))), .unset, .unset, .unset] [(.int (pk p1 l2 (0 : Int32) (86 : Int32))), (.int (0 : Int32)), (.ref b51), (.ref b51), (.ref b50), (.ref b50)])) rfl rfl (hb hby at_154)
      have W52' : Wr _ _ _ _ (.int (pk p1 l2 (0 : Int32) (86 : Int32))) := (pk_nc p1 l2 (0 : Int32) (86 : Int32) (by decide)) ▸ W52
      have CHo := CH
      have SF_b50o := SF_b50
      have SF_b51o := SF_b51
      have hk := Nat.le_trans hk (wr_sz W52')
      have SF_b50 := Safe.wr W52' SF_b51o CHo.1 SF_b50o
      have SF_b51 := Safe.wr W52' SF_b51o CHo.1 SF_b51o
      have CH := CHo.trans (CHr.wr W52' SF_b51o CHo.1)
      have O0 := O0.wr W52' g_b51
      have E_b50 := E_b50.wr W52'
      have F_coder_b50 := F_coder_b50.other W52' (Or.inl ne_b50_b51)
      have F_value_b50 := F_value_b50.other W52' (Or.inl ne_b50_b51)
      have V_b51 := (Arv.set Ar52 ak52 as52 an52 ah52 ag52 ((pk_nc p1 l2 (0 : Int32) (86 : Int32) (by decide)) ▸ (fits_nar_char _)) W52' 0 rfl (Nat.le_of_ble_eq_true rfl) : Arv Z h52 b51 k51 .char (8 : Int32) [(.int (pk p1 l2 (0 : Int32) (86 : Int32))), (.int (0 : Int32)), (.int (0 : Int32)), (.int (0 : Int32)), (.int (0 : Int32)), (.int (0 : Int32)), (.int (0 : Int32)), (.int (0 : Int32))] (.int (0 : Int32)))
      have N52 := Fr.snoc X52 N28 g_b51
      refine go st52 ?_
      show Run p e below _ (T52.setTop (mkF m 155 #[.val (.int p0), .val (.int p1), .val (.long l2), .second, .val (.int ((p0 &&& (2147483647 : Int32)) % (3 : Int32))), .val (.ref kd), .val (.int (pk p1 l2 (0 : Int32) (86 : Int32))), .val (.int (pk p1 l2 (1 : Int32) (79 : Int32))), .val (.int (pk p1 l2 (2 : Int32) (95 : Int32))), .val (.int (pk p1 l2 (3 : Int32) (65 : Int32))), .val (.int (pk p1 l2 (4 : Int32) (68 : Int32))), .val (.int (pk p1 l2 (5 : Int32) (77 : Int32))), .val (.int (pk p1 l2 (6 : Int32) (73 : Int32))), .val (.int (pk p1 l2 (7 : Int32) (78 : Int32))), .val (.int ((((p1.toUInt32 >>> ((10 : Int32) &&& 31).toUInt32).toInt32) &&& (255 : Int32)).toUInt32.toUInt16.toUInt32.toInt32)), .val (.int (((p1.toUInt32 >>> ((8 : Int32) &&& 31).toUInt32).toInt32) &&& (3 : Int32))), .unset, .unset, .unset] [(.ref b51), (.ref b50), (.ref b50)]))
      refine go (fun _ => XS.dup X52.here hx rfl (hb hby at_155) rfl rfl) ?_
      show Run p e below _ (T52.setTop (mkF m 156 #[.val (.int p0), .val (.int p1), .val (.long l2), .second, .val (.int ((p0 &&& (2147483647 : Int32)) % (3 : Int32))), .val (.ref kd), .val (.int (pk p1 l2 (0 : Int32) (86 : Int32))), .val (.int (pk p1 l2 (1 : Int32) (79 : Int32))), .val (.int (pk p1 l2 (2 : Int32) (95 : Int32))), .val (.int (pk p1 l2 (3 : Int32) (65 : Int32))), .val (.int (pk p1 l2 (4 : Int32) (68 : Int32))), .val (.int (pk p1 l2 (5 : Int32) (77 : Int32))), .val (.int (pk p1 l2 (6 : Int32) (73 : Int32))), .val (.int (pk p1 l2 (7 : Int32) (78 : Int32))), .val (.int ((((p1.toUInt32 >>> ((10 : Int32) &&& 31).toUInt32).toInt32) &&& (255 : Int32)).toUInt32.toUInt16.toUInt32.toInt32)), .val (.int (((p1.toUInt32 >>> ((8 : Int32) &&& 31).toUInt32).toInt32) &&& (3 : Int32))), .unset, .unset, .unset] [(.ref b51), (.ref b51), (.ref b50), (.ref b50)]))
      refine go (fun _ => XS.iconst X52.here hx rfl (hb hby at_156)) ?_
      show Run p e below _ (T52.setTop (mkF m 157 #[.val (.int p0), .val (.int p1), .val (.long l2), .second, .val (.int ((p0 &&& (2147483647 : Int32)) % (3 : Int32))), .val (.ref kd), .val (.int (pk p1 l2 (0 : Int32) (86 : Int32))), .val (.int (pk p1 l2 (1 : Int32) (79 : Int32))), .val (.int (pk p1 l2 (2 : Int32) (95 : Int32))), .val (.int (pk p1 l2 (3 : Int32) (65 : Int32))), .val (.int (pk p1 l2 (4 : Int32) (68 : Int32))), .val (.int (pk p1 l2 (5 : Int32) (77 : Int32))), .val (.int (pk p1 l2 (6 : Int32) (73 : Int32))), .val (.int (pk p1 l2 (7 : Int32) (78 : Int32))), .val (.int ((((p1.toUInt32 >>> ((10 : Int32) &&& 31).toUInt32).toInt32) &&& (255 : Int32)).toUInt32.toUInt16.toUInt32.toInt32)), .val (.int (((p1.toUInt32 >>> ((8 : Int32) &&& 31).toUInt32).toInt32) &&& (3 : Int32))), .unset, .unset, .unset] [(.int (1 : Int32)), (.ref b51), (.ref b51), (.ref b50), (.ref b50)]))
      refine go (fun _ => XS.iload X52.here hx rfl (hb hby at_157) rfl) ?_
      show Run p e below _ (T52.setTop (mkF m 159 #[.val (.int p0), .val (.int p1), .val (.long l2), .second, .val (.int ((p0 &&& (2147483647 : Int32)) % (3 : Int32))), .val (.ref kd), .val (.int (pk p1 l2 (0 : Int32) (86 : Int32))), .val (.int (pk p1 l2 (1 : Int32) (79 : Int32))), .val (.int (pk p1 l2 (2 : Int32) (95 : Int32))), .val (.int (pk p1 l2 (3 : Int32) (65 : Int32))), .val (.int (pk p1 l2 (4 : Int32) (68 : Int32))), .val (.int (pk p1 l2 (5 : Int32) (77 : Int32))), .val (.int (pk p1 l2 (6 : Int32) (73 : Int32))), .val (.int (pk p1 l2 (7 : Int32) (78 : Int32))), .val (.int ((((p1.toUInt32 >>> ((10 : Int32) &&& 31).toUInt32).toInt32) &&& (255 : Int32)).toUInt32.toUInt16.toUInt32.toInt32)), .val (.int (((p1.toUInt32 >>> ((8 : Int32) &&& 31).toUInt32).toInt32) &&& (3 : Int32))), .unset, .unset, .unset] [(.int (pk p1 l2 (1 : Int32) (79 : Int32))), (.int (1 : Int32)), (.ref b51), (.ref b51), (.ref b50), (.ref b50)]))
      obtain ⟨cl53, Ar53, ak53, as53, an53, ah53, ag53⟩ := id V_b51
      have hin53 := inb_of as53 (j := (1 : Int32)) ⟨by decide, by decide⟩
      obtain ⟨T53, h53, X53, e53, W53, st53⟩ := stC X52 hx hZ e52 Ar53 (j := (1 : Int32)) hin53 (g := (mkF m 159 #[.val (.int p0), .val (.int p1), .val (.long l2), .second, .val (.int ((p0 &&& (2147483647 : Int32)) % (3 : Int32))), .val (.ref kd), .val (.int (pk p1 l2 (0 : Int32) (86 : Int32))), .val (.int (pk p1 l2 (1 : Int32) (79 : Int32))), .val (.int (pk p1 l2 (2 : Int32) (95 : Int32))), .val (.int (pk p1 l2 (3 : Int32) (65 : Int32))), .val (.int (pk p1 l2 (4 : Int32) (68 : Int32))), .val (.int (pk p1 l2 (5 : Int32) (77 : Int32))), .val (.int (pk p1 l2 (6 : Int32) (73 : Int32))), .val (.int (pk p1 l2 (7 : Int32) (78 : Int32))), .val (.int ((((p1.toUInt32 >>> ((10 : Int32) &&& 31).toUInt32).toInt32) &&& (255 : Int32)).toUInt32.toUInt16.toUInt32.toInt32)), .val (.int (((p1.toUInt32 >>> ((8 : Int32) &&& 31).toUInt32).toInt32) &&& (3 : Int32))), .unset, .unset, .unset] [(.int (pk p1 l2 (1 : Int32) (79 : Int32))), (.int (1 : Int32)), (.ref b51), (.ref b51), (.ref b50), (.ref b50)])) rfl rfl (hb hby at_159)
      have W53' : Wr _ _ _ _ (.int (pk p1 l2 (1 : Int32) (79 : Int32))) := (pk_nc p1 l2 (1 : Int32) (79 : Int32) (by decide)) ▸ W53
      have CHo := CH
      have SF_b50o := SF_b50
      have SF_b51o := SF_b51
      have hk := Nat.le_trans hk (wr_sz W53')
      have SF_b50 := Safe.wr W53' SF_b51o CHo.1 SF_b50o
      have SF_b51 := Safe.wr W53' SF_b51o CHo.1 SF_b51o
      have CH := CHo.trans (CHr.wr W53' SF_b51o CHo.1)
      have O0 := O0.wr W53' g_b51
      have E_b50 := E_b50.wr W53'
      have F_coder_b50 := F_coder_b50.other W53' (Or.inl ne_b50_b51)
      have F_value_b50 := F_value_b50.other W53' (Or.inl ne_b50_b51)
      have V_b51 := (Arv.set Ar53 ak53 as53 an53 ah53 ag53 ((pk_nc p1 l2 (1 : Int32) (79 : Int32) (by decide)) ▸ (fits_nar_char _)) W53' 1 rfl (Nat.le_of_ble_eq_true rfl) : Arv Z h53 b51 k51 .char (8 : Int32) [(.int (pk p1 l2 (0 : Int32) (86 : Int32))), (.int (pk p1 l2 (1 : Int32) (79 : Int32))), (.int (0 : Int32)), (.int (0 : Int32)), (.int (0 : Int32)), (.int (0 : Int32)), (.int (0 : Int32)), (.int (0 : Int32))] (.int (0 : Int32)))
      have N53 := Fr.snoc X53 N52 g_b51
      refine go st53 ?_
      show Run p e below _ (T53.setTop (mkF m 160 #[.val (.int p0), .val (.int p1), .val (.long l2), .second, .val (.int ((p0 &&& (2147483647 : Int32)) % (3 : Int32))), .val (.ref kd), .val (.int (pk p1 l2 (0 : Int32) (86 : Int32))), .val (.int (pk p1 l2 (1 : Int32) (79 : Int32))), .val (.int (pk p1 l2 (2 : Int32) (95 : Int32))), .val (.int (pk p1 l2 (3 : Int32) (65 : Int32))), .val (.int (pk p1 l2 (4 : Int32) (68 : Int32))), .val (.int (pk p1 l2 (5 : Int32) (77 : Int32))), .val (.int (pk p1 l2 (6 : Int32) (73 : Int32))), .val (.int (pk p1 l2 (7 : Int32) (78 : Int32))), .val (.int ((((p1.toUInt32 >>> ((10 : Int32) &&& 31).toUInt32).toInt32) &&& (255 : Int32)).toUInt32.toUInt16.toUInt32.toInt32)), .val (.int (((p1.toUInt32 >>> ((8 : Int32) &&& 31).toUInt32).toInt32) &&& (3 : Int32))), .unset, .unset, .unset] [(.ref b51), (.ref b50), (.ref b50)]))
      refine go (fun _ => XS.dup X53.here hx rfl (hb hby at_160) rfl rfl) ?_
      show Run p e below _ (T53.setTop (mkF m 161 #[.val (.int p0), .val (.int p1), .val (.long l2), .second, .val (.int ((p0 &&& (2147483647 : Int32)) % (3 : Int32))), .val (.ref kd), .val (.int (pk p1 l2 (0 : Int32) (86 : Int32))), .val (.int (pk p1 l2 (1 : Int32) (79 : Int32))), .val (.int (pk p1 l2 (2 : Int32) (95 : Int32))), .val (.int (pk p1 l2 (3 : Int32) (65 : Int32))), .val (.int (pk p1 l2 (4 : Int32) (68 : Int32))), .val (.int (pk p1 l2 (5 : Int32) (77 : Int32))), .val (.int (pk p1 l2 (6 : Int32) (73 : Int32))), .val (.int (pk p1 l2 (7 : Int32) (78 : Int32))), .val (.int ((((p1.toUInt32 >>> ((10 : Int32) &&& 31).toUInt32).toInt32) &&& (255 : Int32)).toUInt32.toUInt16.toUInt32.toInt32)), .val (.int (((p1.toUInt32 >>> ((8 : Int32) &&& 31).toUInt32).toInt32) &&& (3 : Int32))), .unset, .unset, .unset] [(.ref b51), (.ref b51), (.ref b50), (.ref b50)]))
      refine go (fun _ => XS.iconst X53.here hx rfl (hb hby at_161)) ?_
      show Run p e below _ (T53.setTop (mkF m 162 #[.val (.int p0), .val (.int p1), .val (.long l2), .second, .val (.int ((p0 &&& (2147483647 : Int32)) % (3 : Int32))), .val (.ref kd), .val (.int (pk p1 l2 (0 : Int32) (86 : Int32))), .val (.int (pk p1 l2 (1 : Int32) (79 : Int32))), .val (.int (pk p1 l2 (2 : Int32) (95 : Int32))), .val (.int (pk p1 l2 (3 : Int32) (65 : Int32))), .val (.int (pk p1 l2 (4 : Int32) (68 : Int32))), .val (.int (pk p1 l2 (5 : Int32) (77 : Int32))), .val (.int (pk p1 l2 (6 : Int32) (73 : Int32))), .val (.int (pk p1 l2 (7 : Int32) (78 : Int32))), .val (.int ((((p1.toUInt32 >>> ((10 : Int32) &&& 31).toUInt32).toInt32) &&& (255 : Int32)).toUInt32.toUInt16.toUInt32.toInt32)), .val (.int (((p1.toUInt32 >>> ((8 : Int32) &&& 31).toUInt32).toInt32) &&& (3 : Int32))), .unset, .unset, .unset] [(.int (2 : Int32)), (.ref b51), (.ref b51), (.ref b50), (.ref b50)]))
      refine go (fun _ => XS.iload X53.here hx rfl (hb hby at_162) rfl) ?_
      show Run p e below _ (T53.setTop (mkF m 164 #[.val (.int p0), .val (.int p1), .val (.long l2), .second, .val (.int ((p0 &&& (2147483647 : Int32)) % (3 : Int32))), .val (.ref kd), .val (.int (pk p1 l2 (0 : Int32) (86 : Int32))), .val (.int (pk p1 l2 (1 : Int32) (79 : Int32))), .val (.int (pk p1 l2 (2 : Int32) (95 : Int32))), .val (.int (pk p1 l2 (3 : Int32) (65 : Int32))), .val (.int (pk p1 l2 (4 : Int32) (68 : Int32))), .val (.int (pk p1 l2 (5 : Int32) (77 : Int32))), .val (.int (pk p1 l2 (6 : Int32) (73 : Int32))), .val (.int (pk p1 l2 (7 : Int32) (78 : Int32))), .val (.int ((((p1.toUInt32 >>> ((10 : Int32) &&& 31).toUInt32).toInt32) &&& (255 : Int32)).toUInt32.toUInt16.toUInt32.toInt32)), .val (.int (((p1.toUInt32 >>> ((8 : Int32) &&& 31).toUInt32).toInt32) &&& (3 : Int32))), .unset, .unset, .unset] [(.int (pk p1 l2 (2 : Int32) (95 : Int32))), (.int (2 : Int32)), (.ref b51), (.ref b51), (.ref b50), (.ref b50)]))
      obtain ⟨cl54, Ar54, ak54, as54, an54, ah54, ag54⟩ := id V_b51
      have hin54 := inb_of as54 (j := (2 : Int32)) ⟨by decide, by decide⟩
      obtain ⟨T54, h54, X54, e54, W54, st54⟩ := stC X53 hx hZ e53 Ar54 (j := (2 : Int32)) hin54 (g := (mkF m 164 #[.val (.int p0), .val (.int p1), .val (.long l2), .second, .val (.int ((p0 &&& (2147483647 : Int32)) % (3 : Int32))), .val (.ref kd), .val (.int (pk p1 l2 (0 : Int32) (86 : Int32))), .val (.int (pk p1 l2 (1 : Int32) (79 : Int32))), .val (.int (pk p1 l2 (2 : Int32) (95 : Int32))), .val (.int (pk p1 l2 (3 : Int32) (65 : Int32))), .val (.int (pk p1 l2 (4 : Int32) (68 : Int32))), .val (.int (pk p1 l2 (5 : Int32) (77 : Int32))), .val (.int (pk p1 l2 (6 : Int32) (73 : Int32))), .val (.int (pk p1 l2 (7 : Int32) (78 : Int32))), .val (.int ((((p1.toUInt32 >>> ((10 : Int32) &&& 31).toUInt32).toInt32) &&& (255 : Int32)).toUInt32.toUInt16.toUInt32.toInt32)), .val (.int (((p1.toUInt32 >>> ((8 : Int32) &&& 31).toUInt32).toInt32) &&& (3 : Int32))), .unset, .unset, .unset] [(.int (pk p1 l2 (2 : Int32) (95 : Int32))), (.int (2 : Int32)), (.ref b51), (.ref b51), (.ref b50), (.ref b50)])) rfl rfl (hb hby at_164)
      have W54' : Wr _ _ _ _ (.int (pk p1 l2 (2 : Int32) (95 : Int32))) := (pk_nc p1 l2 (2 : Int32) (95 : Int32) (by decide)) ▸ W54
      have CHo := CH
      have SF_b50o := SF_b50
      have SF_b51o := SF_b51
      have hk := Nat.le_trans hk (wr_sz W54')
      have SF_b50 := Safe.wr W54' SF_b51o CHo.1 SF_b50o
      have SF_b51 := Safe.wr W54' SF_b51o CHo.1 SF_b51o
      have CH := CHo.trans (CHr.wr W54' SF_b51o CHo.1)
      have O0 := O0.wr W54' g_b51
      have E_b50 := E_b50.wr W54'
      have F_coder_b50 := F_coder_b50.other W54' (Or.inl ne_b50_b51)
      have F_value_b50 := F_value_b50.other W54' (Or.inl ne_b50_b51)
      have V_b51 := (Arv.set Ar54 ak54 as54 an54 ah54 ag54 ((pk_nc p1 l2 (2 : Int32) (95 : Int32) (by decide)) ▸ (fits_nar_char _)) W54' 2 rfl (Nat.le_of_ble_eq_true rfl) : Arv Z h54 b51 k51 .char (8 : Int32) [(.int (pk p1 l2 (0 : Int32) (86 : Int32))), (.int (pk p1 l2 (1 : Int32) (79 : Int32))), (.int (pk p1 l2 (2 : Int32) (95 : Int32))), (.int (0 : Int32)), (.int (0 : Int32)), (.int (0 : Int32)), (.int (0 : Int32)), (.int (0 : Int32))] (.int (0 : Int32)))
      have N54 := Fr.snoc X54 N53 g_b51
      refine go st54 ?_
      show Run p e below _ (T54.setTop (mkF m 165 #[.val (.int p0), .val (.int p1), .val (.long l2), .second, .val (.int ((p0 &&& (2147483647 : Int32)) % (3 : Int32))), .val (.ref kd), .val (.int (pk p1 l2 (0 : Int32) (86 : Int32))), .val (.int (pk p1 l2 (1 : Int32) (79 : Int32))), .val (.int (pk p1 l2 (2 : Int32) (95 : Int32))), .val (.int (pk p1 l2 (3 : Int32) (65 : Int32))), .val (.int (pk p1 l2 (4 : Int32) (68 : Int32))), .val (.int (pk p1 l2 (5 : Int32) (77 : Int32))), .val (.int (pk p1 l2 (6 : Int32) (73 : Int32))), .val (.int (pk p1 l2 (7 : Int32) (78 : Int32))), .val (.int ((((p1.toUInt32 >>> ((10 : Int32) &&& 31).toUInt32).toInt32) &&& (255 : Int32)).toUInt32.toUInt16.toUInt32.toInt32)), .val (.int (((p1.toUInt32 >>> ((8 : Int32) &&& 31).toUInt32).toInt32) &&& (3 : Int32))), .unset, .unset, .unset] [(.ref b51), (.ref b50), (.ref b50)]))
      refine go (fun _ => XS.dup X54.here hx rfl (hb hby at_165) rfl rfl) ?_
      show Run p e below _ (T54.setTop (mkF m 166 #[.val (.int p0), .val (.int p1), .val (.long l2), .second, .val (.int ((p0 &&& (2147483647 : Int32)) % (3 : Int32))), .val (.ref kd), .val (.int (pk p1 l2 (0 : Int32) (86 : Int32))), .val (.int (pk p1 l2 (1 : Int32) (79 : Int32))), .val (.int (pk p1 l2 (2 : Int32) (95 : Int32))), .val (.int (pk p1 l2 (3 : Int32) (65 : Int32))), .val (.int (pk p1 l2 (4 : Int32) (68 : Int32))), .val (.int (pk p1 l2 (5 : Int32) (77 : Int32))), .val (.int (pk p1 l2 (6 : Int32) (73 : Int32))), .val (.int (pk p1 l2 (7 : Int32) (78 : Int32))), .val (.int ((((p1.toUInt32 >>> ((10 : Int32) &&& 31).toUInt32).toInt32) &&& (255 : Int32)).toUInt32.toUInt16.toUInt32.toInt32)), .val (.int (((p1.toUInt32 >>> ((8 : Int32) &&& 31).toUInt32).toInt32) &&& (3 : Int32))), .unset, .unset, .unset] [(.ref b51), (.ref b51), (.ref b50), (.ref b50)]))
      refine go (fun _ => XS.iconst X54.here hx rfl (hb hby at_166)) ?_
      show Run p e below _ (T54.setTop (mkF m 167 #[.val (.int p0), .val (.int p1), .val (.long l2), .second, .val (.int ((p0 &&& (2147483647 : Int32)) % (3 : Int32))), .val (.ref kd), .val (.int (pk p1 l2 (0 : Int32) (86 : Int32))), .val (.int (pk p1 l2 (1 : Int32) (79 : Int32))), .val (.int (pk p1 l2 (2 : Int32) (95 : Int32))), .val (.int (pk p1 l2 (3 : Int32) (65 : Int32))), .val (.int (pk p1 l2 (4 : Int32) (68 : Int32))), .val (.int (pk p1 l2 (5 : Int32) (77 : Int32))), .val (.int (pk p1 l2 (6 : Int32) (73 : Int32))), .val (.int (pk p1 l2 (7 : Int32) (78 : Int32))), .val (.int ((((p1.toUInt32 >>> ((10 : Int32) &&& 31).toUInt32).toInt32) &&& (255 : Int32)).toUInt32.toUInt16.toUInt32.toInt32)), .val (.int (((p1.toUInt32 >>> ((8 : Int32) &&& 31).toUInt32).toInt32) &&& (3 : Int32))), .unset, .unset, .unset] [(.int (3 : Int32)), (.ref b51), (.ref b51), (.ref b50), (.ref b50)]))
      refine go (fun _ => XS.iload X54.here hx rfl (hb hby at_167) rfl) ?_
      show Run p e below _ (T54.setTop (mkF m 169 #[.val (.int p0), .val (.int p1), .val (.long l2), .second, .val (.int ((p0 &&& (2147483647 : Int32)) % (3 : Int32))), .val (.ref kd), .val (.int (pk p1 l2 (0 : Int32) (86 : Int32))), .val (.int (pk p1 l2 (1 : Int32) (79 : Int32))), .val (.int (pk p1 l2 (2 : Int32) (95 : Int32))), .val (.int (pk p1 l2 (3 : Int32) (65 : Int32))), .val (.int (pk p1 l2 (4 : Int32) (68 : Int32))), .val (.int (pk p1 l2 (5 : Int32) (77 : Int32))), .val (.int (pk p1 l2 (6 : Int32) (73 : Int32))), .val (.int (pk p1 l2 (7 : Int32) (78 : Int32))), .val (.int ((((p1.toUInt32 >>> ((10 : Int32) &&& 31).toUInt32).toInt32) &&& (255 : Int32)).toUInt32.toUInt16.toUInt32.toInt32)), .val (.int (((p1.toUInt32 >>> ((8 : Int32) &&& 31).toUInt32).toInt32) &&& (3 : Int32))), .unset, .unset, .unset] [(.int (pk p1 l2 (3 : Int32) (65 : Int32))), (.int (3 : Int32)), (.ref b51), (.ref b51), (.ref b50), (.ref b50)]))
      obtain ⟨cl55, Ar55, ak55, as55, an55, ah55, ag55⟩ := id V_b51
      have hin55 := inb_of as55 (j := (3 : Int32)) ⟨by decide, by decide⟩
      obtain ⟨T55, h55, X55, e55, W55, st55⟩ := stC X54 hx hZ e54 Ar55 (j := (3 : Int32)) hin55 (g := (mkF m 169 #[.val (.int p0), .val (.int p1), .val (.long l2), .second, .val (.int ((p0 &&& (2147483647 : Int32)) % (3 : Int32))), .val (.ref kd), .val (.int (pk p1 l2 (0 : Int32) (86 : Int32))), .val (.int (pk p1 l2 (1 : Int32) (79 : Int32))), .val (.int (pk p1 l2 (2 : Int32) (95 : Int32))), .val (.int (pk p1 l2 (3 : Int32) (65 : Int32))), .val (.int (pk p1 l2 (4 : Int32) (68 : Int32))), .val (.int (pk p1 l2 (5 : Int32) (77 : Int32))), .val (.int (pk p1 l2 (6 : Int32) (73 : Int32))), .val (.int (pk p1 l2 (7 : Int32) (78 : Int32))), .val (.int ((((p1.toUInt32 >>> ((10 : Int32) &&& 31).toUInt32).toInt32) &&& (255 : Int32)).toUInt32.toUInt16.toUInt32.toInt32)), .val (.int (((p1.toUInt32 >>> ((8 : Int32) &&& 31).toUInt32).toInt32) &&& (3 : Int32))), .unset, .unset, .unset] [(.int (pk p1 l2 (3 : Int32) (65 : Int32))), (.int (3 : Int32)), (.ref b51), (.ref b51), (.ref b50), (.ref b50)])) rfl rfl (hb hby at_169)
      have W55' : Wr _ _ _ _ (.int (pk p1 l2 (3 : Int32) (65 : Int32))) := (pk_nc p1 l2 (3 : Int32) (65 : Int32) (by decide)) ▸ W55
      have CHo := CH
      have SF_b50o := SF_b50
      have SF_b51o := SF_b51
      have hk := Nat.le_trans hk (wr_sz W55')
      have SF_b50 := Safe.wr W55' SF_b51o CHo.1 SF_b50o
      have SF_b51 := Safe.wr W55' SF_b51o CHo.1 SF_b51o
      have CH := CHo.trans (CHr.wr W55' SF_b51o CHo.1)
      have O0 := O0.wr W55' g_b51
      have E_b50 := E_b50.wr W55'
      have F_coder_b50 := F_coder_b50.other W55' (Or.inl ne_b50_b51)
      have F_value_b50 := F_value_b50.other W55' (Or.inl ne_b50_b51)
      have V_b51 := (Arv.set Ar55 ak55 as55 an55 ah55 ag55 ((pk_nc p1 l2 (3 : Int32) (65 : Int32) (by decide)) ▸ (fits_nar_char _)) W55' 3 rfl (Nat.le_of_ble_eq_true rfl) : Arv Z h55 b51 k51 .char (8 : Int32) [(.int (pk p1 l2 (0 : Int32) (86 : Int32))), (.int (pk p1 l2 (1 : Int32) (79 : Int32))), (.int (pk p1 l2 (2 : Int32) (95 : Int32))), (.int (pk p1 l2 (3 : Int32) (65 : Int32))), (.int (0 : Int32)), (.int (0 : Int32)), (.int (0 : Int32)), (.int (0 : Int32))] (.int (0 : Int32)))
      have N55 := Fr.snoc X55 N54 g_b51
      refine go st55 ?_
      show Run p e below _ (T55.setTop (mkF m 170 #[.val (.int p0), .val (.int p1), .val (.long l2), .second, .val (.int ((p0 &&& (2147483647 : Int32)) % (3 : Int32))), .val (.ref kd), .val (.int (pk p1 l2 (0 : Int32) (86 : Int32))), .val (.int (pk p1 l2 (1 : Int32) (79 : Int32))), .val (.int (pk p1 l2 (2 : Int32) (95 : Int32))), .val (.int (pk p1 l2 (3 : Int32) (65 : Int32))), .val (.int (pk p1 l2 (4 : Int32) (68 : Int32))), .val (.int (pk p1 l2 (5 : Int32) (77 : Int32))), .val (.int (pk p1 l2 (6 : Int32) (73 : Int32))), .val (.int (pk p1 l2 (7 : Int32) (78 : Int32))), .val (.int ((((p1.toUInt32 >>> ((10 : Int32) &&& 31).toUInt32).toInt32) &&& (255 : Int32)).toUInt32.toUInt16.toUInt32.toInt32)), .val (.int (((p1.toUInt32 >>> ((8 : Int32) &&& 31).toUInt32).toInt32) &&& (3 : Int32))), .unset, .unset, .unset] [(.ref b51), (.ref b50), (.ref b50)]))
      refine go (fun _ => XS.dup X55.here hx rfl (hb hby at_170) rfl rfl) ?_
      show Run p e below _ (T55.setTop (mkF m 171 #[.val (.int p0), .val (.int p1), .val (.long l2), .second, .val (.int ((p0 &&& (2147483647 : Int32)) % (3 : Int32))), .val (.ref kd), .val (.int (pk p1 l2 (0 : Int32) (86 : Int32))), .val (.int (pk p1 l2 (1 : Int32) (79 : Int32))), .val (.int (pk p1 l2 (2 : Int32) (95 : Int32))), .val (.int (pk p1 l2 (3 : Int32) (65 : Int32))), .val (.int (pk p1 l2 (4 : Int32) (68 : Int32))), .val (.int (pk p1 l2 (5 : Int32) (77 : Int32))), .val (.int (pk p1 l2 (6 : Int32) (73 : Int32))), .val (.int (pk p1 l2 (7 : Int32) (78 : Int32))), .val (.int ((((p1.toUInt32 >>> ((10 : Int32) &&& 31).toUInt32).toInt32) &&& (255 : Int32)).toUInt32.toUInt16.toUInt32.toInt32)), .val (.int (((p1.toUInt32 >>> ((8 : Int32) &&& 31).toUInt32).toInt32) &&& (3 : Int32))), .unset, .unset, .unset] [(.ref b51), (.ref b51), (.ref b50), (.ref b50)]))
      refine go (fun _ => XS.iconst X55.here hx rfl (hb hby at_171)) ?_
      show Run p e below _ (T55.setTop (mkF m 172 #[.val (.int p0), .val (.int p1), .val (.long l2), .second, .val (.int ((p0 &&& (2147483647 : Int32)) % (3 : Int32))), .val (.ref kd), .val (.int (pk p1 l2 (0 : Int32) (86 : Int32))), .val (.int (pk p1 l2 (1 : Int32) (79 : Int32))), .val (.int (pk p1 l2 (2 : Int32) (95 : Int32))), .val (.int (pk p1 l2 (3 : Int32) (65 : Int32))), .val (.int (pk p1 l2 (4 : Int32) (68 : Int32))), .val (.int (pk p1 l2 (5 : Int32) (77 : Int32))), .val (.int (pk p1 l2 (6 : Int32) (73 : Int32))), .val (.int (pk p1 l2 (7 : Int32) (78 : Int32))), .val (.int ((((p1.toUInt32 >>> ((10 : Int32) &&& 31).toUInt32).toInt32) &&& (255 : Int32)).toUInt32.toUInt16.toUInt32.toInt32)), .val (.int (((p1.toUInt32 >>> ((8 : Int32) &&& 31).toUInt32).toInt32) &&& (3 : Int32))), .unset, .unset, .unset] [(.int (4 : Int32)), (.ref b51), (.ref b51), (.ref b50), (.ref b50)]))
      refine go (fun _ => XS.iload X55.here hx rfl (hb hby at_172) rfl) ?_
      show Run p e below _ (T55.setTop (mkF m 174 #[.val (.int p0), .val (.int p1), .val (.long l2), .second, .val (.int ((p0 &&& (2147483647 : Int32)) % (3 : Int32))), .val (.ref kd), .val (.int (pk p1 l2 (0 : Int32) (86 : Int32))), .val (.int (pk p1 l2 (1 : Int32) (79 : Int32))), .val (.int (pk p1 l2 (2 : Int32) (95 : Int32))), .val (.int (pk p1 l2 (3 : Int32) (65 : Int32))), .val (.int (pk p1 l2 (4 : Int32) (68 : Int32))), .val (.int (pk p1 l2 (5 : Int32) (77 : Int32))), .val (.int (pk p1 l2 (6 : Int32) (73 : Int32))), .val (.int (pk p1 l2 (7 : Int32) (78 : Int32))), .val (.int ((((p1.toUInt32 >>> ((10 : Int32) &&& 31).toUInt32).toInt32) &&& (255 : Int32)).toUInt32.toUInt16.toUInt32.toInt32)), .val (.int (((p1.toUInt32 >>> ((8 : Int32) &&& 31).toUInt32).toInt32) &&& (3 : Int32))), .unset, .unset, .unset] [(.int (pk p1 l2 (4 : Int32) (68 : Int32))), (.int (4 : Int32)), (.ref b51), (.ref b51), (.ref b50), (.ref b50)]))
      obtain ⟨cl56, Ar56, ak56, as56, an56, ah56, ag56⟩ := id V_b51
      have hin56 := inb_of as56 (j := (4 : Int32)) ⟨by decide, by decide⟩
      obtain ⟨T56, h56, X56, e56, W56, st56⟩ := stC X55 hx hZ e55 Ar56 (j := (4 : Int32)) hin56 (g := (mkF m 174 #[.val (.int p0), .val (.int p1), .val (.long l2), .second, .val (.int ((p0 &&& (2147483647 : Int32)) % (3 : Int32))), .val (.ref kd), .val (.int (pk p1 l2 (0 : Int32) (86 : Int32))), .val (.int (pk p1 l2 (1 : Int32) (79 : Int32))), .val (.int (pk p1 l2 (2 : Int32) (95 : Int32))), .val (.int (pk p1 l2 (3 : Int32) (65 : Int32))), .val (.int (pk p1 l2 (4 : Int32) (68 : Int32))), .val (.int (pk p1 l2 (5 : Int32) (77 : Int32))), .val (.int (pk p1 l2 (6 : Int32) (73 : Int32))), .val (.int (pk p1 l2 (7 : Int32) (78 : Int32))), .val (.int ((((p1.toUInt32 >>> ((10 : Int32) &&& 31).toUInt32).toInt32) &&& (255 : Int32)).toUInt32.toUInt16.toUInt32.toInt32)), .val (.int (((p1.toUInt32 >>> ((8 : Int32) &&& 31).toUInt32).toInt32) &&& (3 : Int32))), .unset, .unset, .unset] [(.int (pk p1 l2 (4 : Int32) (68 : Int32))), (.int (4 : Int32)), (.ref b51), (.ref b51), (.ref b50), (.ref b50)])) rfl rfl (hb hby at_174)
      have W56' : Wr _ _ _ _ (.int (pk p1 l2 (4 : Int32) (68 : Int32))) := (pk_nc p1 l2 (4 : Int32) (68 : Int32) (by decide)) ▸ W56
      have CHo := CH
      have SF_b50o := SF_b50
      have SF_b51o := SF_b51
      have hk := Nat.le_trans hk (wr_sz W56')
      have SF_b50 := Safe.wr W56' SF_b51o CHo.1 SF_b50o
      have SF_b51 := Safe.wr W56' SF_b51o CHo.1 SF_b51o
      have CH := CHo.trans (CHr.wr W56' SF_b51o CHo.1)
      have O0 := O0.wr W56' g_b51
      have E_b50 := E_b50.wr W56'
      have F_coder_b50 := F_coder_b50.other W56' (Or.inl ne_b50_b51)
      have F_value_b50 := F_value_b50.other W56' (Or.inl ne_b50_b51)
      have V_b51 := (Arv.set Ar56 ak56 as56 an56 ah56 ag56 ((pk_nc p1 l2 (4 : Int32) (68 : Int32) (by decide)) ▸ (fits_nar_char _)) W56' 4 rfl (Nat.le_of_ble_eq_true rfl) : Arv Z h56 b51 k51 .char (8 : Int32) [(.int (pk p1 l2 (0 : Int32) (86 : Int32))), (.int (pk p1 l2 (1 : Int32) (79 : Int32))), (.int (pk p1 l2 (2 : Int32) (95 : Int32))), (.int (pk p1 l2 (3 : Int32) (65 : Int32))), (.int (pk p1 l2 (4 : Int32) (68 : Int32))), (.int (0 : Int32)), (.int (0 : Int32)), (.int (0 : Int32))] (.int (0 : Int32)))
      have N56 := Fr.snoc X56 N55 g_b51
      refine go st56 ?_
      show Run p e below _ (T56.setTop (mkF m 175 #[.val (.int p0), .val (.int p1), .val (.long l2), .second, .val (.int ((p0 &&& (2147483647 : Int32)) % (3 : Int32))), .val (.ref kd), .val (.int (pk p1 l2 (0 : Int32) (86 : Int32))), .val (.int (pk p1 l2 (1 : Int32) (79 : Int32))), .val (.int (pk p1 l2 (2 : Int32) (95 : Int32))), .val (.int (pk p1 l2 (3 : Int32) (65 : Int32))), .val (.int (pk p1 l2 (4 : Int32) (68 : Int32))), .val (.int (pk p1 l2 (5 : Int32) (77 : Int32))), .val (.int (pk p1 l2 (6 : Int32) (73 : Int32))), .val (.int (pk p1 l2 (7 : Int32) (78 : Int32))), .val (.int ((((p1.toUInt32 >>> ((10 : Int32) &&& 31).toUInt32).toInt32) &&& (255 : Int32)).toUInt32.toUInt16.toUInt32.toInt32)), .val (.int (((p1.toUInt32 >>> ((8 : Int32) &&& 31).toUInt32).toInt32) &&& (3 : Int32))), .unset, .unset, .unset] [(.ref b51), (.ref b50), (.ref b50)]))
      refine go (fun _ => XS.dup X56.here hx rfl (hb hby at_175) rfl rfl) ?_
      show Run p e below _ (T56.setTop (mkF m 176 #[.val (.int p0), .val (.int p1), .val (.long l2), .second, .val (.int ((p0 &&& (2147483647 : Int32)) % (3 : Int32))), .val (.ref kd), .val (.int (pk p1 l2 (0 : Int32) (86 : Int32))), .val (.int (pk p1 l2 (1 : Int32) (79 : Int32))), .val (.int (pk p1 l2 (2 : Int32) (95 : Int32))), .val (.int (pk p1 l2 (3 : Int32) (65 : Int32))), .val (.int (pk p1 l2 (4 : Int32) (68 : Int32))), .val (.int (pk p1 l2 (5 : Int32) (77 : Int32))), .val (.int (pk p1 l2 (6 : Int32) (73 : Int32))), .val (.int (pk p1 l2 (7 : Int32) (78 : Int32))), .val (.int ((((p1.toUInt32 >>> ((10 : Int32) &&& 31).toUInt32).toInt32) &&& (255 : Int32)).toUInt32.toUInt16.toUInt32.toInt32)), .val (.int (((p1.toUInt32 >>> ((8 : Int32) &&& 31).toUInt32).toInt32) &&& (3 : Int32))), .unset, .unset, .unset] [(.ref b51), (.ref b51), (.ref b50), (.ref b50)]))
      refine go (fun _ => XS.iconst X56.here hx rfl (hb hby at_176)) ?_
      show Run p e below _ (T56.setTop (mkF m 177 #[.val (.int p0), .val (.int p1), .val (.long l2), .second, .val (.int ((p0 &&& (2147483647 : Int32)) % (3 : Int32))), .val (.ref kd), .val (.int (pk p1 l2 (0 : Int32) (86 : Int32))), .val (.int (pk p1 l2 (1 : Int32) (79 : Int32))), .val (.int (pk p1 l2 (2 : Int32) (95 : Int32))), .val (.int (pk p1 l2 (3 : Int32) (65 : Int32))), .val (.int (pk p1 l2 (4 : Int32) (68 : Int32))), .val (.int (pk p1 l2 (5 : Int32) (77 : Int32))), .val (.int (pk p1 l2 (6 : Int32) (73 : Int32))), .val (.int (pk p1 l2 (7 : Int32) (78 : Int32))), .val (.int ((((p1.toUInt32 >>> ((10 : Int32) &&& 31).toUInt32).toInt32) &&& (255 : Int32)).toUInt32.toUInt16.toUInt32.toInt32)), .val (.int (((p1.toUInt32 >>> ((8 : Int32) &&& 31).toUInt32).toInt32) &&& (3 : Int32))), .unset, .unset, .unset] [(.int (5 : Int32)), (.ref b51), (.ref b51), (.ref b50), (.ref b50)]))
      refine go (fun _ => XS.iload X56.here hx rfl (hb hby at_177) rfl) ?_
      show Run p e below _ (T56.setTop (mkF m 179 #[.val (.int p0), .val (.int p1), .val (.long l2), .second, .val (.int ((p0 &&& (2147483647 : Int32)) % (3 : Int32))), .val (.ref kd), .val (.int (pk p1 l2 (0 : Int32) (86 : Int32))), .val (.int (pk p1 l2 (1 : Int32) (79 : Int32))), .val (.int (pk p1 l2 (2 : Int32) (95 : Int32))), .val (.int (pk p1 l2 (3 : Int32) (65 : Int32))), .val (.int (pk p1 l2 (4 : Int32) (68 : Int32))), .val (.int (pk p1 l2 (5 : Int32) (77 : Int32))), .val (.int (pk p1 l2 (6 : Int32) (73 : Int32))), .val (.int (pk p1 l2 (7 : Int32) (78 : Int32))), .val (.int ((((p1.toUInt32 >>> ((10 : Int32) &&& 31).toUInt32).toInt32) &&& (255 : Int32)).toUInt32.toUInt16.toUInt32.toInt32)), .val (.int (((p1.toUInt32 >>> ((8 : Int32) &&& 31).toUInt32).toInt32) &&& (3 : Int32))), .unset, .unset, .unset] [(.int (pk p1 l2 (5 : Int32) (77 : Int32))), (.int (5 : Int32)), (.ref b51), (.ref b51), (.ref b50), (.ref b50)]))
      obtain ⟨cl57, Ar57, ak57, as57, an57, ah57, ag57⟩ := id V_b51
      have hin57 := inb_of as57 (j := (5 : Int32)) ⟨by decide, by decide⟩
      obtain ⟨T57, h57, X57, e57, W57, st57⟩ := stC X56 hx hZ e56 Ar57 (j := (5 : Int32)) hin57 (g := (mkF m 179 #[.val (.int p0), .val (.int p1), .val (.long l2), .second, .val (.int ((p0 &&& (2147483647 : Int32)) % (3 : Int32))), .val (.ref kd), .val (.int (pk p1 l2 (0 : Int32) (86 : Int32))), .val (.int (pk p1 l2 (1 : Int32) (79 : Int32))), .val (.int (pk p1 l2 (2 : Int32) (95 : Int32))), .val (.int (pk p1 l2 (3 : Int32) (65 : Int32))), .val (.int (pk p1 l2 (4 : Int32) (68 : Int32))), .val (.int (pk p1 l2 (5 : Int32) (77 : Int32))), .val (.int (pk p1 l2 (6 : Int32) (73 : Int32))), .val (.int (pk p1 l2 (7 : Int32) (78 : Int32))), .val (.int ((((p1.toUInt32 >>> ((10 : Int32) &&& 31).toUInt32).toInt32) &&& (255 : Int32)).toUInt32.toUInt16.toUInt32.toInt32)), .val (.int (((p1.toUInt32 >>> ((8 : Int32) &&& 31).toUInt32).toInt32) &&& (3 : Int32))), .unset, .unset, .unset] [(.int (pk p1 l2 (5 : Int32) (77 : Int32))), (.int (5 : Int32)), (.ref b51), (.ref b51), (.ref b50), (.ref b50)])) rfl rfl (hb hby at_179)
      have W57' : Wr _ _ _ _ (.int (pk p1 l2 (5 : Int32) (77 : Int32))) := (pk_nc p1 l2 (5 : Int32) (77 : Int32) (by decide)) ▸ W57
      have CHo := CH
      have SF_b50o := SF_b50
      have SF_b51o := SF_b51
      have hk := Nat.le_trans hk (wr_sz W57')
      have SF_b50 := Safe.wr W57' SF_b51o CHo.1 SF_b50o
      have SF_b51 := Safe.wr W57' SF_b51o CHo.1 SF_b51o
      have CH := CHo.trans (CHr.wr W57' SF_b51o CHo.1)
      have O0 := O0.wr W57' g_b51
      have E_b50 := E_b50.wr W57'
      have F_coder_b50 := F_coder_b50.other W57' (Or.inl ne_b50_b51)
      have F_value_b50 := F_value_b50.other W57' (Or.inl ne_b50_b51)
      have V_b51 := (Arv.set Ar57 ak57 as57 an57 ah57 ag57 ((pk_nc p1 l2 (5 : Int32) (77 : Int32) (by decide)) ▸ (fits_nar_char _)) W57' 5 rfl (Nat.le_of_ble_eq_true rfl) : Arv Z h57 b51 k51 .char (8 : Int32) [(.int (pk p1 l2 (0 : Int32) (86 : Int32))), (.int (pk p1 l2 (1 : Int32) (79 : Int32))), (.int (pk p1 l2 (2 : Int32) (95 : Int32))), (.int (pk p1 l2 (3 : Int32) (65 : Int32))), (.int (pk p1 l2 (4 : Int32) (68 : Int32))), (.int (pk p1 l2 (5 : Int32) (77 : Int32))), (.int (0 : Int32)), (.int (0 : Int32))] (.int (0 : Int32)))
      have N57 := Fr.snoc X57 N56 g_b51
      refine go st57 ?_
      show Run p e below _ (T57.setTop (mkF m 180 #[.val (.int p0), .val (.int p1), .val (.long l2), .second, .val (.int ((p0 &&& (2147483647 : Int32)) % (3 : Int32))), .val (.ref kd), .val (.int (pk p1 l2 (0 : Int32) (86 : Int32))), .val (.int (pk p1 l2 (1 : Int32) (79 : Int32))), .val (.int (pk p1 l2 (2 : Int32) (95 : Int32))), .val (.int (pk p1 l2 (3 : Int32) (65 : Int32))), .val (.int (pk p1 l2 (4 : Int32) (68 : Int32))), .val (.int (pk p1 l2 (5 : Int32) (77 : Int32))), .val (.int (pk p1 l2 (6 : Int32) (73 : Int32))), .val (.int (pk p1 l2 (7 : Int32) (78 : Int32))), .val (.int ((((p1.toUInt32 >>> ((10 : Int32) &&& 31).toUInt32).toInt32) &&& (255 : Int32)).toUInt32.toUInt16.toUInt32.toInt32)), .val (.int (((p1.toUInt32 >>> ((8 : Int32) &&& 31).toUInt32).toInt32) &&& (3 : Int32))), .unset, .unset, .unset] [(.ref b51), (.ref b50), (.ref b50)]))
      refine go (fun _ => XS.dup X57.here hx rfl (hb hby at_180) rfl rfl) ?_
      show Run p e below _ (T57.setTop (mkF m 181 #[.val (.int p0), .val (.int p1), .val (.long l2), .second, .val (.int ((p0 &&& (2147483647 : Int32)) % (3 : Int32))), .val (.ref kd), .val (.int (pk p1 l2 (0 : Int32) (86 : Int32))), .val (.int (pk p1 l2 (1 : Int32) (79 : Int32))), .val (.int (pk p1 l2 (2 : Int32) (95 : Int32))), .val (.int (pk p1 l2 (3 : Int32) (65 : Int32))), .val (.int (pk p1 l2 (4 : Int32) (68 : Int32))), .val (.int (pk p1 l2 (5 : Int32) (77 : Int32))), .val (.int (pk p1 l2 (6 : Int32) (73 : Int32))), .val (.int (pk p1 l2 (7 : Int32) (78 : Int32))), .val (.int ((((p1.toUInt32 >>> ((10 : Int32) &&& 31).toUInt32).toInt32) &&& (255 : Int32)).toUInt32.toUInt16.toUInt32.toInt32)), .val (.int (((p1.toUInt32 >>> ((8 : Int32) &&& 31).toUInt32).toInt32) &&& (3 : Int32))), .unset, .unset, .unset] [(.ref b51), (.ref b51), (.ref b50), (.ref b50)]))
      refine go (fun _ => XS.bipush X57.here hx rfl (hb hby at_181)) ?_
      show Run p e below _ (T57.setTop (mkF m 183 #[.val (.int p0), .val (.int p1), .val (.long l2), .second, .val (.int ((p0 &&& (2147483647 : Int32)) % (3 : Int32))), .val (.ref kd), .val (.int (pk p1 l2 (0 : Int32) (86 : Int32))), .val (.int (pk p1 l2 (1 : Int32) (79 : Int32))), .val (.int (pk p1 l2 (2 : Int32) (95 : Int32))), .val (.int (pk p1 l2 (3 : Int32) (65 : Int32))), .val (.int (pk p1 l2 (4 : Int32) (68 : Int32))), .val (.int (pk p1 l2 (5 : Int32) (77 : Int32))), .val (.int (pk p1 l2 (6 : Int32) (73 : Int32))), .val (.int (pk p1 l2 (7 : Int32) (78 : Int32))), .val (.int ((((p1.toUInt32 >>> ((10 : Int32) &&& 31).toUInt32).toInt32) &&& (255 : Int32)).toUInt32.toUInt16.toUInt32.toInt32)), .val (.int (((p1.toUInt32 >>> ((8 : Int32) &&& 31).toUInt32).toInt32) &&& (3 : Int32))), .unset, .unset, .unset] [(.int (6 : Int32)), (.ref b51), (.ref b51), (.ref b50), (.ref b50)]))
      refine go (fun _ => XS.iload X57.here hx rfl (hb hby at_183) rfl) ?_
      show Run p e below _ (T57.setTop (mkF m 185 #[.val (.int p0), .val (.int p1), .val (.long l2), .second, .val (.int ((p0 &&& (2147483647 : Int32)) % (3 : Int32))), .val (.ref kd), .val (.int (pk p1 l2 (0 : Int32) (86 : Int32))), .val (.int (pk p1 l2 (1 : Int32) (79 : Int32))), .val (.int (pk p1 l2 (2 : Int32) (95 : Int32))), .val (.int (pk p1 l2 (3 : Int32) (65 : Int32))), .val (.int (pk p1 l2 (4 : Int32) (68 : Int32))), .val (.int (pk p1 l2 (5 : Int32) (77 : Int32))), .val (.int (pk p1 l2 (6 : Int32) (73 : Int32))), .val (.int (pk p1 l2 (7 : Int32) (78 : Int32))), .val (.int ((((p1.toUInt32 >>> ((10 : Int32) &&& 31).toUInt32).toInt32) &&& (255 : Int32)).toUInt32.toUInt16.toUInt32.toInt32)), .val (.int (((p1.toUInt32 >>> ((8 : Int32) &&& 31).toUInt32).toInt32) &&& (3 : Int32))), .unset, .unset, .unset] [(.int (pk p1 l2 (6 : Int32) (73 : Int32))), (.int (6 : Int32)), (.ref b51), (.ref b51), (.ref b50), (.ref b50)]))
      obtain ⟨cl58, Ar58, ak58, as58, an58, ah58, ag58⟩ := id V_b51
      have hin58 := inb_of as58 (j := (6 : Int32)) ⟨by decide, by decide⟩
      obtain ⟨T58, h58, X58, e58, W58, st58⟩ := stC X57 hx hZ e57 Ar58 (j := (6 : Int32)) hin58 (g := (mkF m 185 #[.val (.int p0), .val (.int p1), .val (.long l2), .second, .val (.int ((p0 &&& (2147483647 : Int32)) % (3 : Int32))), .val (.ref kd), .val (.int (pk p1 l2 (0 : Int32) (86 : Int32))), .val (.int (pk p1 l2 (1 : Int32) (79 : Int32))), .val (.int (pk p1 l2 (2 : Int32) (95 : Int32))), .val (.int (pk p1 l2 (3 : Int32) (65 : Int32))), .val (.int (pk p1 l2 (4 : Int32) (68 : Int32))), .val (.int (pk p1 l2 (5 : Int32) (77 : Int32))), .val (.int (pk p1 l2 (6 : Int32) (73 : Int32))), .val (.int (pk p1 l2 (7 : Int32) (78 : Int32))), .val (.int ((((p1.toUInt32 >>> ((10 : Int32) &&& 31).toUInt32).toInt32) &&& (255 : Int32)).toUInt32.toUInt16.toUInt32.toInt32)), .val (.int (((p1.toUInt32 >>> ((8 : Int32) &&& 31).toUInt32).toInt32) &&& (3 : Int32))), .unset, .unset, .unset] [(.int (pk p1 l2 (6 : Int32) (73 : Int32))), (.int (6 : Int32)), (.ref b51), (.ref b51), (.ref b50), (.ref b50)])) rfl rfl (hb hby at_185)
      have W58' : Wr _ _ _ _ (.int (pk p1 l2 (6 : Int32) (73 : Int32))) := (pk_nc p1 l2 (6 : Int32) (73 : Int32) (by decide)) ▸ W58
      have CHo := CH
      have SF_b50o := SF_b50
      have SF_b51o := SF_b51
      have hk := Nat.le_trans hk (wr_sz W58')
      have SF_b50 := Safe.wr W58' SF_b51o CHo.1 SF_b50o
      have SF_b51 := Safe.wr W58' SF_b51o CHo.1 SF_b51o
      have CH := CHo.trans (CHr.wr W58' SF_b51o CHo.1)
      have O0 := O0.wr W58' g_b51
      have E_b50 := E_b50.wr W58'
      have F_coder_b50 := F_coder_b50.other W58' (Or.inl ne_b50_b51)
      have F_value_b50 := F_value_b50.other W58' (Or.inl ne_b50_b51)
      have V_b51 := (Arv.set Ar58 ak58 as58 an58 ah58 ag58 ((pk_nc p1 l2 (6 : Int32) (73 : Int32) (by decide)) ▸ (fits_nar_char _)) W58' 6 rfl (Nat.le_of_ble_eq_true rfl) : Arv Z h58 b51 k51 .char (8 : Int32) [(.int (pk p1 l2 (0 : Int32) (86 : Int32))), (.int (pk p1 l2 (1 : Int32) (79 : Int32))), (.int (pk p1 l2 (2 : Int32) (95 : Int32))), (.int (pk p1 l2 (3 : Int32) (65 : Int32))), (.int (pk p1 l2 (4 : Int32) (68 : Int32))), (.int (pk p1 l2 (5 : Int32) (77 : Int32))), (.int (pk p1 l2 (6 : Int32) (73 : Int32))), (.int (0 : Int32))] (.int (0 : Int32)))
      have N58 := Fr.snoc X58 N57 g_b51
      refine go st58 ?_
      show Run p e below _ (T58.setTop (mkF m 186 #[.val (.int p0), .val (.int p1), .val (.long l2), .second, .val (.int ((p0 &&& (2147483647 : Int32)) % (3 : Int32))), .val (.ref kd), .val (.int (pk p1 l2 (0 : Int32) (86 : Int32))), .val (.int (pk p1 l2 (1 : Int32) (79 : Int32))), .val (.int (pk p1 l2 (2 : Int32) (95 : Int32))), .val (.int (pk p1 l2 (3 : Int32) (65 : Int32))), .val (.int (pk p1 l2 (4 : Int32) (68 : Int32))), .val (.int (pk p1 l2 (5 : Int32) (77 : Int32))), .val (.int (pk p1 l2 (6 : Int32) (73 : Int32))), .val (.int (pk p1 l2 (7 : Int32) (78 : Int32))), .val (.int ((((p1.toUInt32 >>> ((10 : Int32) &&& 31).toUInt32).toInt32) &&& (255 : Int32)).toUInt32.toUInt16.toUInt32.toInt32)), .val (.int (((p1.toUInt32 >>> ((8 : Int32) &&& 31).toUInt32).toInt32) &&& (3 : Int32))), .unset, .unset, .unset] [(.ref b51), (.ref b50), (.ref b50)]))
      refine go (fun _ => XS.dup X58.here hx rfl (hb hby at_186) rfl rfl) ?_
      show Run p e below _ (T58.setTop (mkF m 187 #[.val (.int p0), .val (.int p1), .val (.long l2), .second, .val (.int ((p0 &&& (2147483647 : Int32)) % (3 : Int32))), .val (.ref kd), .val (.int (pk p1 l2 (0 : Int32) (86 : Int32))), .val (.int (pk p1 l2 (1 : Int32) (79 : Int32))), .val (.int (pk p1 l2 (2 : Int32) (95 : Int32))), .val (.int (pk p1 l2 (3 : Int32) (65 : Int32))), .val (.int (pk p1 l2 (4 : Int32) (68 : Int32))), .val (.int (pk p1 l2 (5 : Int32) (77 : Int32))), .val (.int (pk p1 l2 (6 : Int32) (73 : Int32))), .val (.int (pk p1 l2 (7 : Int32) (78 : Int32))), .val (.int ((((p1.toUInt32 >>> ((10 : Int32) &&& 31).toUInt32).toInt32) &&& (255 : Int32)).toUInt32.toUInt16.toUInt32.toInt32)), .val (.int (((p1.toUInt32 >>> ((8 : Int32) &&& 31).toUInt32).toInt32) &&& (3 : Int32))), .unset, .unset, .unset] [(.ref b51), (.ref b51), (.ref b50), (.ref b50)]))
      refine go (fun _ => XS.bipush X58.here hx rfl (hb hby at_187)) ?_
      show Run p e below _ (T58.setTop (mkF m 189 #[.val (.int p0), .val (.int p1), .val (.long l2), .second, .val (.int ((p0 &&& (2147483647 : Int32)) % (3 : Int32))), .val (.ref kd), .val (.int (pk p1 l2 (0 : Int32) (86 : Int32))), .val (.int (pk p1 l2 (1 : Int32) (79 : Int32))), .val (.int (pk p1 l2 (2 : Int32) (95 : Int32))), .val (.int (pk p1 l2 (3 : Int32) (65 : Int32))), .val (.int (pk p1 l2 (4 : Int32) (68 : Int32))), .val (.int (pk p1 l2 (5 : Int32) (77 : Int32))), .val (.int (pk p1 l2 (6 : Int32) (73 : Int32))), .val (.int (pk p1 l2 (7 : Int32) (78 : Int32))), .val (.int ((((p1.toUInt32 >>> ((10 : Int32) &&& 31).toUInt32).toInt32) &&& (255 : Int32)).toUInt32.toUInt16.toUInt32.toInt32)), .val (.int (((p1.toUInt32 >>> ((8 : Int32) &&& 31).toUInt32).toInt32) &&& (3 : Int32))), .unset, .unset, .unset] [(.int (7 : Int32)), (.ref b51), (.ref b51), (.ref b50), (.ref b50)]))
      refine go (fun _ => XS.iload X58.here hx rfl (hb hby at_189) rfl) ?_
      show Run p e below _ (T58.setTop (mkF m 191 #[.val (.int p0), .val (.int p1), .val (.long l2), .second, .val (.int ((p0 &&& (2147483647 : Int32)) % (3 : Int32))), .val (.ref kd), .val (.int (pk p1 l2 (0 : Int32) (86 : Int32))), .val (.int (pk p1 l2 (1 : Int32) (79 : Int32))), .val (.int (pk p1 l2 (2 : Int32) (95 : Int32))), .val (.int (pk p1 l2 (3 : Int32) (65 : Int32))), .val (.int (pk p1 l2 (4 : Int32) (68 : Int32))), .val (.int (pk p1 l2 (5 : Int32) (77 : Int32))), .val (.int (pk p1 l2 (6 : Int32) (73 : Int32))), .val (.int (pk p1 l2 (7 : Int32) (78 : Int32))), .val (.int ((((p1.toUInt32 >>> ((10 : Int32) &&& 31).toUInt32).toInt32) &&& (255 : Int32)).toUInt32.toUInt16.toUInt32.toInt32)), .val (.int (((p1.toUInt32 >>> ((8 : Int32) &&& 31).toUInt32).toInt32) &&& (3 : Int32))), .unset, .unset, .unset] [(.int (pk p1 l2 (7 : Int32) (78 : Int32))), (.int (7 : Int32)), (.ref b51), (.ref b51), (.ref b50), (.ref b50)]))
      obtain ⟨cl59, Ar59, ak59, as59, an59, ah59, ag59⟩ := id V_b51
      have hin59 := inb_of as59 (j := (7 : Int32)) ⟨by decide, by decide⟩
      obtain ⟨T59, h59, X59, e59, W59, st59⟩ := stC X58 hx hZ e58 Ar59 (j := (7 : Int32)) hin59 (g := (mkF m 191 #[.val (.int p0), .val (.int p1), .val (.long l2), .second, .val (.int ((p0 &&& (2147483647 : Int32)) % (3 : Int32))), .val (.ref kd), .val (.int (pk p1 l2 (0 : Int32) (86 : Int32))), .val (.int (pk p1 l2 (1 : Int32) (79 : Int32))), .val (.int (pk p1 l2 (2 : Int32) (95 : Int32))), .val (.int (pk p1 l2 (3 : Int32) (65 : Int32))), .val (.int (pk p1 l2 (4 : Int32) (68 : Int32))), .val (.int (pk p1 l2 (5 : Int32) (77 : Int32))), .val (.int (pk p1 l2 (6 : Int32) (73 : Int32))), .val (.int (pk p1 l2 (7 : Int32) (78 : Int32))), .val (.int ((((p1.toUInt32 >>> ((10 : Int32) &&& 31).toUInt32).toInt32) &&& (255 : Int32)).toUInt32.toUInt16.toUInt32.toInt32)), .val (.int (((p1.toUInt32 >>> ((8 : Int32) &&& 31).toUInt32).toInt32) &&& (3 : Int32))), .unset, .unset, .unset] [(.int (pk p1 l2 (7 : Int32) (78 : Int32))), (.int (7 : Int32)), (.ref b51), (.ref b51), (.ref b50), (.ref b50)])) rfl rfl (hb hby at_191)
      have W59' : Wr _ _ _ _ (.int (pk p1 l2 (7 : Int32) (78 : Int32))) := (pk_nc p1 l2 (7 : Int32) (78 : Int32) (by decide)) ▸ W59
      have CHo := CH
      have SF_b50o := SF_b50
      have SF_b51o := SF_b51
      have hk := Nat.le_trans hk (wr_sz W59')
      have SF_b50 := Safe.wr W59' SF_b51o CHo.1 SF_b50o
      have SF_b51 := Safe.wr W59' SF_b51o CHo.1 SF_b51o
      have CH := CHo.trans (CHr.wr W59' SF_b51o CHo.1)
      have O0 := O0.wr W59' g_b51
      have E_b50 := E_b50.wr W59'
      have F_coder_b50 := F_coder_b50.other W59' (Or.inl ne_b50_b51)
      have F_value_b50 := F_value_b50.other W59' (Or.inl ne_b50_b51)
      have V_b51 := (Arv.set Ar59 ak59 as59 an59 ah59 ag59 ((pk_nc p1 l2 (7 : Int32) (78 : Int32) (by decide)) ▸ (fits_nar_char _)) W59' 7 rfl (Nat.le_of_ble_eq_true rfl) : Arv Z h59 b51 k51 .char (8 : Int32) [(.int (pk p1 l2 (0 : Int32) (86 : Int32))), (.int (pk p1 l2 (1 : Int32) (79 : Int32))), (.int (pk p1 l2 (2 : Int32) (95 : Int32))), (.int (pk p1 l2 (3 : Int32) (65 : Int32))), (.int (pk p1 l2 (4 : Int32) (68 : Int32))), (.int (pk p1 l2 (5 : Int32) (77 : Int32))), (.int (pk p1 l2 (6 : Int32) (73 : Int32))), (.int (pk p1 l2 (7 : Int32) (78 : Int32)))] (.int (0 : Int32)))
      have N59 := Fr.snoc X59 N58 g_b51
      refine go st59 ?_
      show Run p e below _ (T59.setTop (mkF m 192 #[.val (.int p0), .val (.int p1), .val (.long l2), .second, .val (.int ((p0 &&& (2147483647 : Int32)) % (3 : Int32))), .val (.ref kd), .val (.int (pk p1 l2 (0 : Int32) (86 : Int32))), .val (.int (pk p1 l2 (1 : Int32) (79 : Int32))), .val (.int (pk p1 l2 (2 : Int32) (95 : Int32))), .val (.int (pk p1 l2 (3 : Int32) (65 : Int32))), .val (.int (pk p1 l2 (4 : Int32) (68 : Int32))), .val (.int (pk p1 l2 (5 : Int32) (77 : Int32))), .val (.int (pk p1 l2 (6 : Int32) (73 : Int32))), .val (.int (pk p1 l2 (7 : Int32) (78 : Int32))), .val (.int ((((p1.toUInt32 >>> ((10 : Int32) &&& 31).toUInt32).toInt32) &&& (255 : Int32)).toUInt32.toUInt16.toUInt32.toInt32)), .val (.int (((p1.toUInt32 >>> ((8 : Int32) &&& 31).toUInt32).toInt32) &&& (3 : Int32))), .unset, .unset, .unset] [(.ref b51), (.ref b50), (.ref b50)]))
      refine callSpK X59 hx hZ rfl hown (wd hw 13 rfl) (wd hw 14 rfl) (wd hw 15 rfl) (by decide) e59 (a := b50) (argsL := [(.ref b51)]) (rest := [(.ref b50)]) (W := 1) (payNew (s := s.setVm s.vm) (n := 8) (cs := [(pk p1 l2 (0 : Int32) (86 : Int32)), (pk p1 l2 (1 : Int32) (79 : Int32)), (pk p1 l2 (2 : Int32) (95 : Int32)), (pk p1 l2 (3 : Int32) (65 : Int32)), (pk p1 l2 (4 : Int32) (68 : Int32)), (pk p1 l2 (5 : Int32) (77 : Int32)), (pk p1 l2 (6 : Int32) (73 : Int32)), (pk p1 l2 (7 : Int32) (78 : Int32))]) hZ hw (wd hw 10 rfl) O0 g_b50 E_b50 F_value_b50 F_coder_b50 V_b51 S_COMPACT_STRINGS hzc rfl rfl (by decide) (by decide) (In8.cons (pk_in p1 l2 (0 : Int32) (86 : Int32) (by decide)) (In8.cons (pk_in p1 l2 (1 : Int32) (79 : Int32) (by decide)) (In8.cons (pk_in p1 l2 (2 : Int32) (95 : Int32) (by decide)) (In8.cons (pk_in p1 l2 (3 : Int32) (65 : Int32) (by decide)) (In8.cons (pk_in p1 l2 (4 : Int32) (68 : Int32) (by decide)) (In8.cons (pk_in p1 l2 (5 : Int32) (77 : Int32) (by decide)) (In8.cons (pk_in p1 l2 (6 : Int32) (73 : Int32) (by decide)) (In8.cons (pk_in p1 l2 (7 : Int32) (78 : Int32) (by decide)) In8.nil)))))))) (by decide) (by decide)) (by decide) (by decide) (by rw [hml]; rfl) (lenOf pd_4 rfl) rfl (Nat.le_of_eq rfl) (hb hby at_192) ?_
      intro v60 T60 L60 h60 X60 e60 q60
      have lt61_b50 := E_b50.lt
      have lt61_b51 := V_b51.lt
      obtain ⟨rfl, n60, K60, t60, kb60, gt60, sb60, nt60, T_b50⟩ := q60
      have ne_b50_t60 : b50 ≠ t60 := Nat.ne_of_lt (Nat.lt_of_lt_of_le lt61_b50 sb60)
      have ne_b51_t60 : b51 ≠ t60 := Nat.ne_of_lt (Nat.lt_of_lt_of_le lt61_b51 sb60)
      have CHo := CH
      have SF_b50o := SF_b50
      have SF_b51o := SF_b51
      have hk := Nat.le_trans hk K60.1
      have O0 := O0.keep K60 (allS g_b50 all0)
      have SF_b50 := Safe.keep K60 (allS SF_b50o all0) CHo.1 SF_b50o
      have SF_b51 := Safe.keep K60 (allS SF_b50o all0) CHo.1 SF_b51o
      have CH := CHo.trans (CHr.keep K60 (allS SF_b50o all0) CHo.1)
      have V_b51 := V_b51.keep K60 (ninS (Ne.symm ne_b50_b51) nin0)
      have N60 := Fr.app N59 n60
      show Run p e below _ (T60.setTop (mkF m 195 #[.val (.int p0), .val (.int p1), .val (.long l2), .second, .val (.int ((p0 &&& (2147483647 : Int32)) % (3 : Int32))), .val (.ref kd), .val (.int (pk p1 l2 (0 : Int32) (86 : Int32))), .val (.int (pk p1 l2 (1 : Int32) (79 : Int32))), .val (.int (pk p1 l2 (2 : Int32) (95 : Int32))), .val (.int (pk p1 l2 (3 : Int32) (65 : Int32))), .val (.int (pk p1 l2 (4 : Int32) (68 : Int32))), .val (.int (pk p1 l2 (5 : Int32) (77 : Int32))), .val (.int (pk p1 l2 (6 : Int32) (73 : Int32))), .val (.int (pk p1 l2 (7 : Int32) (78 : Int32))), .val (.int ((((p1.toUInt32 >>> ((10 : Int32) &&& 31).toUInt32).toInt32) &&& (255 : Int32)).toUInt32.toUInt16.toUInt32.toInt32)), .val (.int (((p1.toUInt32 >>> ((8 : Int32) &&& 31).toUInt32).toInt32) &&& (3 : Int32))), .unset, .unset, .unset] [(.ref b50)]))
      refine go (fun _ => XS.astore X60.here hx rfl (hb hby at_195) rfl rfl (l' := #[.val (.int p0), .val (.int p1), .val (.long l2), .second, .val (.int ((p0 &&& (2147483647 : Int32)) % (3 : Int32))), .val (.ref kd), .val (.int (pk p1 l2 (0 : Int32) (86 : Int32))), .val (.int (pk p1 l2 (1 : Int32) (79 : Int32))), .val (.int (pk p1 l2 (2 : Int32) (95 : Int32))), .val (.int (pk p1 l2 (3 : Int32) (65 : Int32))), .val (.int (pk p1 l2 (4 : Int32) (68 : Int32))), .val (.int (pk p1 l2 (5 : Int32) (77 : Int32))), .val (.int (pk p1 l2 (6 : Int32) (73 : Int32))), .val (.int (pk p1 l2 (7 : Int32) (78 : Int32))), .val (.int ((((p1.toUInt32 >>> ((10 : Int32) &&& 31).toUInt32).toInt32) &&& (255 : Int32)).toUInt32.toUInt16.toUInt32.toInt32)), .val (.int (((p1.toUInt32 >>> ((8 : Int32) &&& 31).toUInt32).toInt32) &&& (3 : Int32))), .val (.ref b50), .unset, .unset]) rfl) ?_
      show Run p e below _ (T60.setTop (mkF m 197 #[.val (.int p0), .val (.int p1), .val (.long l2), .second, .val (.int ((p0 &&& (2147483647 : Int32)) % (3 : Int32))), .val (.ref kd), .val (.int (pk p1 l2 (0 : Int32) (86 : Int32))), .val (.int (pk p1 l2 (1 : Int32) (79 : Int32))), .val (.int (pk p1 l2 (2 : Int32) (95 : Int32))), .val (.int (pk p1 l2 (3 : Int32) (65 : Int32))), .val (.int (pk p1 l2 (4 : Int32) (68 : Int32))), .val (.int (pk p1 l2 (5 : Int32) (77 : Int32))), .val (.int (pk p1 l2 (6 : Int32) (73 : Int32))), .val (.int (pk p1 l2 (7 : Int32) (78 : Int32))), .val (.int ((((p1.toUInt32 >>> ((10 : Int32) &&& 31).toUInt32).toInt32) &&& (255 : Int32)).toUInt32.toUInt16.toUInt32.toInt32)), .val (.int (((p1.toUInt32 >>> ((8 : Int32) &&& 31).toUInt32).toInt32) &&& (3 : Int32))), .val (.ref b50), .unset, .unset] []))
      refine go (fun _ => XS.goto X60.here hx rfl (pc0 := 197) (pc' := 340) rfl (hb hby at_197) (by decide) (by decide)) ?_
      show Run p e below _ (T60.setTop (mkF m 340 #[.val (.int p0), .val (.int p1), .val (.long l2), .second, .val (.int ((p0 &&& (2147483647 : Int32)) % (3 : Int32))), .val (.ref kd), .val (.int (pk p1 l2 (0 : Int32) (86 : Int32))), .val (.int (pk p1 l2 (1 : Int32) (79 : Int32))), .val (.int (pk p1 l2 (2 : Int32) (95 : Int32))), .val (.int (pk p1 l2 (3 : Int32) (65 : Int32))), .val (.int (pk p1 l2 (4 : Int32) (68 : Int32))), .val (.int (pk p1 l2 (5 : Int32) (77 : Int32))), .val (.int (pk p1 l2 (6 : Int32) (73 : Int32))), .val (.int (pk p1 l2 (7 : Int32) (78 : Int32))), .val (.int ((((p1.toUInt32 >>> ((10 : Int32) &&& 31).toUInt32).toInt32) &&& (255 : Int32)).toUInt32.toUInt16.toUInt32.toInt32)), .val (.int (((p1.toUInt32 >>> ((8 : Int32) &&& 31).toUInt32).toInt32) &&& (3 : Int32))), .val (.ref b50), .unset, .unset] []))
      exact J340 _ _ _ _ _ (smono X60 (by decide) (by decide)) e60 N60 hZ hown hS hk CH b50 t60 kb60 [(pk p1 l2 (0 : Int32) (86 : Int32)), (pk p1 l2 (1 : Int32) (79 : Int32)), (pk p1 l2 (2 : Int32) (95 : Int32)), (pk p1 l2 (3 : Int32) (65 : Int32)), (pk p1 l2 (4 : Int32) (68 : Int32)), (pk p1 l2 (5 : Int32) (77 : Int32)), (pk p1 l2 (6 : Int32) (73 : Int32)), (pk p1 l2 (7 : Int32) (78 : Int32))] O0 T_b50 (In8.cons (pk_in p1 l2 (0 : Int32) (86 : Int32) (by decide)) (In8.cons (pk_in p1 l2 (1 : Int32) (79 : Int32) (by decide)) (In8.cons (pk_in p1 l2 (2 : Int32) (95 : Int32) (by decide)) (In8.cons (pk_in p1 l2 (3 : Int32) (65 : Int32) (by decide)) (In8.cons (pk_in p1 l2 (4 : Int32) (68 : Int32) (by decide)) (In8.cons (pk_in p1 l2 (5 : Int32) (77 : Int32) (by decide)) (In8.cons (pk_in p1 l2 (6 : Int32) (73 : Int32) (by decide)) (In8.cons (pk_in p1 l2 (7 : Int32) (78 : Int32) (by decide)) In8.nil)))))))) (by simp) (fun _ => rfl) (fun q => absurd c49 q)
    · skip
      refine go (fun _ => XS.ifYes X28.here hx rfl (pc0 := 139) (pc' := 200) rfl (hb hby at_139) rfl ((if0 _ _).trans (feq c49).2) (by decide) (by decide)) ?_
      show Run p e below _ (T28.setTop (mkF m 200 #[.val (.int p0), .val (.int p1), .val (.long l2), .second, .val (.int ((p0 &&& (2147483647 : Int32)) % (3 : Int32))), .val (.ref kd), .val (.int (pk p1 l2 (0 : Int32) (86 : Int32))), .val (.int (pk p1 l2 (1 : Int32) (79 : Int32))), .val (.int (pk p1 l2 (2 : Int32) (95 : Int32))), .val (.int (pk p1 l2 (3 : Int32) (65 : Int32))), .val (.int (pk p1 l2 (4 : Int32) (68 : Int32))), .val (.int (pk p1 l2 (5 : Int32) (77 : Int32))), .val (.int (pk p1 l2 (6 : Int32) (73 : Int32))), .val (.int (pk p1 l2 (7 : Int32) (78 : Int32))), .val (.int ((((p1.toUInt32 >>> ((10 : Int32) &&& 31).toUInt32).toInt32) &&& (255 : Int32)).toUInt32.toUInt16.toUInt32.toInt32)), .val (.int (((p1.toUInt32 >>> ((8 : Int32) &&& 31).toUInt32).toInt32) &&& (3 : Int32))), .unset, .unset, .unset] []))
      refine go (fun _ => XS.iload X28.here hx rfl (hb hby at_200) rfl) ?_
      show Run p e below _ (T28.setTop (mkF m 202 #[.val (.int p0), .val (.int p1), .val (.long l2), .second, .val (.int ((p0 &&& (2147483647 : Int32)) % (3 : Int32))), .val (.ref kd), .val (.int (pk p1 l2 (0 : Int32) (86 : Int32))), .val (.int (pk p1 l2 (1 : Int32) (79 : Int32))), .val (.int (pk p1 l2 (2 : Int32) (95 : Int32))), .val (.int (pk p1 l2 (3 : Int32) (65 : Int32))), .val (.int (pk p1 l2 (4 : Int32) (68 : Int32))), .val (.int (pk p1 l2 (5 : Int32) (77 : Int32))), .val (.int (pk p1 l2 (6 : Int32) (73 : Int32))), .val (.int (pk p1 l2 (7 : Int32) (78 : Int32))), .val (.int ((((p1.toUInt32 >>> ((10 : Int32) &&& 31).toUInt32).toInt32) &&& (255 : Int32)).toUInt32.toUInt16.toUInt32.toInt32)), .val (.int (((p1.toUInt32 >>> ((8 : Int32) &&& 31).toUInt32).toInt32) &&& (3 : Int32))), .unset, .unset, .unset] [(.int (((p1.toUInt32 >>> ((8 : Int32) &&& 31).toUInt32).toInt32) &&& (3 : Int32)))]))
      refine go (fun _ => XS.iconst X28.here hx rfl (hb hby at_202)) ?_
      show Run p e below _ (T28.setTop (mkF m 203 #[.val (.int p0), .val (.int p1), .val (.long l2), .second, .val (.int ((p0 &&& (2147483647 : Int32)) % (3 : Int32))), .val (.ref kd), .val (.int (pk p1 l2 (0 : Int32) (86 : Int32))), .val (.int (pk p1 l2 (1 : Int32) (79 : Int32))), .val (.int (pk p1 l2 (2 : Int32) (95 : Int32))), .val (.int (pk p1 l2 (3 : Int32) (65 : Int32))), .val (.int (pk p1 l2 (4 : Int32) (68 : Int32))), .val (.int (pk p1 l2 (5 : Int32) (77 : Int32))), .val (.int (pk p1 l2 (6 : Int32) (73 : Int32))), .val (.int (pk p1 l2 (7 : Int32) (78 : Int32))), .val (.int ((((p1.toUInt32 >>> ((10 : Int32) &&& 31).toUInt32).toInt32) &&& (255 : Int32)).toUInt32.toUInt16.toUInt32.toInt32)), .val (.int (((p1.toUInt32 >>> ((8 : Int32) &&& 31).toUInt32).toInt32) &&& (3 : Int32))), .unset, .unset, .unset] [(.int (1 : Int32)), (.int (((p1.toUInt32 >>> ((8 : Int32) &&& 31).toUInt32).toInt32) &&& (3 : Int32)))]))
      by_cases c62 : (((p1.toUInt32 >>> ((8 : Int32) &&& 31).toUInt32).toInt32) &&& (3 : Int32)) = (1 : Int32)
      · skip
        refine go (fun _ => XS.icmpNo X28.here hx rfl (hb hby at_203) rfl (teq c62).2) ?_
        show Run p e below _ (T28.setTop (mkF m 206 #[.val (.int p0), .val (.int p1), .val (.long l2), .second, .val (.int ((p0 &&& (2147483647 : Int32)) % (3 : Int32))), .val (.ref kd), .val (.int (pk p1 l2 (0 : Int32) (86 : Int32))), .val (.int (pk p1 l2 (1 : Int32) (79 : Int32))), .val (.int (pk p1 l2 (2 : Int32) (95 : Int32))), .val (.int (pk p1 l2 (3 : Int32) (65 : Int32))), .val (.int (pk p1 l2 (4 : Int32) (68 : Int32))), .val (.int (pk p1 l2 (5 : Int32) (77 : Int32))), .val (.int (pk p1 l2 (6 : Int32) (73 : Int32))), .val (.int (pk p1 l2 (7 : Int32) (78 : Int32))), .val (.int ((((p1.toUInt32 >>> ((10 : Int32) &&& 31).toUInt32).toInt32) &&& (255 : Int32)).toUInt32.toUInt16.toUInt32.toInt32)), .val (.int (((p1.toUInt32 >>> ((8 : Int32) &&& 31).toUInt32).toInt32) &&& (3 : Int32))), .unset, .unset, .unset] []))
        obtain ⟨T63, h63, X63, e63, E63, A63, D63, -, st63⟩ := newO X28 hx hZ hown (wd hw 9 rfl) (wd hw 10 rfl) (wd hw 11 rfl) e28 (g := (mkF m 206 #[.val (.int p0), .val (.int p1), .val (.long l2), .second, .val (.int ((p0 &&& (2147483647 : Int32)) % (3 : Int32))), .val (.ref kd), .val (.int (pk p1 l2 (0 : Int32) (86 : Int32))), .val (.int (pk p1 l2 (1 : Int32) (79 : Int32))), .val (.int (pk p1 l2 (2 : Int32) (95 : Int32))), .val (.int (pk p1 l2 (3 : Int32) (65 : Int32))), .val (.int (pk p1 l2 (4 : Int32) (68 : Int32))), .val (.int (pk p1 l2 (5 : Int32) (77 : Int32))), .val (.int (pk p1 l2 (6 : Int32) (73 : Int32))), .val (.int (pk p1 l2 (7 : Int32) (78 : Int32))), .val (.int ((((p1.toUInt32 >>> ((10 : Int32) &&& 31).toUInt32).toInt32) &&& (255 : Int32)).toUInt32.toUInt16.toUInt32.toInt32)), .val (.int (((p1.toUInt32 >>> ((8 : Int32) &&& 31).toUInt32).toInt32) &&& (3 : Int32))), .unset, .unset, .unset] [])) rfl (hb hby at_206) (by decide) (by decide)
        obtain ⟨b63, y63⟩ : ∃ z, z = h0.size := ⟨_, rfl⟩
        rw [← y63] at A63 D63 st63
        have g_b63 : n0 ≤ b63 := y63.symm ▸ old_sz O0
        have SF_b63 : Safe Z consts_1 s.vm h0 b63 := Safe.new (Nat.le_of_eq y63.symm)
        have CHo := CH
        have SF_b63o := SF_b63
        have hk := Nat.le_trans hk E63.1
        have O0 := O0.ext E63
        have SF_b63 := Safe.ext E63 CHo.1 SF_b63o
        have CH := CHo.trans (CHr.ext E63 CHo.1)
        have E_b63 := A63
        have F_coder_b63 : Fld Z h63 b63 "java/lang/String" "coder" "B" (.int (0 : Int32)) := D63 (Or.inr (wd hw 36 rfl)) (ty := .byte) (by decide)
        have F_value_b63 : Fld Z h63 b63 "java/lang/String" "value" "[B" .null := D63 (Or.inr (wd hw 38 rfl)) (ty := (.array .byte)) (by decide)
        refine go st63 ?_
        show Run p e below _ (T63.setTop (mkF m 209 #[.val (.int p0), .val (.int p1), .val (.long l2), .second, .val (.int ((p0 &&& (2147483647 : Int32)) % (3 : Int32))), .val (.ref kd), .val (.int (pk p1 l2 (0 : Int32) (86 : Int32))), .val (.int (pk p1 l2 (1 : Int32) (79 : Int32))), .val (.int (pk p1 l2 (2 : Int32) (95 : Int32))), .val (.int (pk p1 l2 (3 : Int32) (65 : Int32))), .val (.int (pk p1 l2 (4 : Int32) (68 : Int32))), .val (.int (pk p1 l2 (5 : Int32) (77 : Int32))), .val (.int (pk p1 l2 (6 : Int32) (73 : Int32))), .val (.int (pk p1 l2 (7 : Int32) (78 : Int32))), .val (.int ((((p1.toUInt32 >>> ((10 : Int32) &&& 31).toUInt32).toInt32) &&& (255 : Int32)).toUInt32.toUInt16.toUInt32.toInt32)), .val (.int (((p1.toUInt32 >>> ((8 : Int32) &&& 31).toUInt32).toInt32) &&& (3 : Int32))), .unset, .unset, .unset] [(.ref b63)]))
        refine go (fun _ => XS.dup X63.here hx rfl (hb hby at_209) rfl rfl) ?_
        show Run p e below _ (T63.setTop (mkF m 210 #[.val (.int p0), .val (.int p1), .val (.long l2), .second, .val (.int ((p0 &&& (2147483647 : Int32)) % (3 : Int32))), .val (.ref kd), .val (.int (pk p1 l2 (0 : Int32) (86 : Int32))), .val (.int (pk p1 l2 (1 : Int32) (79 : Int32))), .val (.int (pk p1 l2 (2 : Int32) (95 : Int32))), .val (.int (pk p1 l2 (3 : Int32) (65 : Int32))), .val (.int (pk p1 l2 (4 : Int32) (68 : Int32))), .val (.int (pk p1 l2 (5 : Int32) (77 : Int32))), .val (.int (pk p1 l2 (6 : Int32) (73 : Int32))), .val (.int (pk p1 l2 (7 : Int32) (78 : Int32))), .val (.int ((((p1.toUInt32 >>> ((10 : Int32) &&& 31).toUInt32).toInt32) &&& (255 : Int32)).toUInt32.toUInt16.toUInt32.toInt32)), .val (.int (((p1.toUInt32 >>> ((8 : Int32) &&& 31).toUInt32).toInt32) &&& (3 : Int32))), .unset, .unset, .unset] [(.ref b63), (.ref b63)]))
        refine go (fun _ => XS.bipush X63.here hx rfl (hb hby at_210)) ?_
        show Run p e below _ (T63.setTop (mkF m 212 #[.val (.int p0), .val (.int p1), .val (.long l2), .second, .val (.int ((p0 &&& (2147483647 : Int32)) % (3 : Int32))), .val (.ref kd), .val (.int (pk p1 l2 (0 : Int32) (86 : Int32))), .val (.int (pk p1 l2 (1 : Int32) (79 : Int32))), .val (.int (pk p1 l2 (2 : Int32) (95 : Int32))), .val (.int (pk p1 l2 (3 : Int32) (65 : Int32))), .val (.int (pk p1 l2 (4 : Int32) (68 : Int32))), .val (.int (pk p1 l2 (5 : Int32) (77 : Int32))), .val (.int (pk p1 l2 (6 : Int32) (73 : Int32))), .val (.int (pk p1 l2 (7 : Int32) (78 : Int32))), .val (.int ((((p1.toUInt32 >>> ((10 : Int32) &&& 31).toUInt32).toInt32) &&& (255 : Int32)).toUInt32.toUInt16.toUInt32.toInt32)), .val (.int (((p1.toUInt32 >>> ((8 : Int32) &&& 31).toUInt32).toInt32) &&& (3 : Int32))), .unset, .unset, .unset] [(.int (7 : Int32)), (.ref b63), (.ref b63)]))
        obtain ⟨T64, h64, k64, X64, e64, E64, A64, st64⟩ := newP X63 hx hZ (wd hw 12 rfl) e63 (g := (mkF m 212 #[.val (.int p0), .val (.int p1), .val (.long l2), .second, .val (.int ((p0 &&& (2147483647 : Int32)) % (3 : Int32))), .val (.ref kd), .val (.int (pk p1 l2 (0 : Int32) (86 : Int32))), .val (.int (pk p1 l2 (1 : Int32) (79 : Int32))), .val (.int (pk p1 l2 (2 : Int32) (95 : Int32))), .val (.int (pk p1 l2 (3 : Int32) (65 : Int32))), .val (.int (pk p1 l2 (4 : Int32) (68 : Int32))), .val (.int (pk p1 l2 (5 : Int32) (77 : Int32))), .val (.int (pk p1 l2 (6 : Int32) (73 : Int32))), .val (.int (pk p1 l2 (7 : Int32) (78 : Int32))), .val (.int ((((p1.toUInt32 >>> ((10 : Int32) &&& 31).toUInt32).toInt32) &&& (255 : Int32)).toUInt32.toUInt16.toUInt32.toInt32)), .val (.int (((p1.toUInt32 >>> ((8 : Int32) &&& 31).toUInt32).toInt32) &&& (3 : Int32))), .unset, .unset, .unset] [(.int (7 : Int32)), (.ref b63), (.ref b63)])) rfl (hb hby at_212) rfl (by decide) (cap := 7) (by decide) (by decide) (by decide) (by decide)
        obtain ⟨b64, y64⟩ : ∃ z, z = h63.size := ⟨_, rfl⟩
        rw [← y64] at A64 st64
        have g_b64 : n0 ≤ b64 := y64.symm ▸ old_sz O0
        have SF_b64 : Safe Z consts_1 s.vm h63 b64 := Safe.new (Nat.le_of_eq y64.symm)
        have ne_b63_b64 : b63 ≠ b64 := Nat.ne_of_lt (y64.symm ▸ E_b63.lt)
        have CHo := CH
        have SF_b63o := SF_b63
        have SF_b64o := SF_b64
        have hk := Nat.le_trans hk E64.1
        have O0 := O0.ext E64
        have SF_b63 := Safe.ext E64 CHo.1 SF_b63o
        have E_b63 := E_b63.ext E64
        have F_coder_b63 := F_coder_b63.ext E64
        have F_value_b63 := F_value_b63.ext E64
        have SF_b64 := Safe.ext E64 CHo.1 SF_b64o
        have CH := CHo.trans (CHr.ext E64 CHo.1)
        have V_b64 : Arv Z h64 b64 k64 .char (7 : Int32) [(.int (0 : Int32)), (.int (0 : Int32)), (.int (0 : Int32)), (.int (0 : Int32)), (.int (0 : Int32)), (.int (0 : Int32)), (.int (0 : Int32))] (.int (0 : Int32)) := (Arv.new A64 (by decide)).pad (pad_rep [] (.int (0 : Int32)) 7)
        refine go st64 ?_
        show Run p e below _ (T64.setTop (mkF m 214 #[.val (.int p0), .val (.int p1), .val (.long l2), .second, .val (.int ((p0 &&& (2147483647 : Int32)) % (3 : Int32))), .val (.ref kd), .val (.int (pk p1 l2 (0 : Int32) (86 : Int32))), .val (.int (pk p1 l2 (1 : Int32) (79 : Int32))), .val (.int (pk p1 l2 (2 : Int32) (95 : Int32))), .val (.int (pk p1 l2 (3 : Int32) (65 : Int32))), .val (.int (pk p1 l2 (4 : Int32) (68 : Int32))), .val (.int (pk p1 l2 (5 : Int32) (77 : Int32))), .val (.int (pk p1 l2 (6 : Int32) (73 : Int32))), .val (.int (pk p1 l2 (7 : Int32) (78 : Int32))), .val (.int ((((p1.toUInt32 >>> ((10 : Int32) &&& 31).toUInt32).toInt32) &&& (255 : Int32)).toUInt32.toUInt16.toUInt32.toInt32)), .val (.int (((p1.toUInt32 >>> ((8 : Int32) &&& 31).toUInt32).toInt32) &&& (3 : Int32))), .unset, .unset, .unset] [(.ref b64), (.ref b63), (.ref b63)]))
        refine go (fun _ => XS.dup X64.here hx rfl (hb hby at_214) rfl rfl) ?_
        show Run p e below _ (T64.setTop (mkF m 215 #[.val (.int p0), .val (.int p1), .val (.long l2), .second, .val (.int ((p0 &&& (2147483647 : Int32)) % (3 : Int32))), .val (.ref kd), .val (.int (pk p1 l2 (0 : Int32) (86 : Int32))), .val (.int (pk p1 l2 (1 : Int32) (79 : Int32))), .val (.int (pk p1 l2 (2 : Int32) (95 : Int32))), .val (.int (pk p1 l2 (3 : Int32) (65 : Int32))), .val (.int (pk p1 l2 (4 : Int32) (68 : Int32))), .val (.int (pk p1 l2 (5 : Int32) (77 : Int32))), .val (.int (pk p1 l2 (6 : Int32) (73 : Int32))), .val (.int (pk p1 l2 (7 : Int32) (78 : Int32))), .val (.int ((((p1.toUInt32 >>> ((10 : Int32) &&& 31).toUInt32).toInt32) &&& (255 : Int32)).toUInt32.toUInt16.toUInt32.toInt32)), .val (.int (((p1.toUInt32 >>> ((8 : Int32) &&& 31).toUInt32).toInt32) &&& (3 : Int32))), .unset, .unset, .unset] [(.ref b64), (.ref b64), (.ref b63), (.ref b63)]))
        refine go (fun _ => XS.iconst X64.here hx rfl (hb hby at_215)) ?_
        show Run p e below _ (T64.setTop (mkF m 216 #[.val (.int p0), .val (.int p1), .val (.long l2), .second, .val (.int ((p0 &&& (2147483647 : Int32)) % (3 : Int32))), .val (.ref kd), .val (.int (pk p1 l2 (0 : Int32) (86 : Int32))), .val (.int (pk p1 l2 (1 : Int32) (79 : Int32))), .val (.int (pk p1 l2 (2 : Int32) (95 : Int32))), .val (.int (pk p1 l2 (3 : Int32) (65 : Int32))), .val (.int (pk p1 l2 (4 : Int32) (68 : Int32))), .val (.int (pk p1 l2 (5 : Int32) (77 : Int32))), .val (.int (pk p1 l2 (6 : Int32) (73 : Int32))), .val (.int (pk p1 l2 (7 : Int32) (78 : Int32))), .val (.int ((((p1.toUInt32 >>> ((10 : Int32) &&& 31).toUInt32).toInt32) &&& (255 : Int32)).toUInt32.toUInt16.toUInt32.toInt32)), .val (.int (((p1.toUInt32 >>> ((8 : Int32) &&& 31).toUInt32).toInt32) &&& (3 : Int32))), .unset, .unset, .unset] [(.int (0 : Int32)), (.ref b64), (.ref b64), (.ref b63), (.ref b63)]))
        refine go (fun _ => XS.iload X64.here hx rfl (hb hby at_216) rfl) ?_
        show Run p e below _ (T64.setTop (mkF m 218 #[.val (.int p0), .val (.int p1), .val (.long l2), .second, .val (.int ((p0 &&& (2147483647 : Int32)) % (3 : Int32))), .val (.ref kd), .val (.int (pk p1 l2 (0 : Int32) (86 : Int32))), .val (.int (pk p1 l2 (1 : Int32) (79 : Int32))), .val (.int (pk p1 l2 (2 : Int32) (95 : Int32))), .val (.int (pk p1 l2 (3 : Int32) (65 : Int32))), .val (.int (pk p1 l2 (4 : Int32) (68 : Int32))), .val (.int (pk p1 l2 (5 : Int32) (77 : Int32))), .val (.int (pk p1 l2 (6 : Int32) (73 : Int32))), .val (.int (pk p1 l2 (7 : Int32) (78 : Int32))), .val (.int ((((p1.toUInt32 >>> ((10 : Int32) &&& 31).toUInt32).toInt32) &&& (255 : Int32)).toUInt32.toUInt16.toUInt32.toInt32)), .val (.int (((p1.toUInt32 >>> ((8 : Int32) &&& 31).toUInt32).toInt32) &&& (3 : Int32))), .unset, .unset, .unset] [(.int (pk p1 l2 (0 : Int32) (86 : Int32))), (.int (0 : Int32)), (.ref b64), (.ref b64), (.ref b63), (.ref b63)]))
        obtain ⟨cl65, Ar65, ak65, as65, an65, ah65, ag65⟩ := id V_b64
        have hin65 := inb_of as65 (j := (0 : Int32)) ⟨by decide, by decide⟩
        obtain ⟨T65, h65, X65, e65, W65, st65⟩ := stC X64 hx hZ e64 Ar65 (j := (0 : Int32)) hin65 (g := (mkF m 218 #[.val (.int p0), .val (.int p1), .val (.long l2), .second, .val (.int ((p0 &&& (2147483647 : Int32)) % (3 : Int32))), .val (.ref kd), .val (.int (pk p1 l2 (0 : Int32) (86 : Int32))), .val (.int (pk p1 l2 (1 : Int32) (79 : Int32))), .val (.int (pk p1 l2 (2 : Int32) (95 : Int32))), .val (.int (pk p1 l2 (3 : Int32) (65 : Int32))), .val (.int (pk p1 l2 (4 : Int32) (68 : Int32))), .val (.int (pk p1 l2 (5 : Int32) (77 : Int32))), .val (.int (pk p1 l2 (6 : Int32) (73 : Int32))), .val (.int (pk p1 l2 (7 : Int32) (78 : Int32))), .val (.int ((((p1.toUInt32 >>> ((10 : Int32) &&& 31).toUInt32).toInt32) &&& (255 : Int32)).toUInt32.toUInt16.toUInt32.toInt32)), .val (.int (((p1.toUInt32 >>> ((8 : Int32) &&& 31).toUInt32).toInt32) &&& (3 : Int32))), .unset, .unset, .unset] [(.int (pk p1 l2 (0 : Int32) (86 : Int32))), (.int (0 : Int32)), (.ref b64), (.ref b64), (.ref b63), (.ref b63)])) rfl rfl (hb hby at_218)
        have W65' : Wr _ _ _ _ (.int (pk p1 l2 (0 : Int32) (86 : Int32))) := (pk_nc p1 l2 (0 : Int32) (86 : Int32) (by decide)) ▸ W65
        have CHo := CH
        have SF_b63o := SF_b63
        have SF_b64o := SF_b64
        have hk := Nat.le_trans hk (wr_sz W65')
        have SF_b63 := Safe.wr W65' SF_b64o CHo.1 SF_b63o
        have SF_b64 := Safe.wr W65' SF_b64o CHo.1 SF_b64o
        have CH := CHo.trans (CHr.wr W65' SF_b64o CHo.1)
        have O0 := O0.wr W65' g_b64
        have E_b63 := E_b63.wr W65'
        have F_coder_b63 := F_coder_b63.other W65' (Or.inl ne_b63_b64)
        have F_value_b63 := F_value_b63.other W65' (Or.inl ne_b63_b64)
        have V_b64 := (Arv.set Ar65 ak65 as65 an65 ah65 ag65 ((pk_nc p1 l2 (0 : Int32) (86 : Int32) (by decide)) ▸ (fits_nar_char _)) W65' 0 rfl (Nat.le_of_ble_eq_true rfl) : Arv Z h65 b64 k64 .char (7 : Int32) [(.int (pk p1 l2 (0 : Int32) (86 : Int32))), (.int (0 : Int32)), (.int (0 : Int32)), (.int (0 : Int32)), (.int (0 : Int32)), (.int (0 : Int32)), (.int (0 : Int32))] (.int (0 : Int32)))
        have N65 := Fr.snoc X65 N28 g_b64
        refine go st65 ?_
        show Run p e below _ (T65.setTop (mkF m 219 #[.val (.int p0), .val (.int p1), .val (.long l2), .second, .val (.int ((p0 &&& (2147483647 : Int32)) % (3 : Int32))), .val (.ref kd), .val (.int (pk p1 l2 (0 : Int32) (86 : Int32))), .val (.int (pk p1 l2 (1 : Int32) (79 : Int32))), .val (.int (pk p1 l2 (2 : Int32) (95 : Int32))), .val (.int (pk p1 l2 (3 : Int32) (65 : Int32))), .val (.int (pk p1 l2 (4 : Int32) (68 : Int32))), .val (.int (pk p1 l2 (5 : Int32) (77 : Int32))), .val (.int (pk p1 l2 (6 : Int32) (73 : Int32))), .val (.int (pk p1 l2 (7 : Int32) (78 : Int32))), .val (.int ((((p1.toUInt32 >>> ((10 : Int32) &&& 31).toUInt32).toInt32) &&& (255 : Int32)).toUInt32.toUInt16.toUInt32.toInt32)), .val (.int (((p1.toUInt32 >>> ((8 : Int32) &&& 31).toUInt32).toInt32) &&& (3 : Int32))), .unset, .unset, .unset] [(.ref b64), (.ref b63), (.ref b63)]))
        refine go (fun _ => XS.dup X65.here hx rfl (hb hby at_219) rfl rfl) ?_
        show Run p e below _ (T65.setTop (mkF m 220 #[.val (.int p0), .val (.int p1), .val (.long l2), .second, .val (.int ((p0 &&& (2147483647 : Int32)) % (3 : Int32))), .val (.ref kd), .val (.int (pk p1 l2 (0 : Int32) (86 : Int32))), .val (.int (pk p1 l2 (1 : Int32) (79 : Int32))), .val (.int (pk p1 l2 (2 : Int32) (95 : Int32))), .val (.int (pk p1 l2 (3 : Int32) (65 : Int32))), .val (.int (pk p1 l2 (4 : Int32) (68 : Int32))), .val (.int (pk p1 l2 (5 : Int32) (77 : Int32))), .val (.int (pk p1 l2 (6 : Int32) (73 : Int32))), .val (.int (pk p1 l2 (7 : Int32) (78 : Int32))), .val (.int ((((p1.toUInt32 >>> ((10 : Int32) &&& 31).toUInt32).toInt32) &&& (255 : Int32)).toUInt32.toUInt16.toUInt32.toInt32)), .val (.int (((p1.toUInt32 >>> ((8 : Int32) &&& 31).toUInt32).toInt32) &&& (3 : Int32))), .unset, .unset, .unset] [(.ref b64), (.ref b64), (.ref b63), (.ref b63)]))
        refine go (fun _ => XS.iconst X65.here hx rfl (hb hby at_220)) ?_
        show Run p e below _ (T65.setTop (mkF m 221 #[.val (.int p0), .val (.int p1), .val (.long l2), .second, .val (.int ((p0 &&& (2147483647 : Int32)) % (3 : Int32))), .val (.ref kd), .val (.int (pk p1 l2 (0 : Int32) (86 : Int32))), .val (.int (pk p1 l2 (1 : Int32) (79 : Int32))), .val (.int (pk p1 l2 (2 : Int32) (95 : Int32))), .val (.int (pk p1 l2 (3 : Int32) (65 : Int32))), .val (.int (pk p1 l2 (4 : Int32) (68 : Int32))), .val (.int (pk p1 l2 (5 : Int32) (77 : Int32))), .val (.int (pk p1 l2 (6 : Int32) (73 : Int32))), .val (.int (pk p1 l2 (7 : Int32) (78 : Int32))), .val (.int ((((p1.toUInt32 >>> ((10 : Int32) &&& 31).toUInt32).toInt32) &&& (255 : Int32)).toUInt32.toUInt16.toUInt32.toInt32)), .val (.int (((p1.toUInt32 >>> ((8 : Int32) &&& 31).toUInt32).toInt32) &&& (3 : Int32))), .unset, .unset, .unset] [(.int (1 : Int32)), (.ref b64), (.ref b64), (.ref b63), (.ref b63)]))
        refine go (fun _ => XS.iload X65.here hx rfl (hb hby at_221) rfl) ?_
        show Run p e below _ (T65.setTop (mkF m 223 #[.val (.int p0), .val (.int p1), .val (.long l2), .second, .val (.int ((p0 &&& (2147483647 : Int32)) % (3 : Int32))), .val (.ref kd), .val (.int (pk p1 l2 (0 : Int32) (86 : Int32))), .val (.int (pk p1 l2 (1 : Int32) (79 : Int32))), .val (.int (pk p1 l2 (2 : Int32) (95 : Int32))), .val (.int (pk p1 l2 (3 : Int32) (65 : Int32))), .val (.int (pk p1 l2 (4 : Int32) (68 : Int32))), .val (.int (pk p1 l2 (5 : Int32) (77 : Int32))), .val (.int (pk p1 l2 (6 : Int32) (73 : Int32))), .val (.int (pk p1 l2 (7 : Int32) (78 : Int32))), .val (.int ((((p1.toUInt32 >>> ((10 : Int32) &&& 31).toUInt32).toInt32) &&& (255 : Int32)).toUInt32.toUInt16.toUInt32.toInt32)), .val (.int (((p1.toUInt32 >>> ((8 : Int32) &&& 31).toUInt32).toInt32) &&& (3 : Int32))), .unset, .unset, .unset] [(.int (pk p1 l2 (1 : Int32) (79 : Int32))), (.int (1 : Int32)), (.ref b64), (.ref b64), (.ref b63), (.ref b63)]))
        obtain ⟨cl66, Ar66, ak66, as66, an66, ah66, ag66⟩ := id V_b64
        have hin66 := inb_of as66 (j := (1 : Int32)) ⟨by decide, by decide⟩
        obtain ⟨T66, h66, X66, e66, W66, st66⟩ := stC X65 hx hZ e65 Ar66 (j := (1 : Int32)) hin66 (g := (mkF m 223 #[.val (.int p0), .val (.int p1), .val (.long l2), .second, .val (.int ((p0 &&& (2147483647 : Int32)) % (3 : Int32))), .val (.ref kd), .val (.int (pk p1 l2 (0 : Int32) (86 : Int32))), .val (.int (pk p1 l2 (1 : Int32) (79 : Int32))), .val (.int (pk p1 l2 (2 : Int32) (95 : Int32))), .val (.int (pk p1 l2 (3 : Int32) (65 : Int32))), .val (.int (pk p1 l2 (4 : Int32) (68 : Int32))), .val (.int (pk p1 l2 (5 : Int32) (77 : Int32))), .val (.int (pk p1 l2 (6 : Int32) (73 : Int32))), .val (.int (pk p1 l2 (7 : Int32) (78 : Int32))), .val (.int ((((p1.toUInt32 >>> ((10 : Int32) &&& 31).toUInt32).toInt32) &&& (255 : Int32)).toUInt32.toUInt16.toUInt32.toInt32)), .val (.int (((p1.toUInt32 >>> ((8 : Int32) &&& 31).toUInt32).toInt32) &&& (3 : Int32))), .unset, .unset, .unset] [(.int (pk p1 l2 (1 : Int32) (79 : Int32))), (.int (1 : Int32)), (.ref b64), (.ref b64), (.ref b63), (.ref b63)])) rfl rfl (hb hby at_223)
        have W66' : Wr _ _ _ _ (.int (pk p1 l2 (1 : Int32) (79 : Int32))) := (pk_nc p1 l2 (1 : Int32) (79 : Int32) (by decide)) ▸ W66
        have CHo := CH
        have SF_b63o := SF_b63
        have SF_b64o := SF_b64
        have hk := Nat.le_trans hk (wr_sz W66')
        have SF_b63 := Safe.wr W66' SF_b64o CHo.1 SF_b63o
        have SF_b64 := Safe.wr W66' SF_b64o CHo.1 SF_b64o
        have CH := CHo.trans (CHr.wr W66' SF_b64o CHo.1)
        have O0 := O0.wr W66' g_b64
        have E_b63 := E_b63.wr W66'
        have F_coder_b63 := F_coder_b63.other W66' (Or.inl ne_b63_b64)
        have F_value_b63 := F_value_b63.other W66' (Or.inl ne_b63_b64)
        have V_b64 := (Arv.set Ar66 ak66 as66 an66 ah66 ag66 ((pk_nc p1 l2 (1 : Int32) (79 : Int32) (by decide)) ▸ (fits_nar_char _)) W66' 1 rfl (Nat.le_of_ble_eq_true rfl) : Arv Z h66 b64 k64 .char (7 : Int32) [(.int (pk p1 l2 (0 : Int32) (86 : Int32))), (.int (pk p1 l2 (1 : Int32) (79 : Int32))), (.int (0 : Int32)), (.int (0 : Int32)), (.int (0 : Int32)), (.int (0 : Int32)), (.int (0 : Int32))] (.int (0 : Int32)))
        have N66 := Fr.snoc X66 N65 g_b64
        refine go st66 ?_
        show Run p e below _ (T66.setTop (mkF m 224 #[.val (.int p0), .val (.int p1), .val (.long l2), .second, .val (.int ((p0 &&& (2147483647 : Int32)) % (3 : Int32))), .val (.ref kd), .val (.int (pk p1 l2 (0 : Int32) (86 : Int32))), .val (.int (pk p1 l2 (1 : Int32) (79 : Int32))), .val (.int (pk p1 l2 (2 : Int32) (95 : Int32))), .val (.int (pk p1 l2 (3 : Int32) (65 : Int32))), .val (.int (pk p1 l2 (4 : Int32) (68 : Int32))), .val (.int (pk p1 l2 (5 : Int32) (77 : Int32))), .val (.int (pk p1 l2 (6 : Int32) (73 : Int32))), .val (.int (pk p1 l2 (7 : Int32) (78 : Int32))), .val (.int ((((p1.toUInt32 >>> ((10 : Int32) &&& 31).toUInt32).toInt32) &&& (255 : Int32)).toUInt32.toUInt16.toUInt32.toInt32)), .val (.int (((p1.toUInt32 >>> ((8 : Int32) &&& 31).toUInt32).toInt32) &&& (3 : Int32))), .unset, .unset, .unset] [(.ref b64), (.ref b63), (.ref b63)]))
        refine go (fun _ => XS.dup X66.here hx rfl (hb hby at_224) rfl rfl) ?_
        show Run p e below _ (T66.setTop (mkF m 225 #[.val (.int p0), .val (.int p1), .val (.long l2), .second, .val (.int ((p0 &&& (2147483647 : Int32)) % (3 : Int32))), .val (.ref kd), .val (.int (pk p1 l2 (0 : Int32) (86 : Int32))), .val (.int (pk p1 l2 (1 : Int32) (79 : Int32))), .val (.int (pk p1 l2 (2 : Int32) (95 : Int32))), .val (.int (pk p1 l2 (3 : Int32) (65 : Int32))), .val (.int (pk p1 l2 (4 : Int32) (68 : Int32))), .val (.int (pk p1 l2 (5 : Int32) (77 : Int32))), .val (.int (pk p1 l2 (6 : Int32) (73 : Int32))), .val (.int (pk p1 l2 (7 : Int32) (78 : Int32))), .val (.int ((((p1.toUInt32 >>> ((10 : Int32) &&& 31).toUInt32).toInt32) &&& (255 : Int32)).toUInt32.toUInt16.toUInt32.toInt32)), .val (.int (((p1.toUInt32 >>> ((8 : Int32) &&& 31).toUInt32).toInt32) &&& (3 : Int32))), .unset, .unset, .unset] [(.ref b64), (.ref b64), (.ref b63), (.ref b63)]))
        refine go (fun _ => XS.iconst X66.here hx rfl (hb hby at_225)) ?_
        show Run p e below _ (T66.setTop (mkF m 226 #[.val (.int p0), .val (.int p1), .val (.long l2), .second, .val (.int ((p0 &&& (2147483647 : Int32)) % (3 : Int32))), .val (.ref kd), .val (.int (pk p1 l2 (0 : Int32) (86 : Int32))), .val (.int (pk p1 l2 (1 : Int32) (79 : Int32))), .val (.int (pk p1 l2 (2 : Int32) (95 : Int32))), .val (.int (pk p1 l2 (3 : Int32) (65 : Int32))), .val (.int (pk p1 l2 (4 : Int32) (68 : Int32))), .val (.int (pk p1 l2 (5 : Int32) (77 : Int32))), .val (.int (pk p1 l2 (6 : Int32) (73 : Int32))), .val (.int (pk p1 l2 (7 : Int32) (78 : Int32))), .val (.int ((((p1.toUInt32 >>> ((10 : Int32) &&& 31).toUInt32).toInt32) &&& (255 : Int32)).toUInt32.toUInt16.toUInt32.toInt32)), .val (.int (((p1.toUInt32 >>> ((8 : Int32) &&& 31).toUInt32).toInt32) &&& (3 : Int32))), .unset, .unset, .unset] [(.int (2 : Int32)), (.ref b64), (.ref b64), (.ref b63), (.ref b63)]))
        refine go (fun _ => XS.iload X66.here hx rfl (hb hby at_226) rfl) ?_
        show Run p e below _ (T66.setTop (mkF m 228 #[.val (.int p0), .val (.int p1), .val (.long l2), .second, .val (.int ((p0 &&& (2147483647 : Int32)) % (3 : Int32))), .val (.ref kd), .val (.int (pk p1 l2 (0 : Int32) (86 : Int32))), .val (.int (pk p1 l2 (1 : Int32) (79 : Int32))), .val (.int (pk p1 l2 (2 : Int32) (95 : Int32))), .val (.int (pk p1 l2 (3 : Int32) (65 : Int32))), .val (.int (pk p1 l2 (4 : Int32) (68 : Int32))), .val (.int (pk p1 l2 (5 : Int32) (77 : Int32))), .val (.int (pk p1 l2 (6 : Int32) (73 : Int32))), .val (.int (pk p1 l2 (7 : Int32) (78 : Int32))), .val (.int ((((p1.toUInt32 >>> ((10 : Int32) &&& 31).toUInt32).toInt32) &&& (255 : Int32)).toUInt32.toUInt16.toUInt32.toInt32)), .val (.int (((p1.toUInt32 >>> ((8 : Int32) &&& 31).toUInt32).toInt32) &&& (3 : Int32))), .unset, .unset, .unset] [(.int (pk p1 l2 (2 : Int32) (95 : Int32))), (.int (2 : Int32)), (.ref b64), (.ref b64), (.ref b63), (.ref b63)]))
        obtain ⟨cl67, Ar67, ak67, as67, an67, ah67, ag67⟩ := id V_b64
        have hin67 := inb_of as67 (j := (2 : Int32)) ⟨by decide, by decide⟩
        obtain ⟨T67, h67, X67, e67, W67, st67⟩ := stC X66 hx hZ e66 Ar67 (j := (2 : Int32)) hin67 (g := (mkF m 228 #[.val (.int p0), .val (.int p1), .val (.long l2), .second, .val (.int ((p0 &&& (2147483647 : Int32)) % (3 : Int32))), .val (.ref kd), .val (.int (pk p1 l2 (0 : Int32) (86 : Int32))), .val (.int (pk p1 l2 (1 : Int32) (79 : Int32))), .val (.int (pk p1 l2 (2 : Int32) (95 : Int32))), .val (.int (pk p1 l2 (3 : Int32) (65 : Int32))), .val (.int (pk p1 l2 (4 : Int32) (68 : Int32))), .val (.int (pk p1 l2 (5 : Int32) (77 : Int32))), .val (.int (pk p1 l2 (6 : Int32) (73 : Int32))), .val (.int (pk p1 l2 (7 : Int32) (78 : Int32))), .val (.int ((((p1.toUInt32 >>> ((10 : Int32) &&& 31).toUInt32).toInt32) &&& (255 : Int32)).toUInt32.toUInt16.toUInt32.toInt32)), .val (.int (((p1.toUInt32 >>> ((8 : Int32) &&& 31).toUInt32).toInt32) &&& (3 : Int32))), .unset, .unset, .unset] [(.int (pk p1 l2 (2 : Int32) (95 : Int32))), (.int (2 : Int32)), (.ref b64), (.ref b64), (.ref b63), (.ref b63)])) rfl rfl (hb hby at_228)
        have W67' : Wr _ _ _ _ (.int (pk p1 l2 (2 : Int32) (95 : Int32))) := (pk_nc p1 l2 (2 : Int32) (95 : Int32) (by decide)) ▸ W67
        have CHo := CH
        have SF_b63o := SF_b63
        have SF_b64o := SF_b64
        have hk := Nat.le_trans hk (wr_sz W67')
        have SF_b63 := Safe.wr W67' SF_b64o CHo.1 SF_b63o
        have SF_b64 := Safe.wr W67' SF_b64o CHo.1 SF_b64o
        have CH := CHo.trans (CHr.wr W67' SF_b64o CHo.1)
        have O0 := O0.wr W67' g_b64
        have E_b63 := E_b63.wr W67'
        have F_coder_b63 := F_coder_b63.other W67' (Or.inl ne_b63_b64)
        have F_value_b63 := F_value_b63.other W67' (Or.inl ne_b63_b64)
        have V_b64 := (Arv.set Ar67 ak67 as67 an67 ah67 ag67 ((pk_nc p1 l2 (2 : Int32) (95 : Int32) (by decide)) ▸ (fits_nar_char _)) W67' 2 rfl (Nat.le_of_ble_eq_true rfl) : Arv Z h67 b64 k64 .char (7 : Int32) [(.int (pk p1 l2 (0 : Int32) (86 : Int32))), (.int (pk p1 l2 (1 : Int32) (79 : Int32))), (.int (pk p1 l2 (2 : Int32) (95 : Int32))), (.int (0 : Int32)), (.int (0 : Int32)), (.int (0 : Int32)), (.int (0 : Int32))] (.int (0 : Int32)))
        have N67 := Fr.snoc X67 N66 g_b64
        refine go st67 ?_
        show Run p e below _ (T67.setTop (mkF m 229 #[.val (.int p0), .val (.int p1), .val (.long l2), .second, .val (.int ((p0 &&& (2147483647 : Int32)) % (3 : Int32))), .val (.ref kd), .val (.int (pk p1 l2 (0 : Int32) (86 : Int32))), .val (.int (pk p1 l2 (1 : Int32) (79 : Int32))), .val (.int (pk p1 l2 (2 : Int32) (95 : Int32))), .val (.int (pk p1 l2 (3 : Int32) (65 : Int32))), .val (.int (pk p1 l2 (4 : Int32) (68 : Int32))), .val (.int (pk p1 l2 (5 : Int32) (77 : Int32))), .val (.int (pk p1 l2 (6 : Int32) (73 : Int32))), .val (.int (pk p1 l2 (7 : Int32) (78 : Int32))), .val (.int ((((p1.toUInt32 >>> ((10 : Int32) &&& 31).toUInt32).toInt32) &&& (255 : Int32)).toUInt32.toUInt16.toUInt32.toInt32)), .val (.int (((p1.toUInt32 >>> ((8 : Int32) &&& 31).toUInt32).toInt32) &&& (3 : Int32))), .unset, .unset, .unset] [(.ref b64), (.ref b63), (.ref b63)]))
        refine go (fun _ => XS.dup X67.here hx rfl (hb hby at_229) rfl rfl) ?_
        show Run p e below _ (T67.setTop (mkF m 230 #[.val (.int p0), .val (.int p1), .val (.long l2), .second, .val (.int ((p0 &&& (2147483647 : Int32)) % (3 : Int32))), .val (.ref kd), .val (.int (pk p1 l2 (0 : Int32) (86 : Int32))), .val (.int (pk p1 l2 (1 : Int32) (79 : Int32))), .val (.int (pk p1 l2 (2 : Int32) (95 : Int32))), .val (.int (pk p1 l2 (3 : Int32) (65 : Int32))), .val (.int (pk p1 l2 (4 : Int32) (68 : Int32))), .val (.int (pk p1 l2 (5 : Int32) (77 : Int32))), .val (.int (pk p1 l2 (6 : Int32) (73 : Int32))), .val (.int (pk p1 l2 (7 : Int32) (78 : Int32))), .val (.int ((((p1.toUInt32 >>> ((10 : Int32) &&& 31).toUInt32).toInt32) &&& (255 : Int32)).toUInt32.toUInt16.toUInt32.toInt32)), .val (.int (((p1.toUInt32 >>> ((8 : Int32) &&& 31).toUInt32).toInt32) &&& (3 : Int32))), .unset, .unset, .unset] [(.ref b64), (.ref b64), (.ref b63), (.ref b63)]))
        refine go (fun _ => XS.iconst X67.here hx rfl (hb hby at_230)) ?_
        show Run p e below _ (T67.setTop (mkF m 231 #[.val (.int p0), .val (.int p1), .val (.long l2), .second, .val (.int ((p0 &&& (2147483647 : Int32)) % (3 : Int32))), .val (.ref kd), .val (.int (pk p1 l2 (0 : Int32) (86 : Int32))), .val (.int (pk p1 l2 (1 : Int32) (79 : Int32))), .val (.int (pk p1 l2 (2 : Int32) (95 : Int32))), .val (.int (pk p1 l2 (3 : Int32) (65 : Int32))), .val (.int (pk p1 l2 (4 : Int32) (68 : Int32))), .val (.int (pk p1 l2 (5 : Int32) (77 : Int32))), .val (.int (pk p1 l2 (6 : Int32) (73 : Int32))), .val (.int (pk p1 l2 (7 : Int32) (78 : Int32))), .val (.int ((((p1.toUInt32 >>> ((10 : Int32) &&& 31).toUInt32).toInt32) &&& (255 : Int32)).toUInt32.toUInt16.toUInt32.toInt32)), .val (.int (((p1.toUInt32 >>> ((8 : Int32) &&& 31).toUInt32).toInt32) &&& (3 : Int32))), .unset, .unset, .unset] [(.int (3 : Int32)), (.ref b64), (.ref b64), (.ref b63), (.ref b63)]))
        refine go (fun _ => XS.iload X67.here hx rfl (hb hby at_231) rfl) ?_
        show Run p e below _ (T67.setTop (mkF m 233 #[.val (.int p0), .val (.int p1), .val (.long l2), .second, .val (.int ((p0 &&& (2147483647 : Int32)) % (3 : Int32))), .val (.ref kd), .val (.int (pk p1 l2 (0 : Int32) (86 : Int32))), .val (.int (pk p1 l2 (1 : Int32) (79 : Int32))), .val (.int (pk p1 l2 (2 : Int32) (95 : Int32))), .val (.int (pk p1 l2 (3 : Int32) (65 : Int32))), .val (.int (pk p1 l2 (4 : Int32) (68 : Int32))), .val (.int (pk p1 l2 (5 : Int32) (77 : Int32))), .val (.int (pk p1 l2 (6 : Int32) (73 : Int32))), .val (.int (pk p1 l2 (7 : Int32) (78 : Int32))), .val (.int ((((p1.toUInt32 >>> ((10 : Int32) &&& 31).toUInt32).toInt32) &&& (255 : Int32)).toUInt32.toUInt16.toUInt32.toInt32)), .val (.int (((p1.toUInt32 >>> ((8 : Int32) &&& 31).toUInt32).toInt32) &&& (3 : Int32))), .unset, .unset, .unset] [(.int (pk p1 l2 (3 : Int32) (65 : Int32))), (.int (3 : Int32)), (.ref b64), (.ref b64), (.ref b63), (.ref b63)]))
        obtain ⟨cl68, Ar68, ak68, as68, an68, ah68, ag68⟩ := id V_b64
        have hin68 := inb_of as68 (j := (3 : Int32)) ⟨by decide, by decide⟩
        obtain ⟨T68, h68, X68, e68, W68, st68⟩ := stC X67 hx hZ e67 Ar68 (j := (3 : Int32)) hin68 (g := (mkF m 233 #[.val (.int p0), .val (.int p1), .val (.long l2), .second, .val (.int ((p0 &&& (2147483647 : Int32)) % (3 : Int32))), .val (.ref kd), .val (.int (pk p1 l2 (0 : Int32) (86 : Int32))), .val (.int (pk p1 l2 (1 : Int32) (79 : Int32))), .val (.int (pk p1 l2 (2 : Int32) (95 : Int32))), .val (.int (pk p1 l2 (3 : Int32) (65 : Int32))), .val (.int (pk p1 l2 (4 : Int32) (68 : Int32))), .val (.int (pk p1 l2 (5 : Int32) (77 : Int32))), .val (.int (pk p1 l2 (6 : Int32) (73 : Int32))), .val (.int (pk p1 l2 (7 : Int32) (78 : Int32))), .val (.int ((((p1.toUInt32 >>> ((10 : Int32) &&& 31).toUInt32).toInt32) &&& (255 : Int32)).toUInt32.toUInt16.toUInt32.toInt32)), .val (.int (((p1.toUInt32 >>> ((8 : Int32) &&& 31).toUInt32).toInt32) &&& (3 : Int32))), .unset, .unset, .unset] [(.int (pk p1 l2 (3 : Int32) (65 : Int32))), (.int (3 : Int32)), (.ref b64), (.ref b64), (.ref b63), (.ref b63)])) rfl rfl (hb hby at_233)
        have W68' : Wr _ _ _ _ (.int (pk p1 l2 (3 : Int32) (65 : Int32))) := (pk_nc p1 l2 (3 : Int32) (65 : Int32) (by decide)) ▸ W68
        have CHo := CH
        have SF_b63o := SF_b63
        have SF_b64o := SF_b64
        have hk := Nat.le_trans hk (wr_sz W68')
        have SF_b63 := Safe.wr W68' SF_b64o CHo.1 SF_b63o
        have SF_b64 := Safe.wr W68' SF_b64o CHo.1 SF_b64o
        have CH := CHo.trans (CHr.wr W68' SF_b64o CHo.1)
        have O0 := O0.wr W68' g_b64
        have E_b63 := E_b63.wr W68'
        have F_coder_b63 := F_coder_b63.other W68' (Or.inl ne_b63_b64)
        have F_value_b63 := F_value_b63.other W68' (Or.inl ne_b63_b64)
        have V_b64 := (Arv.set Ar68 ak68 as68 an68 ah68 ag68 ((pk_nc p1 l2 (3 : Int32) (65 : Int32) (by decide)) ▸ (fits_nar_char _)) W68' 3 rfl (Nat.le_of_ble_eq_true rfl) : Arv Z h68 b64 k64 .char (7 : Int32) [(.int (pk p1 l2 (0 : Int32) (86 : Int32))), (.int (pk p1 l2 (1 : Int32) (79 : Int32))), (.int (pk p1 l2 (2 : Int32) (95 : Int32))), (.int (pk p1 l2 (3 : Int32) (65 : Int32))), (.int (0 : Int32)), (.int (0 : Int32)), (.int (0 : Int32))] (.int (0 : Int32)))
        have N68 := Fr.snoc X68 N67 g_b64
        refine go st68 ?_
        show Run p e below _ (T68.setTop (mkF m 234 #[.val (.int p0), .val (.int p1), .val (.long l2), .second, .val (.int ((p0 &&& (2147483647 : Int32)) % (3 : Int32))), .val (.ref kd), .val (.int (pk p1 l2 (0 : Int32) (86 : Int32))), .val (.int (pk p1 l2 (1 : Int32) (79 : Int32))), .val (.int (pk p1 l2 (2 : Int32) (95 : Int32))), .val (.int (pk p1 l2 (3 : Int32) (65 : Int32))), .val (.int (pk p1 l2 (4 : Int32) (68 : Int32))), .val (.int (pk p1 l2 (5 : Int32) (77 : Int32))), .val (.int (pk p1 l2 (6 : Int32) (73 : Int32))), .val (.int (pk p1 l2 (7 : Int32) (78 : Int32))), .val (.int ((((p1.toUInt32 >>> ((10 : Int32) &&& 31).toUInt32).toInt32) &&& (255 : Int32)).toUInt32.toUInt16.toUInt32.toInt32)), .val (.int (((p1.toUInt32 >>> ((8 : Int32) &&& 31).toUInt32).toInt32) &&& (3 : Int32))), .unset, .unset, .unset] [(.ref b64), (.ref b63), (.ref b63)]))
        refine go (fun _ => XS.dup X68.here hx rfl (hb hby at_234) rfl rfl) ?_
        show Run p e below _ (T68.setTop (mkF m 235 #[.val (.int p0), .val (.int p1), .val (.long l2), .second, .val (.int ((p0 &&& (2147483647 : Int32)) % (3 : Int32))), .val (.ref kd), .val (.int (pk p1 l2 (0 : Int32) (86 : Int32))), .val (.int (pk p1 l2 (1 : Int32) (79 : Int32))), .val (.int (pk p1 l2 (2 : Int32) (95 : Int32))), .val (.int (pk p1 l2 (3 : Int32) (65 : Int32))), .val (.int (pk p1 l2 (4 : Int32) (68 : Int32))), .val (.int (pk p1 l2 (5 : Int32) (77 : Int32))), .val (.int (pk p1 l2 (6 : Int32) (73 : Int32))), .val (.int (pk p1 l2 (7 : Int32) (78 : Int32))), .val (.int ((((p1.toUInt32 >>> ((10 : Int32) &&& 31).toUInt32).toInt32) &&& (255 : Int32)).toUInt32.toUInt16.toUInt32.toInt32)), .val (.int (((p1.toUInt32 >>> ((8 : Int32) &&& 31).toUInt32).toInt32) &&& (3 : Int32))), .unset, .unset, .unset] [(.ref b64), (.ref b64), (.ref b63), (.ref b63)]))
        refine go (fun _ => XS.iconst X68.here hx rfl (hb hby at_235)) ?_
        show Run p e below _ (T68.setTop (mkF m 236 #[.val (.int p0), .val (.int p1), .val (.long l2), .second, .val (.int ((p0 &&& (2147483647 : Int32)) % (3 : Int32))), .val (.ref kd), .val (.int (pk p1 l2 (0 : Int32) (86 : Int32))), .val (.int (pk p1 l2 (1 : Int32) (79 : Int32))), .val (.int (pk p1 l2 (2 : Int32) (95 : Int32))), .val (.int (pk p1 l2 (3 : Int32) (65 : Int32))), .val (.int (pk p1 l2 (4 : Int32) (68 : Int32))), .val (.int (pk p1 l2 (5 : Int32) (77 : Int32))), .val (.int (pk p1 l2 (6 : Int32) (73 : Int32))), .val (.int (pk p1 l2 (7 : Int32) (78 : Int32))), .val (.int ((((p1.toUInt32 >>> ((10 : Int32) &&& 31).toUInt32).toInt32) &&& (255 : Int32)).toUInt32.toUInt16.toUInt32.toInt32)), .val (.int (((p1.toUInt32 >>> ((8 : Int32) &&& 31).toUInt32).toInt32) &&& (3 : Int32))), .unset, .unset, .unset] [(.int (4 : Int32)), (.ref b64), (.ref b64), (.ref b63), (.ref b63)]))
        refine go (fun _ => XS.iload X68.here hx rfl (hb hby at_236) rfl) ?_
        show Run p e below _ (T68.setTop (mkF m 238 #[.val (.int p0), .val (.int p1), .val (.long l2), .second, .val (.int ((p0 &&& (2147483647 : Int32)) % (3 : Int32))), .val (.ref kd), .val (.int (pk p1 l2 (0 : Int32) (86 : Int32))), .val (.int (pk p1 l2 (1 : Int32) (79 : Int32))), .val (.int (pk p1 l2 (2 : Int32) (95 : Int32))), .val (.int (pk p1 l2 (3 : Int32) (65 : Int32))), .val (.int (pk p1 l2 (4 : Int32) (68 : Int32))), .val (.int (pk p1 l2 (5 : Int32) (77 : Int32))), .val (.int (pk p1 l2 (6 : Int32) (73 : Int32))), .val (.int (pk p1 l2 (7 : Int32) (78 : Int32))), .val (.int ((((p1.toUInt32 >>> ((10 : Int32) &&& 31).toUInt32).toInt32) &&& (255 : Int32)).toUInt32.toUInt16.toUInt32.toInt32)), .val (.int (((p1.toUInt32 >>> ((8 : Int32) &&& 31).toUInt32).toInt32) &&& (3 : Int32))), .unset, .unset, .unset] [(.int (pk p1 l2 (4 : Int32) (68 : Int32))), (.int (4 : Int32)), (.ref b64), (.ref b64), (.ref b63), (.ref b63)]))
        obtain ⟨cl69, Ar69, ak69, as69, an69, ah69, ag69⟩ := id V_b64
        have hin69 := inb_of as69 (j := (4 : Int32)) ⟨by decide, by decide⟩
        obtain ⟨T69, h69, X69, e69, W69, st69⟩ := stC X68 hx hZ e68 Ar69 (j := (4 : Int32)) hin69 (g := (mkF m 238 #[.val (.int p0), .val (.int p1), .val (.long l2), .second, .val (.int ((p0 &&& (2147483647 : Int32)) % (3 : Int32))), .val (.ref kd), .val (.int (pk p1 l2 (0 : Int32) (86 : Int32))), .val (.int (pk p1 l2 (1 : Int32) (79 : Int32))), .val (.int (pk p1 l2 (2 : Int32) (95 : Int32))), .val (.int (pk p1 l2 (3 : Int32) (65 : Int32))), .val (.int (pk p1 l2 (4 : Int32) (68 : Int32))), .val (.int (pk p1 l2 (5 : Int32) (77 : Int32))), .val (.int (pk p1 l2 (6 : Int32) (73 : Int32))), .val (.int (pk p1 l2 (7 : Int32) (78 : Int32))), .val (.int ((((p1.toUInt32 >>> ((10 : Int32) &&& 31).toUInt32).toInt32) &&& (255 : Int32)).toUInt32.toUInt16.toUInt32.toInt32)), .val (.int (((p1.toUInt32 >>> ((8 : Int32) &&& 31).toUInt32).toInt32) &&& (3 : Int32))), .unset, .unset, .unset] [(.int (pk p1 l2 (4 : Int32) (68 : Int32))), (.int (4 : Int32)), (.ref b64), (.ref b64), (.ref b63), (.ref b63)])) rfl rfl (hb hby at_238)
        have W69' : Wr _ _ _ _ (.int (pk p1 l2 (4 : Int32) (68 : Int32))) := (pk_nc p1 l2 (4 : Int32) (68 : Int32) (by decide)) ▸ W69
        have CHo := CH
        have SF_b63o := SF_b63
        have SF_b64o := SF_b64
        have hk := Nat.le_trans hk (wr_sz W69')
        have SF_b63 := Safe.wr W69' SF_b64o CHo.1 SF_b63o
        have SF_b64 := Safe.wr W69' SF_b64o CHo.1 SF_b64o
        have CH := CHo.trans (CHr.wr W69' SF_b64o CHo.1)
        have O0 := O0.wr W69' g_b64
        have E_b63 := E_b63.wr W69'
        have F_coder_b63 := F_coder_b63.other W69' (Or.inl ne_b63_b64)
        have F_value_b63 := F_value_b63.other W69' (Or.inl ne_b63_b64)
        have V_b64 := (Arv.set Ar69 ak69 as69 an69 ah69 ag69 ((pk_nc p1 l2 (4 : Int32) (68 : Int32) (by decide)) ▸ (fits_nar_char _)) W69' 4 rfl (Nat.le_of_ble_eq_true rfl) : Arv Z h69 b64 k64 .char (7 : Int32) [(.int (pk p1 l2 (0 : Int32) (86 : Int32))), (.int (pk p1 l2 (1 : Int32) (79 : Int32))), (.int (pk p1 l2 (2 : Int32) (95 : Int32))), (.int (pk p1 l2 (3 : Int32) (65 : Int32))), (.int (pk p1 l2 (4 : Int32) (68 : Int32))), (.int (0 : Int32)), (.int (0 : Int32))] (.int (0 : Int32)))
        have N69 := Fr.snoc X69 N68 g_b64
        refine go st69 ?_
        show Run p e below _ (T69.setTop (mkF m 239 #[.val (.int p0), .val (.int p1), .val (.long l2), .second, .val (.int ((p0 &&& (2147483647 : Int32)) % (3 : Int32))), .val (.ref kd), .val (.int (pk p1 l2 (0 : Int32) (86 : Int32))), .val (.int (pk p1 l2 (1 : Int32) (79 : Int32))), .val (.int (pk p1 l2 (2 : Int32) (95 : Int32))), .val (.int (pk p1 l2 (3 : Int32) (65 : Int32))), .val (.int (pk p1 l2 (4 : Int32) (68 : Int32))), .val (.int (pk p1 l2 (5 : Int32) (77 : Int32))), .val (.int (pk p1 l2 (6 : Int32) (73 : Int32))), .val (.int (pk p1 l2 (7 : Int32) (78 : Int32))), .val (.int ((((p1.toUInt32 >>> ((10 : Int32) &&& 31).toUInt32).toInt32) &&& (255 : Int32)).toUInt32.toUInt16.toUInt32.toInt32)), .val (.int (((p1.toUInt32 >>> ((8 : Int32) &&& 31).toUInt32).toInt32) &&& (3 : Int32))), .unset, .unset, .unset] [(.ref b64), (.ref b63), (.ref b63)]))
        refine go (fun _ => XS.dup X69.here hx rfl (hb hby at_239) rfl rfl) ?_
        show Run p e below _ (T69.setTop (mkF m 240 #[.val (.int p0), .val (.int p1), .val (.long l2), .second, .val (.int ((p0 &&& (2147483647 : Int32)) % (3 : Int32))), .val (.ref kd), .val (.int (pk p1 l2 (0 : Int32) (86 : Int32))), .val (.int (pk p1 l2 (1 : Int32) (79 : Int32))), .val (.int (pk p1 l2 (2 : Int32) (95 : Int32))), .val (.int (pk p1 l2 (3 : Int32) (65 : Int32))), .val (.int (pk p1 l2 (4 : Int32) (68 : Int32))), .val (.int (pk p1 l2 (5 : Int32) (77 : Int32))), .val (.int (pk p1 l2 (6 : Int32) (73 : Int32))), .val (.int (pk p1 l2 (7 : Int32) (78 : Int32))), .val (.int ((((p1.toUInt32 >>> ((10 : Int32) &&& 31).toUInt32).toInt32) &&& (255 : Int32)).toUInt32.toUInt16.toUInt32.toInt32)), .val (.int (((p1.toUInt32 >>> ((8 : Int32) &&& 31).toUInt32).toInt32) &&& (3 : Int32))), .unset, .unset, .unset] [(.ref b64), (.ref b64), (.ref b63), (.ref b63)]))
        refine go (fun _ => XS.iconst X69.here hx rfl (hb hby at_240)) ?_
        show Run p e below _ (T69.setTop (mkF m 241 #[.val (.int p0), .val (.int p1), .val (.long l2), .second, .val (.int ((p0 &&& (2147483647 : Int32)) % (3 : Int32))), .val (.ref kd), .val (.int (pk p1 l2 (0 : Int32) (86 : Int32))), .val (.int (pk p1 l2 (1 : Int32) (79 : Int32))), .val (.int (pk p1 l2 (2 : Int32) (95 : Int32))), .val (.int (pk p1 l2 (3 : Int32) (65 : Int32))), .val (.int (pk p1 l2 (4 : Int32) (68 : Int32))), .val (.int (pk p1 l2 (5 : Int32) (77 : Int32))), .val (.int (pk p1 l2 (6 : Int32) (73 : Int32))), .val (.int (pk p1 l2 (7 : Int32) (78 : Int32))), .val (.int ((((p1.toUInt32 >>> ((10 : Int32) &&& 31).toUInt32).toInt32) &&& (255 : Int32)).toUInt32.toUInt16.toUInt32.toInt32)), .val (.int (((p1.toUInt32 >>> ((8 : Int32) &&& 31).toUInt32).toInt32) &&& (3 : Int32))), .unset, .unset, .unset] [(.int (5 : Int32)), (.ref b64), (.ref b64), (.ref b63), (.ref b63)]))
        refine go (fun _ => XS.iload X69.here hx rfl (hb hby at_241) rfl) ?_
        show Run p e below _ (T69.setTop (mkF m 243 #[.val (.int p0), .val (.int p1), .val (.long l2), .second, .val (.int ((p0 &&& (2147483647 : Int32)) % (3 : Int32))), .val (.ref kd), .val (.int (pk p1 l2 (0 : Int32) (86 : Int32))), .val (.int (pk p1 l2 (1 : Int32) (79 : Int32))), .val (.int (pk p1 l2 (2 : Int32) (95 : Int32))), .val (.int (pk p1 l2 (3 : Int32) (65 : Int32))), .val (.int (pk p1 l2 (4 : Int32) (68 : Int32))), .val (.int (pk p1 l2 (5 : Int32) (77 : Int32))), .val (.int (pk p1 l2 (6 : Int32) (73 : Int32))), .val (.int (pk p1 l2 (7 : Int32) (78 : Int32))), .val (.int ((((p1.toUInt32 >>> ((10 : Int32) &&& 31).toUInt32).toInt32) &&& (255 : Int32)).toUInt32.toUInt16.toUInt32.toInt32)), .val (.int (((p1.toUInt32 >>> ((8 : Int32) &&& 31).toUInt32).toInt32) &&& (3 : Int32))), .unset, .unset, .unset] [(.int (pk p1 l2 (5 : Int32) (77 : Int32))), (.int (5 : Int32)), (.ref b64), (.ref b64), (.ref b63), (.ref b63)]))
        obtain ⟨cl70, Ar70, ak70, as70, an70, ah70, ag70⟩ := id V_b64
        have hin70 := inb_of as70 (j := (5 : Int32)) ⟨by decide, by decide⟩
        obtain ⟨T70, h70, X70, e70, W70, st70⟩ := stC X69 hx hZ e69 Ar70 (j := (5 : Int32)) hin70 (g := (mkF m 243 #[.val (.int p0), .val (.int p1), .val (.long l2), .second, .val (.int ((p0 &&& (2147483647 : Int32)) % (3 : Int32))), .val (.ref kd), .val (.int (pk p1 l2 (0 : Int32) (86 : Int32))), .val (.int (pk p1 l2 (1 : Int32) (79 : Int32))), .val (.int (pk p1 l2 (2 : Int32) (95 : Int32))), .val (.int (pk p1 l2 (3 : Int32) (65 : Int32))), .val (.int (pk p1 l2 (4 : Int32) (68 : Int32))), .val (.int (pk p1 l2 (5 : Int32) (77 : Int32))), .val (.int (pk p1 l2 (6 : Int32) (73 : Int32))), .val (.int (pk p1 l2 (7 : Int32) (78 : Int32))), .val (.int ((((p1.toUInt32 >>> ((10 : Int32) &&& 31).toUInt32).toInt32) &&& (255 : Int32)).toUInt32.toUInt16.toUInt32.toInt32)), .val (.int (((p1.toUInt32 >>> ((8 : Int32) &&& 31).toUInt32).toInt32) &&& (3 : Int32))), .unset, .unset, .unset] [(.int (pk p1 l2 (5 : Int32) (77 : Int32))), (.int (5 : Int32)), (.ref b64), (.ref b64), (.ref b63), (.ref b63)])) rfl rfl (hb hby at_243)
        have W70' : Wr _ _ _ _ (.int (pk p1 l2 (5 : Int32) (77 : Int32))) := (pk_nc p1 l2 (5 : Int32) (77 : Int32) (by decide)) ▸ W70
        have CHo := CH
        have SF_b63o := SF_b63
        have SF_b64o := SF_b64
        have hk := Nat.le_trans hk (wr_sz W70')
        have SF_b63 := Safe.wr W70' SF_b64o CHo.1 SF_b63o
        have SF_b64 := Safe.wr W70' SF_b64o CHo.1 SF_b64o
        have CH := CHo.trans (CHr.wr W70' SF_b64o CHo.1)
        have O0 := O0.wr W70' g_b64
        have E_b63 := E_b63.wr W70'
        have F_coder_b63 := F_coder_b63.other W70' (Or.inl ne_b63_b64)
        have F_value_b63 := F_value_b63.other W70' (Or.inl ne_b63_b64)
        have V_b64 := (Arv.set Ar70 ak70 as70 an70 ah70 ag70 ((pk_nc p1 l2 (5 : Int32) (77 : Int32) (by decide)) ▸ (fits_nar_char _)) W70' 5 rfl (Nat.le_of_ble_eq_true rfl) : Arv Z h70 b64 k64 .char (7 : Int32) [(.int (pk p1 l2 (0 : Int32) (86 : Int32))), (.int (pk p1 l2 (1 : Int32) (79 : Int32))), (.int (pk p1 l2 (2 : Int32) (95 : Int32))), (.int (pk p1 l2 (3 : Int32) (65 : Int32))), (.int (pk p1 l2 (4 : Int32) (68 : Int32))), (.int (pk p1 l2 (5 : Int32) (77 : Int32))), (.int (0 : Int32))] (.int (0 : Int32)))
        have N70 := Fr.snoc X70 N69 g_b64
        refine go st70 ?_
        show Run p e below _ (T70.setTop (mkF m 244 #[.val (.int p0), .val (.int p1), .val (.long l2), .second, .val (.int ((p0 &&& (2147483647 : Int32)) % (3 : Int32))), .val (.ref kd), .val (.int (pk p1 l2 (0 : Int32) (86 : Int32))), .val (.int (pk p1 l2 (1 : Int32) (79 : Int32))), .val (.int (pk p1 l2 (2 : Int32) (95 : Int32))), .val (.int (pk p1 l2 (3 : Int32) (65 : Int32))), .val (.int (pk p1 l2 (4 : Int32) (68 : Int32))), .val (.int (pk p1 l2 (5 : Int32) (77 : Int32))), .val (.int (pk p1 l2 (6 : Int32) (73 : Int32))), .val (.int (pk p1 l2 (7 : Int32) (78 : Int32))), .val (.int ((((p1.toUInt32 >>> ((10 : Int32) &&& 31).toUInt32).toInt32) &&& (255 : Int32)).toUInt32.toUInt16.toUInt32.toInt32)), .val (.int (((p1.toUInt32 >>> ((8 : Int32) &&& 31).toUInt32).toInt32) &&& (3 : Int32))), .unset, .unset, .unset] [(.ref b64), (.ref b63), (.ref b63)]))
        refine go (fun _ => XS.dup X70.here hx rfl (hb hby at_244) rfl rfl) ?_
        show Run p e below _ (T70.setTop (mkF m 245 #[.val (.int p0), .val (.int p1), .val (.long l2), .second, .val (.int ((p0 &&& (2147483647 : Int32)) % (3 : Int32))), .val (.ref kd), .val (.int (pk p1 l2 (0 : Int32) (86 : Int32))), .val (.int (pk p1 l2 (1 : Int32) (79 : Int32))), .val (.int (pk p1 l2 (2 : Int32) (95 : Int32))), .val (.int (pk p1 l2 (3 : Int32) (65 : Int32))), .val (.int (pk p1 l2 (4 : Int32) (68 : Int32))), .val (.int (pk p1 l2 (5 : Int32) (77 : Int32))), .val (.int (pk p1 l2 (6 : Int32) (73 : Int32))), .val (.int (pk p1 l2 (7 : Int32) (78 : Int32))), .val (.int ((((p1.toUInt32 >>> ((10 : Int32) &&& 31).toUInt32).toInt32) &&& (255 : Int32)).toUInt32.toUInt16.toUInt32.toInt32)), .val (.int (((p1.toUInt32 >>> ((8 : Int32) &&& 31).toUInt32).toInt32) &&& (3 : Int32))), .unset, .unset, .unset] [(.ref b64), (.ref b64), (.ref b63), (.ref b63)]))
        refine go (fun _ => XS.bipush X70.here hx rfl (hb hby at_245)) ?_
        show Run p e below _ (T70.setTop (mkF m 247 #[.val (.int p0), .val (.int p1), .val (.long l2), .second, .val (.int ((p0 &&& (2147483647 : Int32)) % (3 : Int32))), .val (.ref kd), .val (.int (pk p1 l2 (0 : Int32) (86 : Int32))), .val (.int (pk p1 l2 (1 : Int32) (79 : Int32))), .val (.int (pk p1 l2 (2 : Int32) (95 : Int32))), .val (.int (pk p1 l2 (3 : Int32) (65 : Int32))), .val (.int (pk p1 l2 (4 : Int32) (68 : Int32))), .val (.int (pk p1 l2 (5 : Int32) (77 : Int32))), .val (.int (pk p1 l2 (6 : Int32) (73 : Int32))), .val (.int (pk p1 l2 (7 : Int32) (78 : Int32))), .val (.int ((((p1.toUInt32 >>> ((10 : Int32) &&& 31).toUInt32).toInt32) &&& (255 : Int32)).toUInt32.toUInt16.toUInt32.toInt32)), .val (.int (((p1.toUInt32 >>> ((8 : Int32) &&& 31).toUInt32).toInt32) &&& (3 : Int32))), .unset, .unset, .unset] [(.int (6 : Int32)), (.ref b64), (.ref b64), (.ref b63), (.ref b63)]))
        refine go (fun _ => XS.iload X70.here hx rfl (hb hby at_247) rfl) ?_
        show Run p e below _ (T70.setTop (mkF m 249 #[.val (.int p0), .val (.int p1), .val (.long l2), .second, .val (.int ((p0 &&& (2147483647 : Int32)) % (3 : Int32))), .val (.ref kd), .val (.int (pk p1 l2 (0 : Int32) (86 : Int32))), .val (.int (pk p1 l2 (1 : Int32) (79 : Int32))), .val (.int (pk p1 l2 (2 : Int32) (95 : Int32))), .val (.int (pk p1 l2 (3 : Int32) (65 : Int32))), .val (.int (pk p1 l2 (4 : Int32) (68 : Int32))), .val (.int (pk p1 l2 (5 : Int32) (77 : Int32))), .val (.int (pk p1 l2 (6 : Int32) (73 : Int32))), .val (.int (pk p1 l2 (7 : Int32) (78 : Int32))), .val (.int ((((p1.toUInt32 >>> ((10 : Int32) &&& 31).toUInt32).toInt32) &&& (255 : Int32)).toUInt32.toUInt16.toUInt32.toInt32)), .val (.int (((p1.toUInt32 >>> ((8 : Int32) &&& 31).toUInt32).toInt32) &&& (3 : Int32))), .unset, .unset, .unset] [(.int (pk p1 l2 (6 : Int32) (73 : Int32))), (.int (6 : Int32)), (.ref b64), (.ref b64), (.ref b63), (.ref b63)]))
        obtain ⟨cl71, Ar71, ak71, as71, an71, ah71, ag71⟩ := id V_b64
        have hin71 := inb_of as71 (j := (6 : Int32)) ⟨by decide, by decide⟩
        obtain ⟨T71, h71, X71, e71, W71, st71⟩ := stC X70 hx hZ e70 Ar71 (j := (6 : Int32)) hin71 (g := (mkF m 249 #[.val (.int p0), .val (.int p1), .val (.long l2), .second, .val (.int ((p0 &&& (2147483647 : Int32)) % (3 : Int32))), .val (.ref kd), .val (.int (pk p1 l2 (0 : Int32) (86 : Int32))), .val (.int (pk p1 l2 (1 : Int32) (79 : Int32))), .val (.int (pk p1 l2 (2 : Int32) (95 : Int32))), .val (.int (pk p1 l2 (3 : Int32) (65 : Int32))), .val (.int (pk p1 l2 (4 : Int32) (68 : Int32))), .val (.int (pk p1 l2 (5 : Int32) (77 : Int32))), .val (.int (pk p1 l2 (6 : Int32) (73 : Int32))), .val (.int (pk p1 l2 (7 : Int32) (78 : Int32))), .val (.int ((((p1.toUInt32 >>> ((10 : Int32) &&& 31).toUInt32).toInt32) &&& (255 : Int32)).toUInt32.toUInt16.toUInt32.toInt32)), .val (.int (((p1.toUInt32 >>> ((8 : Int32) &&& 31).toUInt32).toInt32) &&& (3 : Int32))), .unset, .unset, .unset] [(.int (pk p1 l2 (6 : Int32) (73 : Int32))), (.int (6 : Int32)), (.ref b64), (.ref b64), (.ref b63), (.ref b63)])) rfl rfl (hb hby at_249)
        have W71' : Wr _ _ _ _ (.int (pk p1 l2 (6 : Int32) (73 : Int32))) := (pk_nc p1 l2 (6 : Int32) (73 : Int32) (by decide)) ▸ W71
        have CHo := CH
        have SF_b63o := SF_b63
        have SF_b64o := SF_b64
        have hk := Nat.le_trans hk (wr_sz W71')
        have SF_b63 := Safe.wr W71' SF_b64o CHo.1 SF_b63o
        have SF_b64 := Safe.wr W71' SF_b64o CHo.1 SF_b64o
        have CH := CHo.trans (CHr.wr W71' SF_b64o CHo.1)
        have O0 := O0.wr W71' g_b64
        have E_b63 := E_b63.wr W71'
        have F_coder_b63 := F_coder_b63.other W71' (Or.inl ne_b63_b64)
        have F_value_b63 := F_value_b63.other W71' (Or.inl ne_b63_b64)
        have V_b64 := (Arv.set Ar71 ak71 as71 an71 ah71 ag71 ((pk_nc p1 l2 (6 : Int32) (73 : Int32) (by decide)) ▸ (fits_nar_char _)) W71' 6 rfl (Nat.le_of_ble_eq_true rfl) : Arv Z h71 b64 k64 .char (7 : Int32) [(.int (pk p1 l2 (0 : Int32) (86 : Int32))), (.int (pk p1 l2 (1 : Int32) (79 : Int32))), (.int (pk p1 l2 (2 : Int32) (95 : Int32))), (.int (pk p1 l2 (3 : Int32) (65 : Int32))), (.int (pk p1 l2 (4 : Int32) (68 : Int32))), (.int (pk p1 l2 (5 : Int32) (77 : Int32))), (.int (pk p1 l2 (6 : Int32) (73 : Int32)))] (.int (0 : Int32)))
        have N71 := Fr.snoc X71 N70 g_b64
        refine go st71 ?_
        show Run p e below _ (T71.setTop (mkF m 250 #[.val (.int p0), .val (.int p1), .val (.long l2), .second, .val (.int ((p0 &&& (2147483647 : Int32)) % (3 : Int32))), .val (.ref kd), .val (.int (pk p1 l2 (0 : Int32) (86 : Int32))), .val (.int (pk p1 l2 (1 : Int32) (79 : Int32))), .val (.int (pk p1 l2 (2 : Int32) (95 : Int32))), .val (.int (pk p1 l2 (3 : Int32) (65 : Int32))), .val (.int (pk p1 l2 (4 : Int32) (68 : Int32))), .val (.int (pk p1 l2 (5 : Int32) (77 : Int32))), .val (.int (pk p1 l2 (6 : Int32) (73 : Int32))), .val (.int (pk p1 l2 (7 : Int32) (78 : Int32))), .val (.int ((((p1.toUInt32 >>> ((10 : Int32) &&& 31).toUInt32).toInt32) &&& (255 : Int32)).toUInt32.toUInt16.toUInt32.toInt32)), .val (.int (((p1.toUInt32 >>> ((8 : Int32) &&& 31).toUInt32).toInt32) &&& (3 : Int32))), .unset, .unset, .unset] [(.ref b64), (.ref b63), (.ref b63)]))
        refine callSpK X71 hx hZ rfl hown (wd hw 13 rfl) (wd hw 14 rfl) (wd hw 15 rfl) (by decide) e71 (a := b63) (argsL := [(.ref b64)]) (rest := [(.ref b63)]) (W := 1) (payNew (s := s.setVm s.vm) (n := 7) (cs := [(pk p1 l2 (0 : Int32) (86 : Int32)), (pk p1 l2 (1 : Int32) (79 : Int32)), (pk p1 l2 (2 : Int32) (95 : Int32)), (pk p1 l2 (3 : Int32) (65 : Int32)), (pk p1 l2 (4 : Int32) (68 : Int32)), (pk p1 l2 (5 : Int32) (77 : Int32)), (pk p1 l2 (6 : Int32) (73 : Int32))]) hZ hw (wd hw 10 rfl) O0 g_b63 E_b63 F_value_b63 F_coder_b63 V_b64 S_COMPACT_STRINGS hzc rfl rfl (by decide) (by decide) (In8.cons (pk_in p1 l2 (0 : Int32) (86 : Int32) (by decide)) (In8.cons (pk_in p1 l2 (1 : Int32) (79 : Int32) (by decide)) (In8.cons (pk_in p1 l2 (2 : Int32) (95 : Int32) (by decide)) (In8.cons (pk_in p1 l2 (3 : Int32) (65 : Int32) (by decide)) (In8.cons (pk_in p1 l2 (4 : Int32) (68 : Int32) (by decide)) (In8.cons (pk_in p1 l2 (5 : Int32) (77 : Int32) (by decide)) (In8.cons (pk_in p1 l2 (6 : Int32) (73 : Int32) (by decide)) In8.nil))))))) (by decide) (by decide)) (by decide) (by decide) (by rw [hml]; rfl) (lenOf pd_4 rfl) rfl (Nat.le_of_eq rfl) (hb hby at_250) ?_
        intro v72 T72 L72 h72 X72 e72 q72
        have lt73_b63 := E_b63.lt
        have lt73_b64 := V_b64.lt
        obtain ⟨rfl, n72, K72, t72, kb72, gt72, sb72, nt72, T_b63⟩ := q72
        have ne_b63_t72 : b63 ≠ t72 := Nat.ne_of_lt (Nat.lt_of_lt_of_le lt73_b63 sb72)
        have ne_b64_t72 : b64 ≠ t72 := Nat.ne_of_lt (Nat.lt_of_lt_of_le lt73_b64 sb72)
        have CHo := CH
        have SF_b63o := SF_b63
        have SF_b64o := SF_b64
        have hk := Nat.le_trans hk K72.1
        have O0 := O0.keep K72 (allS g_b63 all0)
        have SF_b63 := Safe.keep K72 (allS SF_b63o all0) CHo.1 SF_b63o
        have SF_b64 := Safe.keep K72 (allS SF_b63o all0) CHo.1 SF_b64o
        have CH := CHo.trans (CHr.keep K72 (allS SF_b63o all0) CHo.1)
        have V_b64 := V_b64.keep K72 (ninS (Ne.symm ne_b63_b64) nin0)
        have N72 := Fr.app N71 n72
        show Run p e below _ (T72.setTop (mkF m 253 #[.val (.int p0), .val (.int p1), .val (.long l2), .second, .val (.int ((p0 &&& (2147483647 : Int32)) % (3 : Int32))), .val (.ref kd), .val (.int (pk p1 l2 (0 : Int32) (86 : Int32))), .val (.int (pk p1 l2 (1 : Int32) (79 : Int32))), .val (.int (pk p1 l2 (2 : Int32) (95 : Int32))), .val (.int (pk p1 l2 (3 : Int32) (65 : Int32))), .val (.int (pk p1 l2 (4 : Int32) (68 : Int32))), .val (.int (pk p1 l2 (5 : Int32) (77 : Int32))), .val (.int (pk p1 l2 (6 : Int32) (73 : Int32))), .val (.int (pk p1 l2 (7 : Int32) (78 : Int32))), .val (.int ((((p1.toUInt32 >>> ((10 : Int32) &&& 31).toUInt32).toInt32) &&& (255 : Int32)).toUInt32.toUInt16.toUInt32.toInt32)), .val (.int (((p1.toUInt32 >>> ((8 : Int32) &&& 31).toUInt32).toInt32) &&& (3 : Int32))), .unset, .unset, .unset] [(.ref b63)]))
        refine go (fun _ => XS.astore X72.here hx rfl (hb hby at_253) rfl rfl (l' := #[.val (.int p0), .val (.int p1), .val (.long l2), .second, .val (.int ((p0 &&& (2147483647 : Int32)) % (3 : Int32))), .val (.ref kd), .val (.int (pk p1 l2 (0 : Int32) (86 : Int32))), .val (.int (pk p1 l2 (1 : Int32) (79 : Int32))), .val (.int (pk p1 l2 (2 : Int32) (95 : Int32))), .val (.int (pk p1 l2 (3 : Int32) (65 : Int32))), .val (.int (pk p1 l2 (4 : Int32) (68 : Int32))), .val (.int (pk p1 l2 (5 : Int32) (77 : Int32))), .val (.int (pk p1 l2 (6 : Int32) (73 : Int32))), .val (.int (pk p1 l2 (7 : Int32) (78 : Int32))), .val (.int ((((p1.toUInt32 >>> ((10 : Int32) &&& 31).toUInt32).toInt32) &&& (255 : Int32)).toUInt32.toUInt16.toUInt32.toInt32)), .val (.int (((p1.toUInt32 >>> ((8 : Int32) &&& 31).toUInt32).toInt32) &&& (3 : Int32))), .val (.ref b63), .unset, .unset]) rfl) ?_
        show Run p e below _ (T72.setTop (mkF m 255 #[.val (.int p0), .val (.int p1), .val (.long l2), .second, .val (.int ((p0 &&& (2147483647 : Int32)) % (3 : Int32))), .val (.ref kd), .val (.int (pk p1 l2 (0 : Int32) (86 : Int32))), .val (.int (pk p1 l2 (1 : Int32) (79 : Int32))), .val (.int (pk p1 l2 (2 : Int32) (95 : Int32))), .val (.int (pk p1 l2 (3 : Int32) (65 : Int32))), .val (.int (pk p1 l2 (4 : Int32) (68 : Int32))), .val (.int (pk p1 l2 (5 : Int32) (77 : Int32))), .val (.int (pk p1 l2 (6 : Int32) (73 : Int32))), .val (.int (pk p1 l2 (7 : Int32) (78 : Int32))), .val (.int ((((p1.toUInt32 >>> ((10 : Int32) &&& 31).toUInt32).toInt32) &&& (255 : Int32)).toUInt32.toUInt16.toUInt32.toInt32)), .val (.int (((p1.toUInt32 >>> ((8 : Int32) &&& 31).toUInt32).toInt32) &&& (3 : Int32))), .val (.ref b63), .unset, .unset] []))
        refine go (fun _ => XS.goto X72.here hx rfl (pc0 := 255) (pc' := 340) rfl (hb hby at_255) (by decide) (by decide)) ?_
        show Run p e below _ (T72.setTop (mkF m 340 #[.val (.int p0), .val (.int p1), .val (.long l2), .second, .val (.int ((p0 &&& (2147483647 : Int32)) % (3 : Int32))), .val (.ref kd), .val (.int (pk p1 l2 (0 : Int32) (86 : Int32))), .val (.int (pk p1 l2 (1 : Int32) (79 : Int32))), .val (.int (pk p1 l2 (2 : Int32) (95 : Int32))), .val (.int (pk p1 l2 (3 : Int32) (65 : Int32))), .val (.int (pk p1 l2 (4 : Int32) (68 : Int32))), .val (.int (pk p1 l2 (5 : Int32) (77 : Int32))), .val (.int (pk p1 l2 (6 : Int32) (73 : Int32))), .val (.int (pk p1 l2 (7 : Int32) (78 : Int32))), .val (.int ((((p1.toUInt32 >>> ((10 : Int32) &&& 31).toUInt32).toInt32) &&& (255 : Int32)).toUInt32.toUInt16.toUInt32.toInt32)), .val (.int (((p1.toUInt32 >>> ((8 : Int32) &&& 31).toUInt32).toInt32) &&& (3 : Int32))), .val (.ref b63), .unset, .unset] []))
        exact J340 _ _ _ _ _ (smono X72 (by decide) (by decide)) e72 N72 hZ hown hS hk CH b63 t72 kb72 [(pk p1 l2 (0 : Int32) (86 : Int32)), (pk p1 l2 (1 : Int32) (79 : Int32)), (pk p1 l2 (2 : Int32) (95 : Int32)), (pk p1 l2 (3 : Int32) (65 : Int32)), (pk p1 l2 (4 : Int32) (68 : Int32)), (pk p1 l2 (5 : Int32) (77 : Int32)), (pk p1 l2 (6 : Int32) (73 : Int32))] O0 T_b63 (In8.cons (pk_in p1 l2 (0 : Int32) (86 : Int32) (by decide)) (In8.cons (pk_in p1 l2 (1 : Int32) (79 : Int32) (by decide)) (In8.cons (pk_in p1 l2 (2 : Int32) (95 : Int32) (by decide)) (In8.cons (pk_in p1 l2 (3 : Int32) (65 : Int32) (by decide)) (In8.cons (pk_in p1 l2 (4 : Int32) (68 : Int32) (by decide)) (In8.cons (pk_in p1 l2 (5 : Int32) (77 : Int32) (by decide)) (In8.cons (pk_in p1 l2 (6 : Int32) (73 : Int32) (by decide)) In8.nil))))))) (by simp) (fun q => absurd q c49) (fun _ q => by simp at q)
      · skip
        refine go (fun _ => XS.icmpYes X28.here hx rfl (pc0 := 203) (pc' := 258) rfl (hb hby at_203) rfl (feq c62).2 (by decide) (by decide)) ?_
        show Run p e below _ (T28.setTop (mkF m 258 #[.val (.int p0), .val (.int p1), .val (.long l2), .second, .val (.int ((p0 &&& (2147483647 : Int32)) % (3 : Int32))), .val (.ref kd), .val (.int (pk p1 l2 (0 : Int32) (86 : Int32))), .val (.int (pk p1 l2 (1 : Int32) (79 : Int32))), .val (.int (pk p1 l2 (2 : Int32) (95 : Int32))), .val (.int (pk p1 l2 (3 : Int32) (65 : Int32))), .val (.int (pk p1 l2 (4 : Int32) (68 : Int32))), .val (.int (pk p1 l2 (5 : Int32) (77 : Int32))), .val (.int (pk p1 l2 (6 : Int32) (73 : Int32))), .val (.int (pk p1 l2 (7 : Int32) (78 : Int32))), .val (.int ((((p1.toUInt32 >>> ((10 : Int32) &&& 31).toUInt32).toInt32) &&& (255 : Int32)).toUInt32.toUInt16.toUInt32.toInt32)), .val (.int (((p1.toUInt32 >>> ((8 : Int32) &&& 31).toUInt32).toInt32) &&& (3 : Int32))), .unset, .unset, .unset] []))
        refine go (fun _ => XS.iload X28.here hx rfl (hb hby at_258) rfl) ?_
        show Run p e below _ (T28.setTop (mkF m 260 #[.val (.int p0), .val (.int p1), .val (.long l2), .second, .val (.int ((p0 &&& (2147483647 : Int32)) % (3 : Int32))), .val (.ref kd), .val (.int (pk p1 l2 (0 : Int32) (86 : Int32))), .val (.int (pk p1 l2 (1 : Int32) (79 : Int32))), .val (.int (pk p1 l2 (2 : Int32) (95 : Int32))), .val (.int (pk p1 l2 (3 : Int32) (65 : Int32))), .val (.int (pk p1 l2 (4 : Int32) (68 : Int32))), .val (.int (pk p1 l2 (5 : Int32) (77 : Int32))), .val (.int (pk p1 l2 (6 : Int32) (73 : Int32))), .val (.int (pk p1 l2 (7 : Int32) (78 : Int32))), .val (.int ((((p1.toUInt32 >>> ((10 : Int32) &&& 31).toUInt32).toInt32) &&& (255 : Int32)).toUInt32.toUInt16.toUInt32.toInt32)), .val (.int (((p1.toUInt32 >>> ((8 : Int32) &&& 31).toUInt32).toInt32) &&& (3 : Int32))), .unset, .unset, .unset] [(.int (((p1.toUInt32 >>> ((8 : Int32) &&& 31).toUInt32).toInt32) &&& (3 : Int32)))]))
        refine go (fun _ => XS.iconst X28.here hx rfl (hb hby at_260)) ?_
        show Run p e below _ (T28.setTop (mkF m 261 #[.val (.int p0), .val (.int p1), .val (.long l2), .second, .val (.int ((p0 &&& (2147483647 : Int32)) % (3 : Int32))), .val (.ref kd), .val (.int (pk p1 l2 (0 : Int32) (86 : Int32))), .val (.int (pk p1 l2 (1 : Int32) (79 : Int32))), .val (.int (pk p1 l2 (2 : Int32) (95 : Int32))), .val (.int (pk p1 l2 (3 : Int32) (65 : Int32))), .val (.int (pk p1 l2 (4 : Int32) (68 : Int32))), .val (.int (pk p1 l2 (5 : Int32) (77 : Int32))), .val (.int (pk p1 l2 (6 : Int32) (73 : Int32))), .val (.int (pk p1 l2 (7 : Int32) (78 : Int32))), .val (.int ((((p1.toUInt32 >>> ((10 : Int32) &&& 31).toUInt32).toInt32) &&& (255 : Int32)).toUInt32.toUInt16.toUInt32.toInt32)), .val (.int (((p1.toUInt32 >>> ((8 : Int32) &&& 31).toUInt32).toInt32) &&& (3 : Int32))), .unset, .unset, .unset] [(.int (2 : Int32)), (.int (((p1.toUInt32 >>> ((8 : Int32) &&& 31).toUInt32).toInt32) &&& (3 : Int32)))]))
        by_cases c74 : (((p1.toUInt32 >>> ((8 : Int32) &&& 31).toUInt32).toInt32) &&& (3 : Int32)) = (2 : Int32)
        · skip
          refine go (fun _ => XS.icmpNo X28.here hx rfl (hb hby at_261) rfl (teq c74).2) ?_
          show Run p e below _ (T28.setTop (mkF m 264 #[.val (.int p0), .val (.int p1), .val (.long l2), .second, .val (.int ((p0 &&& (2147483647 : Int32)) % (3 : Int32))), .val (.ref kd), .val (.int (pk p1 l2 (0 : Int32) (86 : Int32))), .val (.int (pk p1 l2 (1 : Int32) (79 : Int32))), .val (.int (pk p1 l2 (2 : Int32) (95 : Int32))), .val (.int (pk p1 l2 (3 : Int32) (65 : Int32))), .val (.int (pk p1 l2 (4 : Int32) (68 : Int32))), .val (.int (pk p1 l2 (5 : Int32) (77 : Int32))), .val (.int (pk p1 l2 (6 : Int32) (73 : Int32))), .val (.int (pk p1 l2 (7 : Int32) (78 : Int32))), .val (.int ((((p1.toUInt32 >>> ((10 : Int32) &&& 31).toUInt32).toInt32) &&& (255 : Int32)).toUInt32.toUInt16.toUInt32.toInt32)), .val (.int (((p1.toUInt32 >>> ((8 : Int32) &&& 31).toUInt32).toInt32) &&& (3 : Int32))), .unset, .unset, .unset] []))
          obtain ⟨T75, h75, X75, e75, E75, A75, D75, -, st75⟩ := newO X28 hx hZ hown (wd hw 9 rfl) (wd hw 10 rfl) (wd hw 11 rfl) e28 (g := (mkF m 264 #[.val (.int p0), .val (.int p1), .val (.long l2), .second, .val (.int ((p0 &&& (2147483647 : Int32)) % (3 : Int32))), .val (.ref kd), .val (.int (pk p1 l2 (0 : Int32) (86 : Int32))), .val (.int (pk p1 l2 (1 : Int32) (79 : Int32))), .val (.int (pk p1 l2 (2 : Int32) (95 : Int32))), .val (.int (pk p1 l2 (3 : Int32) (65 : Int32))), .val (.int (pk p1 l2 (4 : Int32) (68 : Int32))), .val (.int (pk p1 l2 (5 : Int32) (77 : Int32))), .val (.int (pk p1 l2 (6 : Int32) (73 : Int32))), .val (.int (pk p1 l2 (7 : Int32) (78 : Int32))), .val (.int ((((p1.toUInt32 >>> ((10 : Int32) &&& 31).toUInt32).toInt32) &&& (255 : Int32)).toUInt32.toUInt16.toUInt32.toInt32)), .val (.int (((p1.toUInt32 >>> ((8 : Int32) &&& 31).toUInt32).toInt32) &&& (3 : Int32))), .unset, .unset, .unset] [])) rfl (hb hby at_264) (by decide) (by decide)
          obtain ⟨b75, y75⟩ : ∃ z, z = h0.size := ⟨_, rfl⟩
          rw [← y75] at A75 D75 st75
          have g_b75 : n0 ≤ b75 := y75.symm ▸ old_sz O0
          have SF_b75 : Safe Z consts_1 s.vm h0 b75 := Safe.new (Nat.le_of_eq y75.symm)
          have CHo := CH
          have SF_b75o := SF_b75
          have hk := Nat.le_trans hk E75.1
          have O0 := O0.ext E75
          have SF_b75 := Safe.ext E75 CHo.1 SF_b75o
          have CH := CHo.trans (CHr.ext E75 CHo.1)
          have E_b75 := A75
          have F_coder_b75 : Fld Z h75 b75 "java/lang/String" "coder" "B" (.int (0 : Int32)) := D75 (Or.inr (wd hw 36 rfl)) (ty := .byte) (by decide)
          have F_value_b75 : Fld Z h75 b75 "java/lang/String" "value" "[B" .null := D75 (Or.inr (wd hw 38 rfl)) (ty := (.array .byte)) (by decide)
          refine go st75 ?_
          show Run p e below _ (T75.setTop (mkF m 267 #[.val (.int p0), .val (.int p1), .val (.long l2), .second, .val (.int ((p0 &&& (2147483647 : Int32)) % (3 : Int32))), .val (.ref kd), .val (.int (pk p1 l2 (0 : Int32) (86 : Int32))), .val (.int (pk p1 l2 (1 : Int32) (79 : Int32))), .val (.int (pk p1 l2 (2 : Int32) (95 : Int32))), .val (.int (pk p1 l2 (3 : Int32) (65 : Int32))), .val (.int (pk p1 l2 (4 : Int32) (68 : Int32))), .val (.int (pk p1 l2 (5 : Int32) (77 : Int32))), .val (.int (pk p1 l2 (6 : Int32) (73 : Int32))), .val (.int (pk p1 l2 (7 : Int32) (78 : Int32))), .val (.int ((((p1.toUInt32 >>> ((10 : Int32) &&& 31).toUInt32).toInt32) &&& (255 : Int32)).toUInt32.toUInt16.toUInt32.toInt32)), .val (.int (((p1.toUInt32 >>> ((8 : Int32) &&& 31).toUInt32).toInt32) &&& (3 : Int32))), .unset, .unset, .unset] [(.ref b75)]))
          refine go (fun _ => XS.dup X75.here hx rfl (hb hby at_267) rfl rfl) ?_
          show Run p e below _ (T75.setTop (mkF m 268 #[.val (.int p0), .val (.int p1), .val (.long l2), .second, .val (.int ((p0 &&& (2147483647 : Int32)) % (3 : Int32))), .val (.ref kd), .val (.int (pk p1 l2 (0 : Int32) (86 : Int32))), .val (.int (pk p1 l2 (1 : Int32) (79 : Int32))), .val (.int (pk p1 l2 (2 : Int32) (95 : Int32))), .val (.int (pk p1 l2 (3 : Int32) (65 : Int32))), .val (.int (pk p1 l2 (4 : Int32) (68 : Int32))), .val (.int (pk p1 l2 (5 : Int32) (77 : Int32))), .val (.int (pk p1 l2 (6 : Int32) (73 : Int32))), .val (.int (pk p1 l2 (7 : Int32) (78 : Int32))), .val (.int ((((p1.toUInt32 >>> ((10 : Int32) &&& 31).toUInt32).toInt32) &&& (255 : Int32)).toUInt32.toUInt16.toUInt32.toInt32)), .val (.int (((p1.toUInt32 >>> ((8 : Int32) &&& 31).toUInt32).toInt32) &&& (3 : Int32))), .unset, .unset, .unset] [(.ref b75), (.ref b75)]))
          refine go (fun _ => XS.bipush X75.here hx rfl (hb hby at_268)) ?_
          show Run p e below _ (T75.setTop (mkF m 270 #[.val (.int p0), .val (.int p1), .val (.long l2), .second, .val (.int ((p0 &&& (2147483647 : Int32)) % (3 : Int32))), .val (.ref kd), .val (.int (pk p1 l2 (0 : Int32) (86 : Int32))), .val (.int (pk p1 l2 (1 : Int32) (79 : Int32))), .val (.int (pk p1 l2 (2 : Int32) (95 : Int32))), .val (.int (pk p1 l2 (3 : Int32) (65 : Int32))), .val (.int (pk p1 l2 (4 : Int32) (68 : Int32))), .val (.int (pk p1 l2 (5 : Int32) (77 : Int32))), .val (.int (pk p1 l2 (6 : Int32) (73 : Int32))), .val (.int (pk p1 l2 (7 : Int32) (78 : Int32))), .val (.int ((((p1.toUInt32 >>> ((10 : Int32) &&& 31).toUInt32).toInt32) &&& (255 : Int32)).toUInt32.toUInt16.toUInt32.toInt32)), .val (.int (((p1.toUInt32 >>> ((8 : Int32) &&& 31).toUInt32).toInt32) &&& (3 : Int32))), .unset, .unset, .unset] [(.int (9 : Int32)), (.ref b75), (.ref b75)]))
          obtain ⟨T76, h76, k76, X76, e76, E76, A76, st76⟩ := newP X75 hx hZ (wd hw 12 rfl) e75 (g := (mkF m 270 #[.val (.int p0), .val (.int p1), .val (.long l2), .second, .val (.int ((p0 &&& (2147483647 : Int32)) % (3 : Int32))), .val (.ref kd), .val (.int (pk p1 l2 (0 : Int32) (86 : Int32))), .val (.int (pk p1 l2 (1 : Int32) (79 : Int32))), .val (.int (pk p1 l2 (2 : Int32) (95 : Int32))), .val (.int (pk p1 l2 (3 : Int32) (65 : Int32))), .val (.int (pk p1 l2 (4 : Int32) (68 : Int32))), .val (.int (pk p1 l2 (5 : Int32) (77 : Int32))), .val (.int (pk p1 l2 (6 : Int32) (73 : Int32))), .val (.int (pk p1 l2 (7 : Int32) (78 : Int32))), .val (.int ((((p1.toUInt32 >>> ((10 : Int32) &&& 31).toUInt32).toInt32) &&& (255 : Int32)).toUInt32.toUInt16.toUInt32.toInt32)), .val (.int (((p1.toUInt32 >>> ((8 : Int32) &&& 31).toUInt32).toInt32) &&& (3 : Int32))), .unset, .unset, .unset] [(.int (9 : Int32)), (.ref b75), (.ref b75)])) rfl (hb hby at_270) rfl (by decide) (cap := 9) (by decide) (by decide) (by decide) (by decide)
          obtain ⟨b76, y76⟩ : ∃ z, z = h75.size := ⟨_, rfl⟩
          rw [← y76] at A76 st76
          have g_b76 : n0 ≤ b76 := y76.symm ▸ old_sz O0
          have SF_b76 : Safe Z consts_1 s.vm h75 b76 := Safe.new (Nat.le_of_eq y76.symm)
          have ne_b75_b76 : b75 ≠ b76 := Nat.ne_of_lt (y76.symm ▸ E_b75.lt)
          have CHo := CH
          have SF_b75o := SF_b75
          have SF_b76o := SF_b76
          have hk := Nat.le_trans hk E76.1
          have O0 := O0.ext E76
          have SF_b75 := Safe.ext E76 CHo.1 SF_b75o
          have E_b75 := E_b75.ext E76
          have F_coder_b75 := F_coder_b75.ext E76
          have F_value_b75 := F_value_b75.ext E76
          have SF_b76 := Safe.ext E76 CHo.1 SF_b76o
          have CH := CHo.trans (CHr.ext E76 CHo.1)
          have V_b76 : Arv Z h76 b76 k76 .char (9 : Int32) [(.int (0 : Int32)), (.int (0 : Int32)), (.int (0 : Int32)), (.int (0 : Int32)), (.int (0 : Int32)), (.int (0 : Int32)), (.int (0 : Int32)), (.int (0 : Int32)), (.int (0 : Int32))] (.int (0 : Int32)) := (Arv.new A76 (by decide)).pad (pad_rep [] (.int (0 : Int32)) 9)
          refine go st76 ?_
          show Run p e below _ (T76.setTop (mkF m 272 #[.val (.int p0), .val (.int p1), .val (.long l2), .second, .val (.int ((p0 &&& (2147483647 : Int32)) % (3 : Int32))), .val (.ref kd), .val (.int (pk p1 l2 (0 : Int32) (86 : Int32))), .val (.int (pk p1 l2 (1 : Int32) (79 : Int32))), .val (.int (pk p1 l2 (2 : Int32) (95 : Int32))), .val (.int (pk p1 l2 (3 : Int32) (65 : Int32))), .val (.int (pk p1 l2 (4 : Int32) (68 : Int32))), .val (.int (pk p1 l2 (5 : Int32) (77 : Int32))), .val (.int (pk p1 l2 (6 : Int32) (73 : Int32))), .val (.int (pk p1 l2 (7 : Int32) (78 : Int32))), .val (.int ((((p1.toUInt32 >>> ((10 : Int32) &&& 31).toUInt32).toInt32) &&& (255 : Int32)).toUInt32.toUInt16.toUInt32.toInt32)), .val (.int (((p1.toUInt32 >>> ((8 : Int32) &&& 31).toUInt32).toInt32) &&& (3 : Int32))), .unset, .unset, .unset] [(.ref b76), (.ref b75), (.ref b75)]))
          refine go (fun _ => XS.dup X76.here hx rfl (hb hby at_272) rfl rfl) ?_
          show Run p e below _ (T76.setTop (mkF m 273 #[.val (.int p0), .val (.int p1), .val (.long l2), .second, .val (.int ((p0 &&& (2147483647 : Int32)) % (3 : Int32))), .val (.ref kd), .val (.int (pk p1 l2 (0 : Int32) (86 : Int32))), .val (.int (pk p1 l2 (1 : Int32) (79 : Int32))), .val (.int (pk p1 l2 (2 : Int32) (95 : Int32))), .val (.int (pk p1 l2 (3 : Int32) (65 : Int32))), .val (.int (pk p1 l2 (4 : Int32) (68 : Int32))), .val (.int (pk p1 l2 (5 : Int32) (77 : Int32))), .val (.int (pk p1 l2 (6 : Int32) (73 : Int32))), .val (.int (pk p1 l2 (7 : Int32) (78 : Int32))), .val (.int ((((p1.toUInt32 >>> ((10 : Int32) &&& 31).toUInt32).toInt32) &&& (255 : Int32)).toUInt32.toUInt16.toUInt32.toInt32)), .val (.int (((p1.toUInt32 >>> ((8 : Int32) &&& 31).toUInt32).toInt32) &&& (3 : Int32))), .unset, .unset, .unset] [(.ref b76), (.ref b76), (.ref b75), (.ref b75)]))
          refine go (fun _ => XS.iconst X76.here hx rfl (hb hby at_273)) ?_
          show Run p e below _ (T76.setTop (mkF m 274 #[.val (.int p0), .val (.int p1), .val (.long l2), .second, .val (.int ((p0 &&& (2147483647 : Int32)) % (3 : Int32))), .val (.ref kd), .val (.int (pk p1 l2 (0 : Int32) (86 : Int32))), .val (.int (pk p1 l2 (1 : Int32) (79 : Int32))), .val (.int (pk p1 l2 (2 : Int32) (95 : Int32))), .val (.int (pk p1 l2 (3 : Int32) (65 : Int32))), .val (.int (pk p1 l2 (4 : Int32) (68 : Int32))), .val (.int (pk p1 l2 (5 : Int32) (77 : Int32))), .val (.int (pk p1 l2 (6 : Int32) (73 : Int32))), .val (.int (pk p1 l2 (7 : Int32) (78 : Int32))), .val (.int ((((p1.toUInt32 >>> ((10 : Int32) &&& 31).toUInt32).toInt32) &&& (255 : Int32)).toUInt32.toUInt16.toUInt32.toInt32)), .val (.int (((p1.toUInt32 >>> ((8 : Int32) &&& 31).toUInt32).toInt32) &&& (3 : Int32))), .unset, .unset, .unset] [(.int (0 : Int32)), (.ref b76), (.ref b76), (.ref b75), (.ref b75)]))
          refine go (fun _ => XS.iload X76.here hx rfl (hb hby at_274) rfl) ?_
          show Run p e below _ (T76.setTop (mkF m 276 #[.val (.int p0), .val (.int p1), .val (.long l2), .second, .val (.int ((p0 &&& (2147483647 : Int32)) % (3 : Int32))), .val (.ref kd), .val (.int (pk p1 l2 (0 : Int32) (86 : Int32))), .val (.int (pk p1 l2 (1 : Int32) (79 : Int32))), .val (.int (pk p1 l2 (2 : Int32) (95 : Int32))), .val (.int (pk p1 l2 (3 : Int32) (65 : Int32))), .val (.int (pk p1 l2 (4 : Int32) (68 : Int32))), .val (.int (pk p1 l2 (5 : Int32) (77 : Int32))), .val (.int (pk p1 l2 (6 : Int32) (73 : Int32))), .val (.int (pk p1 l2 (7 : Int32) (78 : Int32))), .val (.int ((((p1.toUInt32 >>> ((10 : Int32) &&& 31).toUInt32).toInt32) &&& (255 : Int32)).toUInt32.toUInt16.toUInt32.toInt32)), .val (.int (((p1.toUInt32 >>> ((8 : Int32) &&& 31).toUInt32).toInt32) &&& (3 : Int32))), .unset, .unset, .unset] [(.int (pk p1 l2 (0 : Int32) (86 : Int32))), (.int (0 : Int32)), (.ref b76), (.ref b76), (.ref b75), (.ref b75)]))
          obtain ⟨cl77, Ar77, ak77, as77, an77, ah77, ag77⟩ := id V_b76
          have hin77 := inb_of as77 (j := (0 : Int32)) ⟨by decide, by decide⟩
          obtain ⟨T77, h77, X77, e77, W77, st77⟩ := stC X76 hx hZ e76 Ar77 (j := (0 : Int32)) hin77 (g := (mkF m 276 #[.val (.int p0), .val (.int p1), .val (.long l2), .second, .val (.int ((p0 &&& (2147483647 : Int32)) % (3 : Int32))), .val (.ref kd), .val (.int (pk p1 l2 (0 : Int32) (86 : Int32))), .val (.int (pk p1 l2 (1 : Int32) (79 : Int32))), .val (.int (pk p1 l2 (2 : Int32) (95 : Int32))), .val (.int (pk p1 l2 (3 : Int32) (65 : Int32))), .val (.int (pk p1 l2 (4 : Int32) (68 : Int32))), .val (.int (pk p1 l2 (5 : Int32) (77 : Int32))), .val (.int (pk p1 l2 (6 : Int32) (73 : Int32))), .val (.int (pk p1 l2 (7 : Int32) (78 : Int32))), .val (.int ((((p1.toUInt32 >>> ((10 : Int32) &&& 31).toUInt32).toInt32) &&& (255 : Int32)).toUInt32.toUInt16.toUInt32.toInt32)), .val (.int (((p1.toUInt32 >>> ((8 : Int32) &&& 31).toUInt32).toInt32) &&& (3 : Int32))), .unset, .unset, .unset] [(.int (pk p1 l2 (0 : Int32) (86 : Int32))), (.int (0 : Int32)), (.ref b76), (.ref b76), (.ref b75), (.ref b75)])) rfl rfl (hb hby at_276)
          have W77' : Wr _ _ _ _ (.int (pk p1 l2 (0 : Int32) (86 : Int32))) := (pk_nc p1 l2 (0 : Int32) (86 : Int32) (by decide)) ▸ W77
          have CHo := CH
          have SF_b75o := SF_b75
          have SF_b76o := SF_b76
          have hk := Nat.le_trans hk (wr_sz W77')
          have SF_b75 := Safe.wr W77' SF_b76o CHo.1 SF_b75o
          have SF_b76 := Safe.wr W77' SF_b76o CHo.1 SF_b76o
          have CH := CHo.trans (CHr.wr W77' SF_b76o CHo.1)
          have O0 := O0.wr W77' g_b76
          have E_b75 := E_b75.wr W77'
          have F_coder_b75 := F_coder_b75.other W77' (Or.inl ne_b75_b76)
          have F_value_b75 := F_value_b75.other W77' (Or.inl ne_b75_b76)
          have V_b76 := (Arv.set Ar77 ak77 as77 an77 ah77 ag77 ((pk_nc p1 l2 (0 : Int32) (86 : Int32) (by decide)) ▸ (fits_nar_char _)) W77' 0 rfl (Nat.le_of_ble_eq_true rfl) : Arv Z h77 b76 k76 .char (9 : Int32) [(.int (pk p1 l2 (0 : Int32) (86 : Int32))), (.int (0 : Int32)), (.int (0 : Int32)), (.int (0 : Int32)), (.int (0 : Int32)), (.int (0 : Int32)), (.int (0 : Int32)), (.int (0 : Int32)), (.int (0 : Int32))] (.int (0 : Int32)))
          have N77 := Fr.snoc X77 N28 g_b76
          refine go st77 ?_
          show Run p e below _ (T77.setTop (mkF m 277 #[.val (.int p0), .val (.int p1), .val (.long l2), .second, .val (.int ((p0 &&& (2147483647 : Int32)) % (3 : Int32))), .val (.ref kd), .val (.int (pk p1 l2 (0 : Int32) (86 : Int32))), .val (.int (pk p1 l2 (1 : Int32) (79 : Int32))), .val (.int (pk p1 l2 (2 : Int32) (95 : Int32))), .val (.int (pk p1 l2 (3 : Int32) (65 : Int32))), .val (.int (pk p1 l2 (4 : Int32) (68 : Int32))), .val (.int (pk p1 l2 (5 : Int32) (77 : Int32))), .val (.int (pk p1 l2 (6 : Int32) (73 : Int32))), .val (.int (pk p1 l2 (7 : Int32) (78 : Int32))), .val (.int ((((p1.toUInt32 >>> ((10 : Int32) &&& 31).toUInt32).toInt32) &&& (255 : Int32)).toUInt32.toUInt16.toUInt32.toInt32)), .val (.int (((p1.toUInt32 >>> ((8 : Int32) &&& 31).toUInt32).toInt32) &&& (3 : Int32))), .unset, .unset, .unset] [(.ref b76), (.ref b75), (.ref b75)]))
          refine go (fun _ => XS.dup X77.here hx rfl (hb hby at_277) rfl rfl) ?_
          show Run p e below _ (T77.setTop (mkF m 278 #[.val (.int p0), .val (.int p1), .val (.long l2), .second, .val (.int ((p0 &&& (2147483647 : Int32)) % (3 : Int32))), .val (.ref kd), .val (.int (pk p1 l2 (0 : Int32) (86 : Int32))), .val (.int (pk p1 l2 (1 : Int32) (79 : Int32))), .val (.int (pk p1 l2 (2 : Int32) (95 : Int32))), .val (.int (pk p1 l2 (3 : Int32) (65 : Int32))), .val (.int (pk p1 l2 (4 : Int32) (68 : Int32))), .val (.int (pk p1 l2 (5 : Int32) (77 : Int32))), .val (.int (pk p1 l2 (6 : Int32) (73 : Int32))), .val (.int (pk p1 l2 (7 : Int32) (78 : Int32))), .val (.int ((((p1.toUInt32 >>> ((10 : Int32) &&& 31).toUInt32).toInt32) &&& (255 : Int32)).toUInt32.toUInt16.toUInt32.toInt32)), .val (.int (((p1.toUInt32 >>> ((8 : Int32) &&& 31).toUInt32).toInt32) &&& (3 : Int32))), .unset, .unset, .unset] [(.ref b76), (.ref b76), (.ref b75), (.ref b75)]))
          refine go (fun _ => XS.iconst X77.here hx rfl (hb hby at_278)) ?_
          show Run p e below _ (T77.setTop (mkF m 279 #[.val (.int p0), .val (.int p1), .val (.long l2), .second, .val (.int ((p0 &&& (2147483647 : Int32)) % (3 : Int32))), .val (.ref kd), .val (.int (pk p1 l2 (0 : Int32) (86 : Int32))), .val (.int (pk p1 l2 (1 : Int32) (79 : Int32))), .val (.int (pk p1 l2 (2 : Int32) (95 : Int32))), .val (.int (pk p1 l2 (3 : Int32) (65 : Int32))), .val (.int (pk p1 l2 (4 : Int32) (68 : Int32))), .val (.int (pk p1 l2 (5 : Int32) (77 : Int32))), .val (.int (pk p1 l2 (6 : Int32) (73 : Int32))), .val (.int (pk p1 l2 (7 : Int32) (78 : Int32))), .val (.int ((((p1.toUInt32 >>> ((10 : Int32) &&& 31).toUInt32).toInt32) &&& (255 : Int32)).toUInt32.toUInt16.toUInt32.toInt32)), .val (.int (((p1.toUInt32 >>> ((8 : Int32) &&& 31).toUInt32).toInt32) &&& (3 : Int32))), .unset, .unset, .unset] [(.int (1 : Int32)), (.ref b76), (.ref b76), (.ref b75), (.ref b75)]))
          refine go (fun _ => XS.iload X77.here hx rfl (hb hby at_279) rfl) ?_
          show Run p e below _ (T77.setTop (mkF m 281 #[.val (.int p0), .val (.int p1), .val (.long l2), .second, .val (.int ((p0 &&& (2147483647 : Int32)) % (3 : Int32))), .val (.ref kd), .val (.int (pk p1 l2 (0 : Int32) (86 : Int32))), .val (.int (pk p1 l2 (1 : Int32) (79 : Int32))), .val (.int (pk p1 l2 (2 : Int32) (95 : Int32))), .val (.int (pk p1 l2 (3 : Int32) (65 : Int32))), .val (.int (pk p1 l2 (4 : Int32) (68 : Int32))), .val (.int (pk p1 l2 (5 : Int32) (77 : Int32))), .val (.int (pk p1 l2 (6 : Int32) (73 : Int32))), .val (.int (pk p1 l2 (7 : Int32) (78 : Int32))), .val (.int ((((p1.toUInt32 >>> ((10 : Int32) &&& 31).toUInt32).toInt32) &&& (255 : Int32)).toUInt32.toUInt16.toUInt32.toInt32)), .val (.int (((p1.toUInt32 >>> ((8 : Int32) &&& 31).toUInt32).toInt32) &&& (3 : Int32))), .unset, .unset, .unset] [(.int (pk p1 l2 (1 : Int32) (79 : Int32))), (.int (1 : Int32)), (.ref b76), (.ref b76), (.ref b75), (.ref b75)]))
          obtain ⟨cl78, Ar78, ak78, as78, an78, ah78, ag78⟩ := id V_b76
          have hin78 := inb_of as78 (j := (1 : Int32)) ⟨by decide, by decide⟩
          obtain ⟨T78, h78, X78, e78, W78, st78⟩ := stC X77 hx hZ e77 Ar78 (j := (1 : Int32)) hin78 (g := (mkF m 281 #[.val (.int p0), .val (.int p1), .val (.long l2), .second, .val (.int ((p0 &&& (2147483647 : Int32)) % (3 : Int32))), .val (.ref kd), .val (.int (pk p1 l2 (0 : Int32) (86 : Int32))), .val (.int (pk p1 l2 (1 : Int32) (79 : Int32))), .val (.int (pk p1 l2 (2 : Int32) (95 : Int32))), .val (.int (pk p1 l2 (3 : Int32) (65 : Int32))), .val (.int (pk p1 l2 (4 : Int32) (68 : Int32))), .val (.int (pk p1 l2 (5 : Int32) (77 : Int32))), .val (.int (pk p1 l2 (6 : Int32) (73 : Int32))), .val (.int (pk p1 l2 (7 : Int32) (78 : Int32))), .val (.int ((((p1.toUInt32 >>> ((10 : Int32) &&& 31).toUInt32).toInt32) &&& (255 : Int32)).toUInt32.toUInt16.toUInt32.toInt32)), .val (.int (((p1.toUInt32 >>> ((8 : Int32) &&& 31).toUInt32).toInt32) &&& (3 : Int32))), .unset, .unset, .unset] [(.int (pk p1 l2 (1 : Int32) (79 : Int32))), (.int (1 : Int32)), (.ref b76), (.ref b76), (.ref b75), (.ref b75)])) rfl rfl (hb hby at_281)
          have W78' : Wr _ _ _ _ (.int (pk p1 l2 (1 : Int32) (79 : Int32))) := (pk_nc p1 l2 (1 : Int32) (79 : Int32) (by decide)) ▸ W78
          have CHo := CH
          have SF_b75o := SF_b75
          have SF_b76o := SF_b76
          have hk := Nat.le_trans hk (wr_sz W78')
          have SF_b75 := Safe.wr W78' SF_b76o CHo.1 SF_b75o
          have SF_b76 := Safe.wr W78' SF_b76o CHo.1 SF_b76o
          have CH := CHo.trans (CHr.wr W78' SF_b76o CHo.1)
          have O0 := O0.wr W78' g_b76
          have E_b75 := E_b75.wr W78'
          have F_coder_b75 := F_coder_b75.other W78' (Or.inl ne_b75_b76)
          have F_value_b75 := F_value_b75.other W78' (Or.inl ne_b75_b76)
          have V_b76 := (Arv.set Ar78 ak78 as78 an78 ah78 ag78 ((pk_nc p1 l2 (1 : Int32) (79 : Int32) (by decide)) ▸ (fits_nar_char _)) W78' 1 rfl (Nat.le_of_ble_eq_true rfl) : Arv Z h78 b76 k76 .char (9 : Int32) [(.int (pk p1 l2 (0 : Int32) (86 : Int32))), (.int (pk p1 l2 (1 : Int32) (79 : Int32))), (.int (0 : Int32)), (.int (0 : Int32)), (.int (0 : Int32)), (.int (0 : Int32)), (.int (0 : Int32)), (.int (0 : Int32)), (.int (0 : Int32))] (.int (0 : Int32)))
          have N78 := Fr.snoc X78 N77 g_b76
          refine go st78 ?_
          show Run p e below _ (T78.setTop (mkF m 282 #[.val (.int p0), .val (.int p1), .val (.long l2), .second, .val (.int ((p0 &&& (2147483647 : Int32)) % (3 : Int32))), .val (.ref kd), .val (.int (pk p1 l2 (0 : Int32) (86 : Int32))), .val (.int (pk p1 l2 (1 : Int32) (79 : Int32))), .val (.int (pk p1 l2 (2 : Int32) (95 : Int32))), .val (.int (pk p1 l2 (3 : Int32) (65 : Int32))), .val (.int (pk p1 l2 (4 : Int32) (68 : Int32))), .val (.int (pk p1 l2 (5 : Int32) (77 : Int32))), .val (.int (pk p1 l2 (6 : Int32) (73 : Int32))), .val (.int (pk p1 l2 (7 : Int32) (78 : Int32))), .val (.int ((((p1.toUInt32 >>> ((10 : Int32) &&& 31).toUInt32).toInt32) &&& (255 : Int32)).toUInt32.toUInt16.toUInt32.toInt32)), .val (.int (((p1.toUInt32 >>> ((8 : Int32) &&& 31).toUInt32).toInt32) &&& (3 : Int32))), .unset, .unset, .unset] [(.ref b76), (.ref b75), (.ref b75)]))
          refine go (fun _ => XS.dup X78.here hx rfl (hb hby at_282) rfl rfl) ?_
          show Run p e below _ (T78.setTop (mkF m 283 #[.val (.int p0), .val (.int p1), .val (.long l2), .second, .val (.int ((p0 &&& (2147483647 : Int32)) % (3 : Int32))), .val (.ref kd), .val (.int (pk p1 l2 (0 : Int32) (86 : Int32))), .val (.int (pk p1 l2 (1 : Int32) (79 : Int32))), .val (.int (pk p1 l2 (2 : Int32) (95 : Int32))), .val (.int (pk p1 l2 (3 : Int32) (65 : Int32))), .val (.int (pk p1 l2 (4 : Int32) (68 : Int32))), .val (.int (pk p1 l2 (5 : Int32) (77 : Int32))), .val (.int (pk p1 l2 (6 : Int32) (73 : Int32))), .val (.int (pk p1 l2 (7 : Int32) (78 : Int32))), .val (.int ((((p1.toUInt32 >>> ((10 : Int32) &&& 31).toUInt32).toInt32) &&& (255 : Int32)).toUInt32.toUInt16.toUInt32.toInt32)), .val (.int (((p1.toUInt32 >>> ((8 : Int32) &&& 31).toUInt32).toInt32) &&& (3 : Int32))), .unset, .unset, .unset] [(.ref b76), (.ref b76), (.ref b75), (.ref b75)]))
          refine go (fun _ => XS.iconst X78.here hx rfl (hb hby at_283)) ?_
          show Run p e below _ (T78.setTop (mkF m 284 #[.val (.int p0), .val (.int p1), .val (.long l2), .second, .val (.int ((p0 &&& (2147483647 : Int32)) % (3 : Int32))), .val (.ref kd), .val (.int (pk p1 l2 (0 : Int32) (86 : Int32))), .val (.int (pk p1 l2 (1 : Int32) (79 : Int32))), .val (.int (pk p1 l2 (2 : Int32) (95 : Int32))), .val (.int (pk p1 l2 (3 : Int32) (65 : Int32))), .val (.int (pk p1 l2 (4 : Int32) (68 : Int32))), .val (.int (pk p1 l2 (5 : Int32) (77 : Int32))), .val (.int (pk p1 l2 (6 : Int32) (73 : Int32))), .val (.int (pk p1 l2 (7 : Int32) (78 : Int32))), .val (.int ((((p1.toUInt32 >>> ((10 : Int32) &&& 31).toUInt32).toInt32) &&& (255 : Int32)).toUInt32.toUInt16.toUInt32.toInt32)), .val (.int (((p1.toUInt32 >>> ((8 : Int32) &&& 31).toUInt32).toInt32) &&& (3 : Int32))), .unset, .unset, .unset] [(.int (2 : Int32)), (.ref b76), (.ref b76), (.ref b75), (.ref b75)]))
          refine go (fun _ => XS.iload X78.here hx rfl (hb hby at_284) rfl) ?_
          show Run p e below _ (T78.setTop (mkF m 286 #[.val (.int p0), .val (.int p1), .val (.long l2), .second, .val (.int ((p0 &&& (2147483647 : Int32)) % (3 : Int32))), .val (.ref kd), .val (.int (pk p1 l2 (0 : Int32) (86 : Int32))), .val (.int (pk p1 l2 (1 : Int32) (79 : Int32))), .val (.int (pk p1 l2 (2 : Int32) (95 : Int32))), .val (.int (pk p1 l2 (3 : Int32) (65 : Int32))), .val (.int (pk p1 l2 (4 : Int32) (68 : Int32))), .val (.int (pk p1 l2 (5 : Int32) (77 : Int32))), .val (.int (pk p1 l2 (6 : Int32) (73 : Int32))), .val (.int (pk p1 l2 (7 : Int32) (78 : Int32))), .val (.int ((((p1.toUInt32 >>> ((10 : Int32) &&& 31).toUInt32).toInt32) &&& (255 : Int32)).toUInt32.toUInt16.toUInt32.toInt32)), .val (.int (((p1.toUInt32 >>> ((8 : Int32) &&& 31).toUInt32).toInt32) &&& (3 : Int32))), .unset, .unset, .unset] [(.int (pk p1 l2 (2 : Int32) (95 : Int32))), (.int (2 : Int32)), (.ref b76), (.ref b76), (.ref b75), (.ref b75)]))
          obtain ⟨cl79, Ar79, ak79, as79, an79, ah79, ag79⟩ := id V_b76
          have hin79 := inb_of as79 (j := (2 : Int32)) ⟨by decide, by decide⟩
          obtain ⟨T79, h79, X79, e79, W79, st79⟩ := stC X78 hx hZ e78 Ar79 (j := (2 : Int32)) hin79 (g := (mkF m 286 #[.val (.int p0), .val (.int p1), .val (.long l2), .second, .val (.int ((p0 &&& (2147483647 : Int32)) % (3 : Int32))), .val (.ref kd), .val (.int (pk p1 l2 (0 : Int32) (86 : Int32))), .val (.int (pk p1 l2 (1 : Int32) (79 : Int32))), .val (.int (pk p1 l2 (2 : Int32) (95 : Int32))), .val (.int (pk p1 l2 (3 : Int32) (65 : Int32))), .val (.int (pk p1 l2 (4 : Int32) (68 : Int32))), .val (.int (pk p1 l2 (5 : Int32) (77 : Int32))), .val (.int (pk p1 l2 (6 : Int32) (73 : Int32))), .val (.int (pk p1 l2 (7 : Int32) (78 : Int32))), .val (.int ((((p1.toUInt32 >>> ((10 : Int32) &&& 31).toUInt32).toInt32) &&& (255 : Int32)).toUInt32.toUInt16.toUInt32.toInt32)), .val (.int (((p1.toUInt32 >>> ((8 : Int32) &&& 31).toUInt32).toInt32) &&& (3 : Int32))), .unset, .unset, .unset] [(.int (pk p1 l2 (2 : Int32) (95 : Int32))), (.int (2 : Int32)), (.ref b76), (.ref b76), (.ref b75), (.ref b75)])) rfl rfl (hb hby at_286)
          have W79' : Wr _ _ _ _ (.int (pk p1 l2 (2 : Int32) (95 : Int32))) := (pk_nc p1 l2 (2 : Int32) (95 : Int32) (by decide)) ▸ W79
          have CHo := CH
          have SF_b75o := SF_b75
          have SF_b76o := SF_b76
          have hk := Nat.le_trans hk (wr_sz W79')
          have SF_b75 := Safe.wr W79' SF_b76o CHo.1 SF_b75o
          have SF_b76 := Safe.wr W79' SF_b76o CHo.1 SF_b76o
          have CH := CHo.trans (CHr.wr W79' SF_b76o CHo.1)
          have O0 := O0.wr W79' g_b76
          have E_b75 := E_b75.wr W79'
          have F_coder_b75 := F_coder_b75.other W79' (Or.inl ne_b75_b76)
          have F_value_b75 := F_value_b75.other W79' (Or.inl ne_b75_b76)
          have V_b76 := (Arv.set Ar79 ak79 as79 an79 ah79 ag79 ((pk_nc p1 l2 (2 : Int32) (95 : Int32) (by decide)) ▸ (fits_nar_char _)) W79' 2 rfl (Nat.le_of_ble_eq_true rfl) : Arv Z h79 b76 k76 .char (9 : Int32) [(.int (pk p1 l2 (0 : Int32) (86 : Int32))), (.int (pk p1 l2 (1 : Int32) (79 : Int32))), (.int (pk p1 l2 (2 : Int32) (95 : Int32))), (.int (0 : Int32)), (.int (0 : Int32)), (.int (0 : Int32)), (.int (0 : Int32)), (.int (0 : Int32)), (.int (0 : Int32))] (.int (0 : Int32)))
          have N79 := Fr.snoc X79 N78 g_b76
          refine go st79 ?_
          show Run p e below _ (T79.setTop (mkF m 287 #[.val (.int p0), .val (.int p1), .val (.long l2), .second, .val (.int ((p0 &&& (2147483647 : Int32)) % (3 : Int32))), .val (.ref kd), .val (.int (pk p1 l2 (0 : Int32) (86 : Int32))), .val (.int (pk p1 l2 (1 : Int32) (79 : Int32))), .val (.int (pk p1 l2 (2 : Int32) (95 : Int32))), .val (.int (pk p1 l2 (3 : Int32) (65 : Int32))), .val (.int (pk p1 l2 (4 : Int32) (68 : Int32))), .val (.int (pk p1 l2 (5 : Int32) (77 : Int32))), .val (.int (pk p1 l2 (6 : Int32) (73 : Int32))), .val (.int (pk p1 l2 (7 : Int32) (78 : Int32))), .val (.int ((((p1.toUInt32 >>> ((10 : Int32) &&& 31).toUInt32).toInt32) &&& (255 : Int32)).toUInt32.toUInt16.toUInt32.toInt32)), .val (.int (((p1.toUInt32 >>> ((8 : Int32) &&& 31).toUInt32).toInt32) &&& (3 : Int32))), .unset, .unset, .unset] [(.ref b76), (.ref b75), (.ref b75)]))
          refine go (fun _ => XS.dup X79.here hx rfl (hb hby at_287) rfl rfl) ?_
          show Run p e below _ (T79.setTop (mkF m 288 #[.val (.int p0), .val (.int p1), .val (.long l2), .second, .val (.int ((p0 &&& (2147483647 : Int32)) % (3 : Int32))), .val (.ref kd), .val (.int (pk p1 l2 (0 : Int32) (86 : Int32))), .val (.int (pk p1 l2 (1 : Int32) (79 : Int32))), .val (.int (pk p1 l2 (2 : Int32) (95 : Int32))), .val (.int (pk p1 l2 (3 : Int32) (65 : Int32))), .val (.int (pk p1 l2 (4 : Int32) (68 : Int32))), .val (.int (pk p1 l2 (5 : Int32) (77 : Int32))), .val (.int (pk p1 l2 (6 : Int32) (73 : Int32))), .val (.int (pk p1 l2 (7 : Int32) (78 : Int32))), .val (.int ((((p1.toUInt32 >>> ((10 : Int32) &&& 31).toUInt32).toInt32) &&& (255 : Int32)).toUInt32.toUInt16.toUInt32.toInt32)), .val (.int (((p1.toUInt32 >>> ((8 : Int32) &&& 31).toUInt32).toInt32) &&& (3 : Int32))), .unset, .unset, .unset] [(.ref b76), (.ref b76), (.ref b75), (.ref b75)]))
          refine go (fun _ => XS.iconst X79.here hx rfl (hb hby at_288)) ?_
          show Run p e below _ (T79.setTop (mkF m 289 #[.val (.int p0), .val (.int p1), .val (.long l2), .second, .val (.int ((p0 &&& (2147483647 : Int32)) % (3 : Int32))), .val (.ref kd), .val (.int (pk p1 l2 (0 : Int32) (86 : Int32))), .val (.int (pk p1 l2 (1 : Int32) (79 : Int32))), .val (.int (pk p1 l2 (2 : Int32) (95 : Int32))), .val (.int (pk p1 l2 (3 : Int32) (65 : Int32))), .val (.int (pk p1 l2 (4 : Int32) (68 : Int32))), .val (.int (pk p1 l2 (5 : Int32) (77 : Int32))), .val (.int (pk p1 l2 (6 : Int32) (73 : Int32))), .val (.int (pk p1 l2 (7 : Int32) (78 : Int32))), .val (.int ((((p1.toUInt32 >>> ((10 : Int32) &&& 31).toUInt32).toInt32) &&& (255 : Int32)).toUInt32.toUInt16.toUInt32.toInt32)), .val (.int (((p1.toUInt32 >>> ((8 : Int32) &&& 31).toUInt32).toInt32) &&& (3 : Int32))), .unset, .unset, .unset] [(.int (3 : Int32)), (.ref b76), (.ref b76), (.ref b75), (.ref b75)]))
          refine go (fun _ => XS.iload X79.here hx rfl (hb hby at_289) rfl) ?_
          show Run p e below _ (T79.setTop (mkF m 291 #[.val (.int p0), .val (.int p1), .val (.long l2), .second, .val (.int ((p0 &&& (2147483647 : Int32)) % (3 : Int32))), .val (.ref kd), .val (.int (pk p1 l2 (0 : Int32) (86 : Int32))), .val (.int (pk p1 l2 (1 : Int32) (79 : Int32))), .val (.int (pk p1 l2 (2 : Int32) (95 : Int32))), .val (.int (pk p1 l2 (3 : Int32) (65 : Int32))), .val (.int (pk p1 l2 (4 : Int32) (68 : Int32))), .val (.int (pk p1 l2 (5 : Int32) (77 : Int32))), .val (.int (pk p1 l2 (6 : Int32) (73 : Int32))), .val (.int (pk p1 l2 (7 : Int32) (78 : Int32))), .val (.int ((((p1.toUInt32 >>> ((10 : Int32) &&& 31).toUInt32).toInt32) &&& (255 : Int32)).toUInt32.toUInt16.toUInt32.toInt32)), .val (.int (((p1.toUInt32 >>> ((8 : Int32) &&& 31).toUInt32).toInt32) &&& (3 : Int32))), .unset, .unset, .unset] [(.int (pk p1 l2 (3 : Int32) (65 : Int32))), (.int (3 : Int32)), (.ref b76), (.ref b76), (.ref b75), (.ref b75)]))
          obtain ⟨cl80, Ar80, ak80, as80, an80, ah80, ag80⟩ := id V_b76
          have hin80 := inb_of as80 (j := (3 : Int32)) ⟨by decide, by decide⟩
          obtain ⟨T80, h80, X80, e80, W80, st80⟩ := stC X79 hx hZ e79 Ar80 (j := (3 : Int32)) hin80 (g := (mkF m 291 #[.val (.int p0), .val (.int p1), .val (.long l2), .second, .val (.int ((p0 &&& (2147483647 : Int32)) % (3 : Int32))), .val (.ref kd), .val (.int (pk p1 l2 (0 : Int32) (86 : Int32))), .val (.int (pk p1 l2 (1 : Int32) (79 : Int32))), .val (.int (pk p1 l2 (2 : Int32) (95 : Int32))), .val (.int (pk p1 l2 (3 : Int32) (65 : Int32))), .val (.int (pk p1 l2 (4 : Int32) (68 : Int32))), .val (.int (pk p1 l2 (5 : Int32) (77 : Int32))), .val (.int (pk p1 l2 (6 : Int32) (73 : Int32))), .val (.int (pk p1 l2 (7 : Int32) (78 : Int32))), .val (.int ((((p1.toUInt32 >>> ((10 : Int32) &&& 31).toUInt32).toInt32) &&& (255 : Int32)).toUInt32.toUInt16.toUInt32.toInt32)), .val (.int (((p1.toUInt32 >>> ((8 : Int32) &&& 31).toUInt32).toInt32) &&& (3 : Int32))), .unset, .unset, .unset] [(.int (pk p1 l2 (3 : Int32) (65 : Int32))), (.int (3 : Int32)), (.ref b76), (.ref b76), (.ref b75), (.ref b75)])) rfl rfl (hb hby at_291)
          have W80' : Wr _ _ _ _ (.int (pk p1 l2 (3 : Int32) (65 : Int32))) := (pk_nc p1 l2 (3 : Int32) (65 : Int32) (by decide)) ▸ W80
          have CHo := CH
          have SF_b75o := SF_b75
          have SF_b76o := SF_b76
          have hk := Nat.le_trans hk (wr_sz W80')
          have SF_b75 := Safe.wr W80' SF_b76o CHo.1 SF_b75o
          have SF_b76 := Safe.wr W80' SF_b76o CHo.1 SF_b76o
          have CH := CHo.trans (CHr.wr W80' SF_b76o CHo.1)
          have O0 := O0.wr W80' g_b76
          have E_b75 := E_b75.wr W80'
          have F_coder_b75 := F_coder_b75.other W80' (Or.inl ne_b75_b76)
          have F_value_b75 := F_value_b75.other W80' (Or.inl ne_b75_b76)
          have V_b76 := (Arv.set Ar80 ak80 as80 an80 ah80 ag80 ((pk_nc p1 l2 (3 : Int32) (65 : Int32) (by decide)) ▸ (fits_nar_char _)) W80' 3 rfl (Nat.le_of_ble_eq_true rfl) : Arv Z h80 b76 k76 .char (9 : Int32) [(.int (pk p1 l2 (0 : Int32) (86 : Int32))), (.int (pk p1 l2 (1 : Int32) (79 : Int32))), (.int (pk p1 l2 (2 : Int32) (95 : Int32))), (.int (pk p1 l2 (3 : Int32) (65 : Int32))), (.int (0 : Int32)), (.int (0 : Int32)), (.int (0 : Int32)), (.int (0 : Int32)), (.int (0 : Int32))] (.int (0 : Int32)))
          have N80 := Fr.snoc X80 N79 g_b76
          refine go st80 ?_
          show Run p e below _ (T80.setTop (mkF m 292 #[.val (.int p0), .val (.int p1), .val (.long l2), .second, .val (.int ((p0 &&& (2147483647 : Int32)) % (3 : Int32))), .val (.ref kd), .val (.int (pk p1 l2 (0 : Int32) (86 : Int32))), .val (.int (pk p1 l2 (1 : Int32) (79 : Int32))), .val (.int (pk p1 l2 (2 : Int32) (95 : Int32))), .val (.int (pk p1 l2 (3 : Int32) (65 : Int32))), .val (.int (pk p1 l2 (4 : Int32) (68 : Int32))), .val (.int (pk p1 l2 (5 : Int32) (77 : Int32))), .val (.int (pk p1 l2 (6 : Int32) (73 : Int32))), .val (.int (pk p1 l2 (7 : Int32) (78 : Int32))), .val (.int ((((p1.toUInt32 >>> ((10 : Int32) &&& 31).toUInt32).toInt32) &&& (255 : Int32)).toUInt32.toUInt16.toUInt32.toInt32)), .val (.int (((p1.toUInt32 >>> ((8 : Int32) &&& 31).toUInt32).toInt32) &&& (3 : Int32))), .unset, .unset, .unset] [(.ref b76), (.ref b75), (.ref b75)]))
          refine go (fun _ => XS.dup X80.here hx rfl (hb hby at_292) rfl rfl) ?_
          show Run p e below _ (T80.setTop (mkF m 293 #[.val (.int p0), .val (.int p1), .val (.long l2), .second, .val (.int ((p0 &&& (2147483647 : Int32)) % (3 : Int32))), .val (.ref kd), .val (.int (pk p1 l2 (0 : Int32) (86 : Int32))), .val (.int (pk p1 l2 (1 : Int32) (79 : Int32))), .val (.int (pk p1 l2 (2 : Int32) (95 : Int32))), .val (.int (pk p1 l2 (3 : Int32) (65 : Int32))), .val (.int (pk p1 l2 (4 : Int32) (68 : Int32))), .val (.int (pk p1 l2 (5 : Int32) (77 : Int32))), .val (.int (pk p1 l2 (6 : Int32) (73 : Int32))), .val (.int (pk p1 l2 (7 : Int32) (78 : Int32))), .val (.int ((((p1.toUInt32 >>> ((10 : Int32) &&& 31).toUInt32).toInt32) &&& (255 : Int32)).toUInt32.toUInt16.toUInt32.toInt32)), .val (.int (((p1.toUInt32 >>> ((8 : Int32) &&& 31).toUInt32).toInt32) &&& (3 : Int32))), .unset, .unset, .unset] [(.ref b76), (.ref b76), (.ref b75), (.ref b75)]))
          refine go (fun _ => XS.iconst X80.here hx rfl (hb hby at_293)) ?_
          show Run p e below _ (T80.setTop (mkF m 294 #[.val (.int p0), .val (.int p1), .val (.long l2), .second, .val (.int ((p0 &&& (2147483647 : Int32)) % (3 : Int32))), .val (.ref kd), .val (.int (pk p1 l2 (0 : Int32) (86 : Int32))), .val (.int (pk p1 l2 (1 : Int32) (79 : Int32))), .val (.int (pk p1 l2 (2 : Int32) (95 : Int32))), .val (.int (pk p1 l2 (3 : Int32) (65 : Int32))), .val (.int (pk p1 l2 (4 : Int32) (68 : Int32))), .val (.int (pk p1 l2 (5 : Int32) (77 : Int32))), .val (.int (pk p1 l2 (6 : Int32) (73 : Int32))), .val (.int (pk p1 l2 (7 : Int32) (78 : Int32))), .val (.int ((((p1.toUInt32 >>> ((10 : Int32) &&& 31).toUInt32).toInt32) &&& (255 : Int32)).toUInt32.toUInt16.toUInt32.toInt32)), .val (.int (((p1.toUInt32 >>> ((8 : Int32) &&& 31).toUInt32).toInt32) &&& (3 : Int32))), .unset, .unset, .unset] [(.int (4 : Int32)), (.ref b76), (.ref b76), (.ref b75), (.ref b75)]))
          refine go (fun _ => XS.iload X80.here hx rfl (hb hby at_294) rfl) ?_
          show Run p e below _ (T80.setTop (mkF m 296 #[.val (.int p0), .val (.int p1), .val (.long l2), .second, .val (.int ((p0 &&& (2147483647 : Int32)) % (3 : Int32))), .val (.ref kd), .val (.int (pk p1 l2 (0 : Int32) (86 : Int32))), .val (.int (pk p1 l2 (1 : Int32) (79 : Int32))), .val (.int (pk p1 l2 (2 : Int32) (95 : Int32))), .val (.int (pk p1 l2 (3 : Int32) (65 : Int32))), .val (.int (pk p1 l2 (4 : Int32) (68 : Int32))), .val (.int (pk p1 l2 (5 : Int32) (77 : Int32))), .val (.int (pk p1 l2 (6 : Int32) (73 : Int32))), .val (.int (pk p1 l2 (7 : Int32) (78 : Int32))), .val (.int ((((p1.toUInt32 >>> ((10 : Int32) &&& 31).toUInt32).toInt32) &&& (255 : Int32)).toUInt32.toUInt16.toUInt32.toInt32)), .val (.int (((p1.toUInt32 >>> ((8 : Int32) &&& 31).toUInt32).toInt32) &&& (3 : Int32))), .unset, .unset, .unset] [(.int (pk p1 l2 (4 : Int32) (68 : Int32))), (.int (4 : Int32)), (.ref b76), (.ref b76), (.ref b75), (.ref b75)]))
          obtain ⟨cl81, Ar81, ak81, as81, an81, ah81, ag81⟩ := id V_b76
          have hin81 := inb_of as81 (j := (4 : Int32)) ⟨by decide, by decide⟩
          obtain ⟨T81, h81, X81, e81, W81, st81⟩ := stC X80 hx hZ e80 Ar81 (j := (4 : Int32)) hin81 (g := (mkF m 296 #[.val (.int p0), .val (.int p1), .val (.long l2), .second, .val (.int ((p0 &&& (2147483647 : Int32)) % (3 : Int32))), .val (.ref kd), .val (.int (pk p1 l2 (0 : Int32) (86 : Int32))), .val (.int (pk p1 l2 (1 : Int32) (79 : Int32))), .val (.int (pk p1 l2 (2 : Int32) (95 : Int32))), .val (.int (pk p1 l2 (3 : Int32) (65 : Int32))), .val (.int (pk p1 l2 (4 : Int32) (68 : Int32))), .val (.int (pk p1 l2 (5 : Int32) (77 : Int32))), .val (.int (pk p1 l2 (6 : Int32) (73 : Int32))), .val (.int (pk p1 l2 (7 : Int32) (78 : Int32))), .val (.int ((((p1.toUInt32 >>> ((10 : Int32) &&& 31).toUInt32).toInt32) &&& (255 : Int32)).toUInt32.toUInt16.toUInt32.toInt32)), .val (.int (((p1.toUInt32 >>> ((8 : Int32) &&& 31).toUInt32).toInt32) &&& (3 : Int32))), .unset, .unset, .unset] [(.int (pk p1 l2 (4 : Int32) (68 : Int32))), (.int (4 : Int32)), (.ref b76), (.ref b76), (.ref b75), (.ref b75)])) rfl rfl (hb hby at_296)
          have W81' : Wr _ _ _ _ (.int (pk p1 l2 (4 : Int32) (68 : Int32))) := (pk_nc p1 l2 (4 : Int32) (68 : Int32) (by decide)) ▸ W81
          have CHo := CH
          have SF_b75o := SF_b75
          have SF_b76o := SF_b76
          have hk := Nat.le_trans hk (wr_sz W81')
          have SF_b75 := Safe.wr W81' SF_b76o CHo.1 SF_b75o
          have SF_b76 := Safe.wr W81' SF_b76o CHo.1 SF_b76o
          have CH := CHo.trans (CHr.wr W81' SF_b76o CHo.1)
          have O0 := O0.wr W81' g_b76
          have E_b75 := E_b75.wr W81'
          have F_coder_b75 := F_coder_b75.other W81' (Or.inl ne_b75_b76)
          have F_value_b75 := F_value_b75.other W81' (Or.inl ne_b75_b76)
          have V_b76 := (Arv.set Ar81 ak81 as81 an81 ah81 ag81 ((pk_nc p1 l2 (4 : Int32) (68 : Int32) (by decide)) ▸ (fits_nar_char _)) W81' 4 rfl (Nat.le_of_ble_eq_true rfl) : Arv Z h81 b76 k76 .char (9 : Int32) [(.int (pk p1 l2 (0 : Int32) (86 : Int32))), (.int (pk p1 l2 (1 : Int32) (79 : Int32))), (.int (pk p1 l2 (2 : Int32) (95 : Int32))), (.int (pk p1 l2 (3 : Int32) (65 : Int32))), (.int (pk p1 l2 (4 : Int32) (68 : Int32))), (.int (0 : Int32)), (.int (0 : Int32)), (.int (0 : Int32)), (.int (0 : Int32))] (.int (0 : Int32)))
          have N81 := Fr.snoc X81 N80 g_b76
          refine go st81 ?_
          show Run p e below _ (T81.setTop (mkF m 297 #[.val (.int p0), .val (.int p1), .val (.long l2), .second, .val (.int ((p0 &&& (2147483647 : Int32)) % (3 : Int32))), .val (.ref kd), .val (.int (pk p1 l2 (0 : Int32) (86 : Int32))), .val (.int (pk p1 l2 (1 : Int32) (79 : Int32))), .val (.int (pk p1 l2 (2 : Int32) (95 : Int32))), .val (.int (pk p1 l2 (3 : Int32) (65 : Int32))), .val (.int (pk p1 l2 (4 : Int32) (68 : Int32))), .val (.int (pk p1 l2 (5 : Int32) (77 : Int32))), .val (.int (pk p1 l2 (6 : Int32) (73 : Int32))), .val (.int (pk p1 l2 (7 : Int32) (78 : Int32))), .val (.int ((((p1.toUInt32 >>> ((10 : Int32) &&& 31).toUInt32).toInt32) &&& (255 : Int32)).toUInt32.toUInt16.toUInt32.toInt32)), .val (.int (((p1.toUInt32 >>> ((8 : Int32) &&& 31).toUInt32).toInt32) &&& (3 : Int32))), .unset, .unset, .unset] [(.ref b76), (.ref b75), (.ref b75)]))
          refine go (fun _ => XS.dup X81.here hx rfl (hb hby at_297) rfl rfl) ?_
          show Run p e below _ (T81.setTop (mkF m 298 #[.val (.int p0), .val (.int p1), .val (.long l2), .second, .val (.int ((p0 &&& (2147483647 : Int32)) % (3 : Int32))), .val (.ref kd), .val (.int (pk p1 l2 (0 : Int32) (86 : Int32))), .val (.int (pk p1 l2 (1 : Int32) (79 : Int32))), .val (.int (pk p1 l2 (2 : Int32) (95 : Int32))), .val (.int (pk p1 l2 (3 : Int32) (65 : Int32))), .val (.int (pk p1 l2 (4 : Int32) (68 : Int32))), .val (.int (pk p1 l2 (5 : Int32) (77 : Int32))), .val (.int (pk p1 l2 (6 : Int32) (73 : Int32))), .val (.int (pk p1 l2 (7 : Int32) (78 : Int32))), .val (.int ((((p1.toUInt32 >>> ((10 : Int32) &&& 31).toUInt32).toInt32) &&& (255 : Int32)).toUInt32.toUInt16.toUInt32.toInt32)), .val (.int (((p1.toUInt32 >>> ((8 : Int32) &&& 31).toUInt32).toInt32) &&& (3 : Int32))), .unset, .unset, .unset] [(.ref b76), (.ref b76), (.ref b75), (.ref b75)]))
          refine go (fun _ => XS.iconst X81.here hx rfl (hb hby at_298)) ?_
          show Run p e below _ (T81.setTop (mkF m 299 #[.val (.int p0), .val (.int p1), .val (.long l2), .second, .val (.int ((p0 &&& (2147483647 : Int32)) % (3 : Int32))), .val (.ref kd), .val (.int (pk p1 l2 (0 : Int32) (86 : Int32))), .val (.int (pk p1 l2 (1 : Int32) (79 : Int32))), .val (.int (pk p1 l2 (2 : Int32) (95 : Int32))), .val (.int (pk p1 l2 (3 : Int32) (65 : Int32))), .val (.int (pk p1 l2 (4 : Int32) (68 : Int32))), .val (.int (pk p1 l2 (5 : Int32) (77 : Int32))), .val (.int (pk p1 l2 (6 : Int32) (73 : Int32))), .val (.int (pk p1 l2 (7 : Int32) (78 : Int32))), .val (.int ((((p1.toUInt32 >>> ((10 : Int32) &&& 31).toUInt32).toInt32) &&& (255 : Int32)).toUInt32.toUInt16.toUInt32.toInt32)), .val (.int (((p1.toUInt32 >>> ((8 : Int32) &&& 31).toUInt32).toInt32) &&& (3 : Int32))), .unset, .unset, .unset] [(.int (5 : Int32)), (.ref b76), (.ref b76), (.ref b75), (.ref b75)]))
          refine go (fun _ => XS.iload X81.here hx rfl (hb hby at_299) rfl) ?_
          show Run p e below _ (T81.setTop (mkF m 301 #[.val (.int p0), .val (.int p1), .val (.long l2), .second, .val (.int ((p0 &&& (2147483647 : Int32)) % (3 : Int32))), .val (.ref kd), .val (.int (pk p1 l2 (0 : Int32) (86 : Int32))), .val (.int (pk p1 l2 (1 : Int32) (79 : Int32))), .val (.int (pk p1 l2 (2 : Int32) (95 : Int32))), .val (.int (pk p1 l2 (3 : Int32) (65 : Int32))), .val (.int (pk p1 l2 (4 : Int32) (68 : Int32))), .val (.int (pk p1 l2 (5 : Int32) (77 : Int32))), .val (.int (pk p1 l2 (6 : Int32) (73 : Int32))), .val (.int (pk p1 l2 (7 : Int32) (78 : Int32))), .val (.int ((((p1.toUInt32 >>> ((10 : Int32) &&& 31).toUInt32).toInt32) &&& (255 : Int32)).toUInt32.toUInt16.toUInt32.toInt32)), .val (.int (((p1.toUInt32 >>> ((8 : Int32) &&& 31).toUInt32).toInt32) &&& (3 : Int32))), .unset, .unset, .unset] [(.int (pk p1 l2 (5 : Int32) (77 : Int32))), (.int (5 : Int32)), (.ref b76), (.ref b76), (.ref b75), (.ref b75)]))
          obtain ⟨cl82, Ar82, ak82, as82, an82, ah82, ag82⟩ := id V_b76
          have hin82 := inb_of as82 (j := (5 : Int32)) ⟨by decide, by decide⟩
          obtain ⟨T82, h82, X82, e82, W82, st82⟩ := stC X81 hx hZ e81 Ar82 (j := (5 : Int32)) hin82 (g := (mkF m 301 #[.val (.int p0), .val (.int p1), .val (.long l2), .second, .val (.int ((p0 &&& (2147483647 : Int32)) % (3 : Int32))), .val (.ref kd), .val (.int (pk p1 l2 (0 : Int32) (86 : Int32))), .val (.int (pk p1 l2 (1 : Int32) (79 : Int32))), .val (.int (pk p1 l2 (2 : Int32) (95 : Int32))), .val (.int (pk p1 l2 (3 : Int32) (65 : Int32))), .val (.int (pk p1 l2 (4 : Int32) (68 : Int32))), .val (.int (pk p1 l2 (5 : Int32) (77 : Int32))), .val (.int (pk p1 l2 (6 : Int32) (73 : Int32))), .val (.int (pk p1 l2 (7 : Int32) (78 : Int32))), .val (.int ((((p1.toUInt32 >>> ((10 : Int32) &&& 31).toUInt32).toInt32) &&& (255 : Int32)).toUInt32.toUInt16.toUInt32.toInt32)), .val (.int (((p1.toUInt32 >>> ((8 : Int32) &&& 31).toUInt32).toInt32) &&& (3 : Int32))), .unset, .unset, .unset] [(.int (pk p1 l2 (5 : Int32) (77 : Int32))), (.int (5 : Int32)), (.ref b76), (.ref b76), (.ref b75), (.ref b75)])) rfl rfl (hb hby at_301)
          have W82' : Wr _ _ _ _ (.int (pk p1 l2 (5 : Int32) (77 : Int32))) := (pk_nc p1 l2 (5 : Int32) (77 : Int32) (by decide)) ▸ W82
          have CHo := CH
          have SF_b75o := SF_b75
          have SF_b76o := SF_b76
          have hk := Nat.le_trans hk (wr_sz W82')
          have SF_b75 := Safe.wr W82' SF_b76o CHo.1 SF_b75o
          have SF_b76 := Safe.wr W82' SF_b76o CHo.1 SF_b76o
          have CH := CHo.trans (CHr.wr W82' SF_b76o CHo.1)
          have O0 := O0.wr W82' g_b76
          have E_b75 := E_b75.wr W82'
          have F_coder_b75 := F_coder_b75.other W82' (Or.inl ne_b75_b76)
          have F_value_b75 := F_value_b75.other W82' (Or.inl ne_b75_b76)
          have V_b76 := (Arv.set Ar82 ak82 as82 an82 ah82 ag82 ((pk_nc p1 l2 (5 : Int32) (77 : Int32) (by decide)) ▸ (fits_nar_char _)) W82' 5 rfl (Nat.le_of_ble_eq_true rfl) : Arv Z h82 b76 k76 .char (9 : Int32) [(.int (pk p1 l2 (0 : Int32) (86 : Int32))), (.int (pk p1 l2 (1 : Int32) (79 : Int32))), (.int (pk p1 l2 (2 : Int32) (95 : Int32))), (.int (pk p1 l2 (3 : Int32) (65 : Int32))), (.int (pk p1 l2 (4 : Int32) (68 : Int32))), (.int (pk p1 l2 (5 : Int32) (77 : Int32))), (.int (0 : Int32)), (.int (0 : Int32)), (.int (0 : Int32))] (.int (0 : Int32)))
          have N82 := Fr.snoc X82 N81 g_b76
          refine go st82 ?_
          show Run p e below _ (T82.setTop (mkF m 302 #[.val (.int p0), .val (.int p1), .val (.long l2), .second, .val (.int ((p0 &&& (2147483647 : Int32)) % (3 : Int32))), .val (.ref kd), .val (.int (pk p1 l2 (0 : Int32) (86 : Int32))), .val (.int (pk p1 l2 (1 : Int32) (79 : Int32))), .val (.int (pk p1 l2 (2 : Int32) (95 : Int32))), .val (.int (pk p1 l2 (3 : Int32) (65 : Int32))), .val (.int (pk p1 l2 (4 : Int32) (68 : Int32))), .val (.int (pk p1 l2 (5 : Int32) (77 : Int32))), .val (.int (pk p1 l2 (6 : Int32) (73 : Int32))), .val (.int (pk p1 l2 (7 : Int32) (78 : Int32))), .val (.int ((((p1.toUInt32 >>> ((10 : Int32) &&& 31).toUInt32).toInt32) &&& (255 : Int32)).toUInt32.toUInt16.toUInt32.toInt32)), .val (.int (((p1.toUInt32 >>> ((8 : Int32) &&& 31).toUInt32).toInt32) &&& (3 : Int32))), .unset, .unset, .unset] [(.ref b76), (.ref b75), (.ref b75)]))
          refine go (fun _ => XS.dup X82.here hx rfl (hb hby at_302) rfl rfl) ?_
          show Run p e below _ (T82.setTop (mkF m 303 #[.val (.int p0), .val (.int p1), .val (.long l2), .second, .val (.int ((p0 &&& (2147483647 : Int32)) % (3 : Int32))), .val (.ref kd), .val (.int (pk p1 l2 (0 : Int32) (86 : Int32))), .val (.int (pk p1 l2 (1 : Int32) (79 : Int32))), .val (.int (pk p1 l2 (2 : Int32) (95 : Int32))), .val (.int (pk p1 l2 (3 : Int32) (65 : Int32))), .val (.int (pk p1 l2 (4 : Int32) (68 : Int32))), .val (.int (pk p1 l2 (5 : Int32) (77 : Int32))), .val (.int (pk p1 l2 (6 : Int32) (73 : Int32))), .val (.int (pk p1 l2 (7 : Int32) (78 : Int32))), .val (.int ((((p1.toUInt32 >>> ((10 : Int32) &&& 31).toUInt32).toInt32) &&& (255 : Int32)).toUInt32.toUInt16.toUInt32.toInt32)), .val (.int (((p1.toUInt32 >>> ((8 : Int32) &&& 31).toUInt32).toInt32) &&& (3 : Int32))), .unset, .unset, .unset] [(.ref b76), (.ref b76), (.ref b75), (.ref b75)]))
          refine go (fun _ => XS.bipush X82.here hx rfl (hb hby at_303)) ?_
          show Run p e below _ (T82.setTop (mkF m 305 #[.val (.int p0), .val (.int p1), .val (.long l2), .second, .val (.int ((p0 &&& (2147483647 : Int32)) % (3 : Int32))), .val (.ref kd), .val (.int (pk p1 l2 (0 : Int32) (86 : Int32))), .val (.int (pk p1 l2 (1 : Int32) (79 : Int32))), .val (.int (pk p1 l2 (2 : Int32) (95 : Int32))), .val (.int (pk p1 l2 (3 : Int32) (65 : Int32))), .val (.int (pk p1 l2 (4 : Int32) (68 : Int32))), .val (.int (pk p1 l2 (5 : Int32) (77 : Int32))), .val (.int (pk p1 l2 (6 : Int32) (73 : Int32))), .val (.int (pk p1 l2 (7 : Int32) (78 : Int32))), .val (.int ((((p1.toUInt32 >>> ((10 : Int32) &&& 31).toUInt32).toInt32) &&& (255 : Int32)).toUInt32.toUInt16.toUInt32.toInt32)), .val (.int (((p1.toUInt32 >>> ((8 : Int32) &&& 31).toUInt32).toInt32) &&& (3 : Int32))), .unset, .unset, .unset] [(.int (6 : Int32)), (.ref b76), (.ref b76), (.ref b75), (.ref b75)]))
          refine go (fun _ => XS.iload X82.here hx rfl (hb hby at_305) rfl) ?_
          show Run p e below _ (T82.setTop (mkF m 307 #[.val (.int p0), .val (.int p1), .val (.long l2), .second, .val (.int ((p0 &&& (2147483647 : Int32)) % (3 : Int32))), .val (.ref kd), .val (.int (pk p1 l2 (0 : Int32) (86 : Int32))), .val (.int (pk p1 l2 (1 : Int32) (79 : Int32))), .val (.int (pk p1 l2 (2 : Int32) (95 : Int32))), .val (.int (pk p1 l2 (3 : Int32) (65 : Int32))), .val (.int (pk p1 l2 (4 : Int32) (68 : Int32))), .val (.int (pk p1 l2 (5 : Int32) (77 : Int32))), .val (.int (pk p1 l2 (6 : Int32) (73 : Int32))), .val (.int (pk p1 l2 (7 : Int32) (78 : Int32))), .val (.int ((((p1.toUInt32 >>> ((10 : Int32) &&& 31).toUInt32).toInt32) &&& (255 : Int32)).toUInt32.toUInt16.toUInt32.toInt32)), .val (.int (((p1.toUInt32 >>> ((8 : Int32) &&& 31).toUInt32).toInt32) &&& (3 : Int32))), .unset, .unset, .unset] [(.int (pk p1 l2 (6 : Int32) (73 : Int32))), (.int (6 : Int32)), (.ref b76), (.ref b76), (.ref b75), (.ref b75)]))
          obtain ⟨cl83, Ar83, ak83, as83, an83, ah83, ag83⟩ := id V_b76
          have hin83 := inb_of as83 (j := (6 : Int32)) ⟨by decide, by decide⟩
          obtain ⟨T83, h83, X83, e83, W83, st83⟩ := stC X82 hx hZ e82 Ar83 (j := (6 : Int32)) hin83 (g := (mkF m 307 #[.val (.int p0), .val (.int p1), .val (.long l2), .second, .val (.int ((p0 &&& (2147483647 : Int32)) % (3 : Int32))), .val (.ref kd), .val (.int (pk p1 l2 (0 : Int32) (86 : Int32))), .val (.int (pk p1 l2 (1 : Int32) (79 : Int32))), .val (.int (pk p1 l2 (2 : Int32) (95 : Int32))), .val (.int (pk p1 l2 (3 : Int32) (65 : Int32))), .val (.int (pk p1 l2 (4 : Int32) (68 : Int32))), .val (.int (pk p1 l2 (5 : Int32) (77 : Int32))), .val (.int (pk p1 l2 (6 : Int32) (73 : Int32))), .val (.int (pk p1 l2 (7 : Int32) (78 : Int32))), .val (.int ((((p1.toUInt32 >>> ((10 : Int32) &&& 31).toUInt32).toInt32) &&& (255 : Int32)).toUInt32.toUInt16.toUInt32.toInt32)), .val (.int (((p1.toUInt32 >>> ((8 : Int32) &&& 31).toUInt32).toInt32) &&& (3 : Int32))), .unset, .unset, .unset] [(.int (pk p1 l2 (6 : Int32) (73 : Int32))), (.int (6 : Int32)), (.ref b76), (.ref b76), (.ref b75), (.ref b75)])) rfl rfl (hb hby at_307)
          have W83' : Wr _ _ _ _ (.int (pk p1 l2 (6 : Int32) (73 : Int32))) := (pk_nc p1 l2 (6 : Int32) (73 : Int32) (by decide)) ▸ W83
          have CHo := CH
          have SF_b75o := SF_b75
          have SF_b76o := SF_b76
          have hk := Nat.le_trans hk (wr_sz W83')
          have SF_b75 := Safe.wr W83' SF_b76o CHo.1 SF_b75o
          have SF_b76 := Safe.wr W83' SF_b76o CHo.1 SF_b76o
          have CH := CHo.trans (CHr.wr W83' SF_b76o CHo.1)
          have O0 := O0.wr W83' g_b76
          have E_b75 := E_b75.wr W83'
          have F_coder_b75 := F_coder_b75.other W83' (Or.inl ne_b75_b76)
          have F_value_b75 := F_value_b75.other W83' (Or.inl ne_b75_b76)
          have V_b76 := (Arv.set Ar83 ak83 as83 an83 ah83 ag83 ((pk_nc p1 l2 (6 : Int32) (73 : Int32) (by decide)) ▸ (fits_nar_char _)) W83' 6 rfl (Nat.le_of_ble_eq_true rfl) : Arv Z h83 b76 k76 .char (9 : Int32) [(.int (pk p1 l2 (0 : Int32) (86 : Int32))), (.int (pk p1 l2 (1 : Int32) (79 : Int32))), (.int (pk p1 l2 (2 : Int32) (95 : Int32))), (.int (pk p1 l2 (3 : Int32) (65 : Int32))), (.int (pk p1 l2 (4 : Int32) (68 : Int32))), (.int (pk p1 l2 (5 : Int32) (77 : Int32))), (.int (pk p1 l2 (6 : Int32) (73 : Int32))), (.int (0 : Int32)), (.int (0 : Int32))] (.int (0 : Int32)))
          have N83 := Fr.snoc X83 N82 g_b76
          refine go st83 ?_
          show Run p e below _ (T83.setTop (mkF m 308 #[.val (.int p0), .val (.int p1), .val (.long l2), .second, .val (.int ((p0 &&& (2147483647 : Int32)) % (3 : Int32))), .val (.ref kd), .val (.int (pk p1 l2 (0 : Int32) (86 : Int32))), .val (.int (pk p1 l2 (1 : Int32) (79 : Int32))), .val (.int (pk p1 l2 (2 : Int32) (95 : Int32))), .val (.int (pk p1 l2 (3 : Int32) (65 : Int32))), .val (.int (pk p1 l2 (4 : Int32) (68 : Int32))), .val (.int (pk p1 l2 (5 : Int32) (77 : Int32))), .val (.int (pk p1 l2 (6 : Int32) (73 : Int32))), .val (.int (pk p1 l2 (7 : Int32) (78 : Int32))), .val (.int ((((p1.toUInt32 >>> ((10 : Int32) &&& 31).toUInt32).toInt32) &&& (255 : Int32)).toUInt32.toUInt16.toUInt32.toInt32)), .val (.int (((p1.toUInt32 >>> ((8 : Int32) &&& 31).toUInt32).toInt32) &&& (3 : Int32))), .unset, .unset, .unset] [(.ref b76), (.ref b75), (.ref b75)]))
          refine go (fun _ => XS.dup X83.here hx rfl (hb hby at_308) rfl rfl) ?_
          show Run p e below _ (T83.setTop (mkF m 309 #[.val (.int p0), .val (.int p1), .val (.long l2), .second, .val (.int ((p0 &&& (2147483647 : Int32)) % (3 : Int32))), .val (.ref kd), .val (.int (pk p1 l2 (0 : Int32) (86 : Int32))), .val (.int (pk p1 l2 (1 : Int32) (79 : Int32))), .val (.int (pk p1 l2 (2 : Int32) (95 : Int32))), .val (.int (pk p1 l2 (3 : Int32) (65 : Int32))), .val (.int (pk p1 l2 (4 : Int32) (68 : Int32))), .val (.int (pk p1 l2 (5 : Int32) (77 : Int32))), .val (.int (pk p1 l2 (6 : Int32) (73 : Int32))), .val (.int (pk p1 l2 (7 : Int32) (78 : Int32))), .val (.int ((((p1.toUInt32 >>> ((10 : Int32) &&& 31).toUInt32).toInt32) &&& (255 : Int32)).toUInt32.toUInt16.toUInt32.toInt32)), .val (.int (((p1.toUInt32 >>> ((8 : Int32) &&& 31).toUInt32).toInt32) &&& (3 : Int32))), .unset, .unset, .unset] [(.ref b76), (.ref b76), (.ref b75), (.ref b75)]))
          refine go (fun _ => XS.bipush X83.here hx rfl (hb hby at_309)) ?_
          show Run p e below _ (T83.setTop (mkF m 311 #[.val (.int p0), .val (.int p1), .val (.long l2), .second, .val (.int ((p0 &&& (2147483647 : Int32)) % (3 : Int32))), .val (.ref kd), .val (.int (pk p1 l2 (0 : Int32) (86 : Int32))), .val (.int (pk p1 l2 (1 : Int32) (79 : Int32))), .val (.int (pk p1 l2 (2 : Int32) (95 : Int32))), .val (.int (pk p1 l2 (3 : Int32) (65 : Int32))), .val (.int (pk p1 l2 (4 : Int32) (68 : Int32))), .val (.int (pk p1 l2 (5 : Int32) (77 : Int32))), .val (.int (pk p1 l2 (6 : Int32) (73 : Int32))), .val (.int (pk p1 l2 (7 : Int32) (78 : Int32))), .val (.int ((((p1.toUInt32 >>> ((10 : Int32) &&& 31).toUInt32).toInt32) &&& (255 : Int32)).toUInt32.toUInt16.toUInt32.toInt32)), .val (.int (((p1.toUInt32 >>> ((8 : Int32) &&& 31).toUInt32).toInt32) &&& (3 : Int32))), .unset, .unset, .unset] [(.int (7 : Int32)), (.ref b76), (.ref b76), (.ref b75), (.ref b75)]))
          refine go (fun _ => XS.iload X83.here hx rfl (hb hby at_311) rfl) ?_
          show Run p e below _ (T83.setTop (mkF m 313 #[.val (.int p0), .val (.int p1), .val (.long l2), .second, .val (.int ((p0 &&& (2147483647 : Int32)) % (3 : Int32))), .val (.ref kd), .val (.int (pk p1 l2 (0 : Int32) (86 : Int32))), .val (.int (pk p1 l2 (1 : Int32) (79 : Int32))), .val (.int (pk p1 l2 (2 : Int32) (95 : Int32))), .val (.int (pk p1 l2 (3 : Int32) (65 : Int32))), .val (.int (pk p1 l2 (4 : Int32) (68 : Int32))), .val (.int (pk p1 l2 (5 : Int32) (77 : Int32))), .val (.int (pk p1 l2 (6 : Int32) (73 : Int32))), .val (.int (pk p1 l2 (7 : Int32) (78 : Int32))), .val (.int ((((p1.toUInt32 >>> ((10 : Int32) &&& 31).toUInt32).toInt32) &&& (255 : Int32)).toUInt32.toUInt16.toUInt32.toInt32)), .val (.int (((p1.toUInt32 >>> ((8 : Int32) &&& 31).toUInt32).toInt32) &&& (3 : Int32))), .unset, .unset, .unset] [(.int (pk p1 l2 (7 : Int32) (78 : Int32))), (.int (7 : Int32)), (.ref b76), (.ref b76), (.ref b75), (.ref b75)]))
          obtain ⟨cl84, Ar84, ak84, as84, an84, ah84, ag84⟩ := id V_b76
          have hin84 := inb_of as84 (j := (7 : Int32)) ⟨by decide, by decide⟩
          obtain ⟨T84, h84, X84, e84, W84, st84⟩ := stC X83 hx hZ e83 Ar84 (j := (7 : Int32)) hin84 (g := (mkF m 313 #[.val (.int p0), .val (.int p1), .val (.long l2), .second, .val (.int ((p0 &&& (2147483647 : Int32)) % (3 : Int32))), .val (.ref kd), .val (.int (pk p1 l2 (0 : Int32) (86 : Int32))), .val (.int (pk p1 l2 (1 : Int32) (79 : Int32))), .val (.int (pk p1 l2 (2 : Int32) (95 : Int32))), .val (.int (pk p1 l2 (3 : Int32) (65 : Int32))), .val (.int (pk p1 l2 (4 : Int32) (68 : Int32))), .val (.int (pk p1 l2 (5 : Int32) (77 : Int32))), .val (.int (pk p1 l2 (6 : Int32) (73 : Int32))), .val (.int (pk p1 l2 (7 : Int32) (78 : Int32))), .val (.int ((((p1.toUInt32 >>> ((10 : Int32) &&& 31).toUInt32).toInt32) &&& (255 : Int32)).toUInt32.toUInt16.toUInt32.toInt32)), .val (.int (((p1.toUInt32 >>> ((8 : Int32) &&& 31).toUInt32).toInt32) &&& (3 : Int32))), .unset, .unset, .unset] [(.int (pk p1 l2 (7 : Int32) (78 : Int32))), (.int (7 : Int32)), (.ref b76), (.ref b76), (.ref b75), (.ref b75)])) rfl rfl (hb hby at_313)
          have W84' : Wr _ _ _ _ (.int (pk p1 l2 (7 : Int32) (78 : Int32))) := (pk_nc p1 l2 (7 : Int32) (78 : Int32) (by decide)) ▸ W84
          have CHo := CH
          have SF_b75o := SF_b75
          have SF_b76o := SF_b76
          have hk := Nat.le_trans hk (wr_sz W84')
          have SF_b75 := Safe.wr W84' SF_b76o CHo.1 SF_b75o
          have SF_b76 := Safe.wr W84' SF_b76o CHo.1 SF_b76o
          have CH := CHo.trans (CHr.wr W84' SF_b76o CHo.1)
          have O0 := O0.wr W84' g_b76
          have E_b75 := E_b75.wr W84'
          have F_coder_b75 := F_coder_b75.other W84' (Or.inl ne_b75_b76)
          have F_value_b75 := F_value_b75.other W84' (Or.inl ne_b75_b76)
          have V_b76 := (Arv.set Ar84 ak84 as84 an84 ah84 ag84 ((pk_nc p1 l2 (7 : Int32) (78 : Int32) (by decide)) ▸ (fits_nar_char _)) W84' 7 rfl (Nat.le_of_ble_eq_true rfl) : Arv Z h84 b76 k76 .char (9 : Int32) [(.int (pk p1 l2 (0 : Int32) (86 : Int32))), (.int (pk p1 l2 (1 : Int32) (79 : Int32))), (.int (pk p1 l2 (2 : Int32) (95 : Int32))), (.int (pk p1 l2 (3 : Int32) (65 : Int32))), (.int (pk p1 l2 (4 : Int32) (68 : Int32))), (.int (pk p1 l2 (5 : Int32) (77 : Int32))), (.int (pk p1 l2 (6 : Int32) (73 : Int32))), (.int (pk p1 l2 (7 : Int32) (78 : Int32))), (.int (0 : Int32))] (.int (0 : Int32)))
          have N84 := Fr.snoc X84 N83 g_b76
          refine go st84 ?_
          show Run p e below _ (T84.setTop (mkF m 314 #[.val (.int p0), .val (.int p1), .val (.long l2), .second, .val (.int ((p0 &&& (2147483647 : Int32)) % (3 : Int32))), .val (.ref kd), .val (.int (pk p1 l2 (0 : Int32) (86 : Int32))), .val (.int (pk p1 l2 (1 : Int32) (79 : Int32))), .val (.int (pk p1 l2 (2 : Int32) (95 : Int32))), .val (.int (pk p1 l2 (3 : Int32) (65 : Int32))), .val (.int (pk p1 l2 (4 : Int32) (68 : Int32))), .val (.int (pk p1 l2 (5 : Int32) (77 : Int32))), .val (.int (pk p1 l2 (6 : Int32) (73 : Int32))), .val (.int (pk p1 l2 (7 : Int32) (78 : Int32))), .val (.int ((((p1.toUInt32 >>> ((10 : Int32) &&& 31).toUInt32).toInt32) &&& (255 : Int32)).toUInt32.toUInt16.toUInt32.toInt32)), .val (.int (((p1.toUInt32 >>> ((8 : Int32) &&& 31).toUInt32).toInt32) &&& (3 : Int32))), .unset, .unset, .unset] [(.ref b76), (.ref b75), (.ref b75)]))
          refine go (fun _ => XS.dup X84.here hx rfl (hb hby at_314) rfl rfl) ?_
          show Run p e below _ (T84.setTop (mkF m 315 #[.val (.int p0), .val (.int p1), .val (.long l2), .second, .val (.int ((p0 &&& (2147483647 : Int32)) % (3 : Int32))), .val (.ref kd), .val (.int (pk p1 l2 (0 : Int32) (86 : Int32))), .val (.int (pk p1 l2 (1 : Int32) (79 : Int32))), .val (.int (pk p1 l2 (2 : Int32) (95 : Int32))), .val (.int (pk p1 l2 (3 : Int32) (65 : Int32))), .val (.int (pk p1 l2 (4 : Int32) (68 : Int32))), .val (.int (pk p1 l2 (5 : Int32) (77 : Int32))), .val (.int (pk p1 l2 (6 : Int32) (73 : Int32))), .val (.int (pk p1 l2 (7 : Int32) (78 : Int32))), .val (.int ((((p1.toUInt32 >>> ((10 : Int32) &&& 31).toUInt32).toInt32) &&& (255 : Int32)).toUInt32.toUInt16.toUInt32.toInt32)), .val (.int (((p1.toUInt32 >>> ((8 : Int32) &&& 31).toUInt32).toInt32) &&& (3 : Int32))), .unset, .unset, .unset] [(.ref b76), (.ref b76), (.ref b75), (.ref b75)]))
          refine go (fun _ => XS.bipush X84.here hx rfl (hb hby at_315)) ?_
          show Run p e below _ (T84.setTop (mkF m 317 #[.val (.int p0), .val (.int p1), .val (.long l2), .second, .val (.int ((p0 &&& (2147483647 : Int32)) % (3 : Int32))), .val (.ref kd), .val (.int (pk p1 l2 (0 : Int32) (86 : Int32))), .val (.int (pk p1 l2 (1 : Int32) (79 : Int32))), .val (.int (pk p1 l2 (2 : Int32) (95 : Int32))), .val (.int (pk p1 l2 (3 : Int32) (65 : Int32))), .val (.int (pk p1 l2 (4 : Int32) (68 : Int32))), .val (.int (pk p1 l2 (5 : Int32) (77 : Int32))), .val (.int (pk p1 l2 (6 : Int32) (73 : Int32))), .val (.int (pk p1 l2 (7 : Int32) (78 : Int32))), .val (.int ((((p1.toUInt32 >>> ((10 : Int32) &&& 31).toUInt32).toInt32) &&& (255 : Int32)).toUInt32.toUInt16.toUInt32.toInt32)), .val (.int (((p1.toUInt32 >>> ((8 : Int32) &&& 31).toUInt32).toInt32) &&& (3 : Int32))), .unset, .unset, .unset] [(.int (8 : Int32)), (.ref b76), (.ref b76), (.ref b75), (.ref b75)]))
          refine go (fun _ => XS.iload X84.here hx rfl (hb hby at_317) rfl) ?_
          show Run p e below _ (T84.setTop (mkF m 319 #[.val (.int p0), .val (.int p1), .val (.long l2), .second, .val (.int ((p0 &&& (2147483647 : Int32)) % (3 : Int32))), .val (.ref kd), .val (.int (pk p1 l2 (0 : Int32) (86 : Int32))), .val (.int (pk p1 l2 (1 : Int32) (79 : Int32))), .val (.int (pk p1 l2 (2 : Int32) (95 : Int32))), .val (.int (pk p1 l2 (3 : Int32) (65 : Int32))), .val (.int (pk p1 l2 (4 : Int32) (68 : Int32))), .val (.int (pk p1 l2 (5 : Int32) (77 : Int32))), .val (.int (pk p1 l2 (6 : Int32) (73 : Int32))), .val (.int (pk p1 l2 (7 : Int32) (78 : Int32))), .val (.int ((((p1.toUInt32 >>> ((10 : Int32) &&& 31).toUInt32).toInt32) &&& (255 : Int32)).toUInt32.toUInt16.toUInt32.toInt32)), .val (.int (((p1.toUInt32 >>> ((8 : Int32) &&& 31).toUInt32).toInt32) &&& (3 : Int32))), .unset, .unset, .unset] [(.int ((((p1.toUInt32 >>> ((10 : Int32) &&& 31).toUInt32).toInt32) &&& (255 : Int32)).toUInt32.toUInt16.toUInt32.toInt32)), (.int (8 : Int32)), (.ref b76), (.ref b76), (.ref b75), (.ref b75)]))
          obtain ⟨cl85, Ar85, ak85, as85, an85, ah85, ag85⟩ := id V_b76
          have hin85 := inb_of as85 (j := (8 : Int32)) ⟨by decide, by decide⟩
          obtain ⟨T85, h85, X85, e85, W85, st85⟩ := stC X84 hx hZ e84 Ar85 (j := (8 : Int32)) hin85 (g := (mkF m 319 #[.val (.int p0), .val (.int p1), .val (.long l2), .second, .val (.int ((p0 &&& (2147483647 : Int32)) % (3 : Int32))), .val (.ref kd), .val (.int (pk p1 l2 (0 : Int32) (86 : Int32))), .val (.int (pk p1 l2 (1 : Int32) (79 : Int32))), .val (.int (pk p1 l2 (2 : Int32) (95 : Int32))), .val (.int (pk p1 l2 (3 : Int32) (65 : Int32))), .val (.int (pk p1 l2 (4 : Int32) (68 : Int32))), .val (.int (pk p1 l2 (5 : Int32) (77 : Int32))), .val (.int (pk p1 l2 (6 : Int32) (73 : Int32))), .val (.int (pk p1 l2 (7 : Int32) (78 : Int32))), .val (.int ((((p1.toUInt32 >>> ((10 : Int32) &&& 31).toUInt32).toInt32) &&& (255 : Int32)).toUInt32.toUInt16.toUInt32.toInt32)), .val (.int (((p1.toUInt32 >>> ((8 : Int32) &&& 31).toUInt32).toInt32) &&& (3 : Int32))), .unset, .unset, .unset] [(.int ((((p1.toUInt32 >>> ((10 : Int32) &&& 31).toUInt32).toInt32) &&& (255 : Int32)).toUInt32.toUInt16.toUInt32.toInt32)), (.int (8 : Int32)), (.ref b76), (.ref b76), (.ref b75), (.ref b75)])) rfl rfl (hb hby at_319)
          have W85' : Wr _ _ _ _ (.int (((p1.toUInt32 >>> ((10 : Int32) &&& 31).toUInt32).toInt32) &&& 255)) := (own_nc ((p1.toUInt32 >>> ((10 : Int32) &&& 31).toUInt32).toInt32)) ▸ W85
          have CHo := CH
          have SF_b75o := SF_b75
          have SF_b76o := SF_b76
          have hk := Nat.le_trans hk (wr_sz W85')
          have SF_b75 := Safe.wr W85' SF_b76o CHo.1 SF_b75o
          have SF_b76 := Safe.wr W85' SF_b76o CHo.1 SF_b76o
          have CH := CHo.trans (CHr.wr W85' SF_b76o CHo.1)
          have O0 := O0.wr W85' g_b76
          have E_b75 := E_b75.wr W85'
          have F_coder_b75 := F_coder_b75.other W85' (Or.inl ne_b75_b76)
          have F_value_b75 := F_value_b75.other W85' (Or.inl ne_b75_b76)
          have V_b76 := (Arv.set Ar85 ak85 as85 an85 ah85 ag85 ((own_nc ((p1.toUInt32 >>> ((10 : Int32) &&& 31).toUInt32).toInt32)) ▸ (fits_nar_char _)) W85' 8 rfl (Nat.le_of_ble_eq_true rfl) : Arv Z h85 b76 k76 .char (9 : Int32) [(.int (pk p1 l2 (0 : Int32) (86 : Int32))), (.int (pk p1 l2 (1 : Int32) (79 : Int32))), (.int (pk p1 l2 (2 : Int32) (95 : Int32))), (.int (pk p1 l2 (3 : Int32) (65 : Int32))), (.int (pk p1 l2 (4 : Int32) (68 : Int32))), (.int (pk p1 l2 (5 : Int32) (77 : Int32))), (.int (pk p1 l2 (6 : Int32) (73 : Int32))), (.int (pk p1 l2 (7 : Int32) (78 : Int32))), (.int (((p1.toUInt32 >>> ((10 : Int32) &&& 31).toUInt32).toInt32) &&& 255))] (.int (0 : Int32)))
          have N85 := Fr.snoc X85 N84 g_b76
          refine go st85 ?_
          show Run p e below _ (T85.setTop (mkF m 320 #[.val (.int p0), .val (.int p1), .val (.long l2), .second, .val (.int ((p0 &&& (2147483647 : Int32)) % (3 : Int32))), .val (.ref kd), .val (.int (pk p1 l2 (0 : Int32) (86 : Int32))), .val (.int (pk p1 l2 (1 : Int32) (79 : Int32))), .val (.int (pk p1 l2 (2 : Int32) (95 : Int32))), .val (.int (pk p1 l2 (3 : Int32) (65 : Int32))), .val (.int (pk p1 l2 (4 : Int32) (68 : Int32))), .val (.int (pk p1 l2 (5 : Int32) (77 : Int32))), .val (.int (pk p1 l2 (6 : Int32) (73 : Int32))), .val (.int (pk p1 l2 (7 : Int32) (78 : Int32))), .val (.int ((((p1.toUInt32 >>> ((10 : Int32) &&& 31).toUInt32).toInt32) &&& (255 : Int32)).toUInt32.toUInt16.toUInt32.toInt32)), .val (.int (((p1.toUInt32 >>> ((8 : Int32) &&& 31).toUInt32).toInt32) &&& (3 : Int32))), .unset, .unset, .unset] [(.ref b76), (.ref b75), (.ref b75)]))
          refine callSpK X85 hx hZ rfl hown (wd hw 13 rfl) (wd hw 14 rfl) (wd hw 15 rfl) (by decide) e85 (a := b75) (argsL := [(.ref b76)]) (rest := [(.ref b75)]) (W := 1) (payNew (s := s.setVm s.vm) (n := 9) (cs := [(pk p1 l2 (0 : Int32) (86 : Int32)), (pk p1 l2 (1 : Int32) (79 : Int32)), (pk p1 l2 (2 : Int32) (95 : Int32)), (pk p1 l2 (3 : Int32) (65 : Int32)), (pk p1 l2 (4 : Int32) (68 : Int32)), (pk p1 l2 (5 : Int32) (77 : Int32)), (pk p1 l2 (6 : Int32) (73 : Int32)), (pk p1 l2 (7 : Int32) (78 : Int32)), (((p1.toUInt32 >>> ((10 : Int32) &&& 31).toUInt32).toInt32) &&& 255)]) hZ hw (wd hw 10 rfl) O0 g_b75 E_b75 F_value_b75 F_coder_b75 V_b76 S_COMPACT_STRINGS hzc rfl rfl (by decide) (by decide) (In8.cons (pk_in p1 l2 (0 : Int32) (86 : Int32) (by decide)) (In8.cons (pk_in p1 l2 (1 : Int32) (79 : Int32) (by decide)) (In8.cons (pk_in p1 l2 (2 : Int32) (95 : Int32) (by decide)) (In8.cons (pk_in p1 l2 (3 : Int32) (65 : Int32) (by decide)) (In8.cons (pk_in p1 l2 (4 : Int32) (68 : Int32) (by decide)) (In8.cons (pk_in p1 l2 (5 : Int32) (77 : Int32) (by decide)) (In8.cons (pk_in p1 l2 (6 : Int32) (73 : Int32) (by decide)) (In8.cons (pk_in p1 l2 (7 : Int32) (78 : Int32) (by decide)) (In8.cons (own_m _) In8.nil))))))))) (by decide) (by decide)) (by decide) (by decide) (by rw [hml]; rfl) (lenOf pd_4 rfl) rfl (Nat.le_of_eq rfl) (hb hby at_320) ?_
          intro v86 T86 L86 h86 X86 e86 q86
          have lt87_b75 := E_b75.lt
          have lt87_b76 := V_b76.lt
          obtain ⟨rfl, n86, K86, t86, kb86, gt86, sb86, nt86, T_b75⟩ := q86
          have ne_b75_t86 : b75 ≠ t86 := Nat.ne_of_lt (Nat.lt_of_lt_of_le lt87_b75 sb86)
          have ne_b76_t86 : b76 ≠ t86 := Nat.ne_of_lt (Nat.lt_of_lt_of_le lt87_b76 sb86)
          have CHo := CH
          have SF_b75o := SF_b75
          have SF_b76o := SF_b76
          have hk := Nat.le_trans hk K86.1
          have O0 := O0.keep K86 (allS g_b75 all0)
          have SF_b75 := Safe.keep K86 (allS SF_b75o all0) CHo.1 SF_b75o
          have SF_b76 := Safe.keep K86 (allS SF_b75o all0) CHo.1 SF_b76o
          have CH := CHo.trans (CHr.keep K86 (allS SF_b75o all0) CHo.1)
          have V_b76 := V_b76.keep K86 (ninS (Ne.symm ne_b75_b76) nin0)
          have N86 := Fr.app N85 n86
          show Run p e below _ (T86.setTop (mkF m 323 #[.val (.int p0), .val (.int p1), .val (.long l2), .second, .val (.int ((p0 &&& (2147483647 : Int32)) % (3 : Int32))), .val (.ref kd), .val (.int (pk p1 l2 (0 : Int32) (86 : Int32))), .val (.int (pk p1 l2 (1 : Int32) (79 : Int32))), .val (.int (pk p1 l2 (2 : Int32) (95 : Int32))), .val (.int (pk p1 l2 (3 : Int32) (65 : Int32))), .val (.int (pk p1 l2 (4 : Int32) (68 : Int32))), .val (.int (pk p1 l2 (5 : Int32) (77 : Int32))), .val (.int (pk p1 l2 (6 : Int32) (73 : Int32))), .val (.int (pk p1 l2 (7 : Int32) (78 : Int32))), .val (.int ((((p1.toUInt32 >>> ((10 : Int32) &&& 31).toUInt32).toInt32) &&& (255 : Int32)).toUInt32.toUInt16.toUInt32.toInt32)), .val (.int (((p1.toUInt32 >>> ((8 : Int32) &&& 31).toUInt32).toInt32) &&& (3 : Int32))), .unset, .unset, .unset] [(.ref b75)]))
          refine go (fun _ => XS.astore X86.here hx rfl (hb hby at_323) rfl rfl (l' := #[.val (.int p0), .val (.int p1), .val (.long l2), .second, .val (.int ((p0 &&& (2147483647 : Int32)) % (3 : Int32))), .val (.ref kd), .val (.int (pk p1 l2 (0 : Int32) (86 : Int32))), .val (.int (pk p1 l2 (1 : Int32) (79 : Int32))), .val (.int (pk p1 l2 (2 : Int32) (95 : Int32))), .val (.int (pk p1 l2 (3 : Int32) (65 : Int32))), .val (.int (pk p1 l2 (4 : Int32) (68 : Int32))), .val (.int (pk p1 l2 (5 : Int32) (77 : Int32))), .val (.int (pk p1 l2 (6 : Int32) (73 : Int32))), .val (.int (pk p1 l2 (7 : Int32) (78 : Int32))), .val (.int ((((p1.toUInt32 >>> ((10 : Int32) &&& 31).toUInt32).toInt32) &&& (255 : Int32)).toUInt32.toUInt16.toUInt32.toInt32)), .val (.int (((p1.toUInt32 >>> ((8 : Int32) &&& 31).toUInt32).toInt32) &&& (3 : Int32))), .val (.ref b75), .unset, .unset]) rfl) ?_
          show Run p e below _ (T86.setTop (mkF m 325 #[.val (.int p0), .val (.int p1), .val (.long l2), .second, .val (.int ((p0 &&& (2147483647 : Int32)) % (3 : Int32))), .val (.ref kd), .val (.int (pk p1 l2 (0 : Int32) (86 : Int32))), .val (.int (pk p1 l2 (1 : Int32) (79 : Int32))), .val (.int (pk p1 l2 (2 : Int32) (95 : Int32))), .val (.int (pk p1 l2 (3 : Int32) (65 : Int32))), .val (.int (pk p1 l2 (4 : Int32) (68 : Int32))), .val (.int (pk p1 l2 (5 : Int32) (77 : Int32))), .val (.int (pk p1 l2 (6 : Int32) (73 : Int32))), .val (.int (pk p1 l2 (7 : Int32) (78 : Int32))), .val (.int ((((p1.toUInt32 >>> ((10 : Int32) &&& 31).toUInt32).toInt32) &&& (255 : Int32)).toUInt32.toUInt16.toUInt32.toInt32)), .val (.int (((p1.toUInt32 >>> ((8 : Int32) &&& 31).toUInt32).toInt32) &&& (3 : Int32))), .val (.ref b75), .unset, .unset] []))
          refine go (fun _ => XS.goto X86.here hx rfl (pc0 := 325) (pc' := 340) rfl (hb hby at_325) (by decide) (by decide)) ?_
          show Run p e below _ (T86.setTop (mkF m 340 #[.val (.int p0), .val (.int p1), .val (.long l2), .second, .val (.int ((p0 &&& (2147483647 : Int32)) % (3 : Int32))), .val (.ref kd), .val (.int (pk p1 l2 (0 : Int32) (86 : Int32))), .val (.int (pk p1 l2 (1 : Int32) (79 : Int32))), .val (.int (pk p1 l2 (2 : Int32) (95 : Int32))), .val (.int (pk p1 l2 (3 : Int32) (65 : Int32))), .val (.int (pk p1 l2 (4 : Int32) (68 : Int32))), .val (.int (pk p1 l2 (5 : Int32) (77 : Int32))), .val (.int (pk p1 l2 (6 : Int32) (73 : Int32))), .val (.int (pk p1 l2 (7 : Int32) (78 : Int32))), .val (.int ((((p1.toUInt32 >>> ((10 : Int32) &&& 31).toUInt32).toInt32) &&& (255 : Int32)).toUInt32.toUInt16.toUInt32.toInt32)), .val (.int (((p1.toUInt32 >>> ((8 : Int32) &&& 31).toUInt32).toInt32) &&& (3 : Int32))), .val (.ref b75), .unset, .unset] []))
          exact J340 _ _ _ _ _ (smono X86 (by decide) (by decide)) e86 N86 hZ hown hS hk CH b75 t86 kb86 [(pk p1 l2 (0 : Int32) (86 : Int32)), (pk p1 l2 (1 : Int32) (79 : Int32)), (pk p1 l2 (2 : Int32) (95 : Int32)), (pk p1 l2 (3 : Int32) (65 : Int32)), (pk p1 l2 (4 : Int32) (68 : Int32)), (pk p1 l2 (5 : Int32) (77 : Int32)), (pk p1 l2 (6 : Int32) (73 : Int32)), (pk p1 l2 (7 : Int32) (78 : Int32)), (((p1.toUInt32 >>> ((10 : Int32) &&& 31).toUInt32).toInt32) &&& 255)] O0 T_b75 (In8.cons (pk_in p1 l2 (0 : Int32) (86 : Int32) (by decide)) (In8.cons (pk_in p1 l2 (1 : Int32) (79 : Int32) (by decide)) (In8.cons (pk_in p1 l2 (2 : Int32) (95 : Int32) (by decide)) (In8.cons (pk_in p1 l2 (3 : Int32) (65 : Int32) (by decide)) (In8.cons (pk_in p1 l2 (4 : Int32) (68 : Int32) (by decide)) (In8.cons (pk_in p1 l2 (5 : Int32) (77 : Int32) (by decide)) (In8.cons (pk_in p1 l2 (6 : Int32) (73 : Int32) (by decide)) (In8.cons (pk_in p1 l2 (7 : Int32) (78 : Int32) (by decide)) (In8.cons (own_m _) In8.nil))))))))) (by simp) (fun q => absurd q c49) (fun _ q => by simp at q)
        · skip
          refine go (fun _ => XS.icmpYes X28.here hx rfl (pc0 := 261) (pc' := 328) rfl (hb hby at_261) rfl (feq c74).2 (by decide) (by decide)) ?_
          show Run p e below _ (T28.setTop (mkF m 328 #[.val (.int p0), .val (.int p1), .val (.long l2), .second, .val (.int ((p0 &&& (2147483647 : Int32)) % (3 : Int32))), .val (.ref kd), .val (.int (pk p1 l2 (0 : Int32) (86 : Int32))), .val (.int (pk p1 l2 (1 : Int32) (79 : Int32))), .val (.int (pk p1 l2 (2 : Int32) (95 : Int32))), .val (.int (pk p1 l2 (3 : Int32) (65 : Int32))), .val (.int (pk p1 l2 (4 : Int32) (68 : Int32))), .val (.int (pk p1 l2 (5 : Int32) (77 : Int32))), .val (.int (pk p1 l2 (6 : Int32) (73 : Int32))), .val (.int (pk p1 l2 (7 : Int32) (78 : Int32))), .val (.int ((((p1.toUInt32 >>> ((10 : Int32) &&& 31).toUInt32).toInt32) &&& (255 : Int32)).toUInt32.toUInt16.toUInt32.toInt32)), .val (.int (((p1.toUInt32 >>> ((8 : Int32) &&& 31).toUInt32).toInt32) &&& (3 : Int32))), .unset, .unset, .unset] []))
          obtain ⟨T88, h88, X88, e88, E88, A88, D88, -, st88⟩ := newO X28 hx hZ hown (wd hw 9 rfl) (wd hw 10 rfl) (wd hw 11 rfl) e28 (g := (mkF m 328 #[.val (.int p0), .val (.int p1), .val (.long l2), .second, .val (.int ((p0 &&& (2147483647 : Int32)) % (3 : Int32))), .val (.ref kd), .val (.int (pk p1 l2 (0 : Int32) (86 : Int32))), .val (.int (pk p1 l2 (1 : Int32) (79 : Int32))), .val (.int (pk p1 l2 (2 : Int32) (95 : Int32))), .val (.int (pk p1 l2 (3 : Int32) (65 : Int32))), .val (.int (pk p1 l2 (4 : Int32) (68 : Int32))), .val (.int (pk p1 l2 (5 : Int32) (77 : Int32))), .val (.int (pk p1 l2 (6 : Int32) (73 : Int32))), .val (.int (pk p1 l2 (7 : Int32) (78 : Int32))), .val (.int ((((p1.toUInt32 >>> ((10 : Int32) &&& 31).toUInt32).toInt32) &&& (255 : Int32)).toUInt32.toUInt16.toUInt32.toInt32)), .val (.int (((p1.toUInt32 >>> ((8 : Int32) &&& 31).toUInt32).toInt32) &&& (3 : Int32))), .unset, .unset, .unset] [])) rfl (hb hby at_328) (by decide) (by decide)
          obtain ⟨b88, y88⟩ : ∃ z, z = h0.size := ⟨_, rfl⟩
          rw [← y88] at A88 D88 st88
          have g_b88 : n0 ≤ b88 := y88.symm ▸ old_sz O0
          have SF_b88 : Safe Z consts_1 s.vm h0 b88 := Safe.new (Nat.le_of_eq y88.symm)
          have CHo := CH
          have SF_b88o := SF_b88
          have hk := Nat.le_trans hk E88.1
          have O0 := O0.ext E88
          have SF_b88 := Safe.ext E88 CHo.1 SF_b88o
          have CH := CHo.trans (CHr.ext E88 CHo.1)
          have E_b88 := A88
          have F_coder_b88 : Fld Z h88 b88 "java/lang/String" "coder" "B" (.int (0 : Int32)) := D88 (Or.inr (wd hw 36 rfl)) (ty := .byte) (by decide)
          have F_value_b88 : Fld Z h88 b88 "java/lang/String" "value" "[B" .null := D88 (Or.inr (wd hw 38 rfl)) (ty := (.array .byte)) (by decide)
          refine go st88 ?_
          show Run p e below _ (T88.setTop (mkF m 331 #[.val (.int p0), .val (.int p1), .val (.long l2), .second, .val (.int ((p0 &&& (2147483647 : Int32)) % (3 : Int32))), .val (.ref kd), .val (.int (pk p1 l2 (0 : Int32) (86 : Int32))), .val (.int (pk p1 l2 (1 : Int32) (79 : Int32))), .val (.int (pk p1 l2 (2 : Int32) (95 : Int32))), .val (.int (pk p1 l2 (3 : Int32) (65 : Int32))), .val (.int (pk p1 l2 (4 : Int32) (68 : Int32))), .val (.int (pk p1 l2 (5 : Int32) (77 : Int32))), .val (.int (pk p1 l2 (6 : Int32) (73 : Int32))), .val (.int (pk p1 l2 (7 : Int32) (78 : Int32))), .val (.int ((((p1.toUInt32 >>> ((10 : Int32) &&& 31).toUInt32).toInt32) &&& (255 : Int32)).toUInt32.toUInt16.toUInt32.toInt32)), .val (.int (((p1.toUInt32 >>> ((8 : Int32) &&& 31).toUInt32).toInt32) &&& (3 : Int32))), .unset, .unset, .unset] [(.ref b88)]))
          refine go (fun _ => XS.dup X88.here hx rfl (hb hby at_331) rfl rfl) ?_
          show Run p e below _ (T88.setTop (mkF m 332 #[.val (.int p0), .val (.int p1), .val (.long l2), .second, .val (.int ((p0 &&& (2147483647 : Int32)) % (3 : Int32))), .val (.ref kd), .val (.int (pk p1 l2 (0 : Int32) (86 : Int32))), .val (.int (pk p1 l2 (1 : Int32) (79 : Int32))), .val (.int (pk p1 l2 (2 : Int32) (95 : Int32))), .val (.int (pk p1 l2 (3 : Int32) (65 : Int32))), .val (.int (pk p1 l2 (4 : Int32) (68 : Int32))), .val (.int (pk p1 l2 (5 : Int32) (77 : Int32))), .val (.int (pk p1 l2 (6 : Int32) (73 : Int32))), .val (.int (pk p1 l2 (7 : Int32) (78 : Int32))), .val (.int ((((p1.toUInt32 >>> ((10 : Int32) &&& 31).toUInt32).toInt32) &&& (255 : Int32)).toUInt32.toUInt16.toUInt32.toInt32)), .val (.int (((p1.toUInt32 >>> ((8 : Int32) &&& 31).toUInt32).toInt32) &&& (3 : Int32))), .unset, .unset, .unset] [(.ref b88), (.ref b88)]))
          refine go (fun _ => XS.iconst X88.here hx rfl (hb hby at_332)) ?_
          show Run p e below _ (T88.setTop (mkF m 333 #[.val (.int p0), .val (.int p1), .val (.long l2), .second, .val (.int ((p0 &&& (2147483647 : Int32)) % (3 : Int32))), .val (.ref kd), .val (.int (pk p1 l2 (0 : Int32) (86 : Int32))), .val (.int (pk p1 l2 (1 : Int32) (79 : Int32))), .val (.int (pk p1 l2 (2 : Int32) (95 : Int32))), .val (.int (pk p1 l2 (3 : Int32) (65 : Int32))), .val (.int (pk p1 l2 (4 : Int32) (68 : Int32))), .val (.int (pk p1 l2 (5 : Int32) (77 : Int32))), .val (.int (pk p1 l2 (6 : Int32) (73 : Int32))), .val (.int (pk p1 l2 (7 : Int32) (78 : Int32))), .val (.int ((((p1.toUInt32 >>> ((10 : Int32) &&& 31).toUInt32).toInt32) &&& (255 : Int32)).toUInt32.toUInt16.toUInt32.toInt32)), .val (.int (((p1.toUInt32 >>> ((8 : Int32) &&& 31).toUInt32).toInt32) &&& (3 : Int32))), .unset, .unset, .unset] [(.int (0 : Int32)), (.ref b88), (.ref b88)]))
          obtain ⟨T89, h89, k89, X89, e89, E89, A89, st89⟩ := newP X88 hx hZ (wd hw 12 rfl) e88 (g := (mkF m 333 #[.val (.int p0), .val (.int p1), .val (.long l2), .second, .val (.int ((p0 &&& (2147483647 : Int32)) % (3 : Int32))), .val (.ref kd), .val (.int (pk p1 l2 (0 : Int32) (86 : Int32))), .val (.int (pk p1 l2 (1 : Int32) (79 : Int32))), .val (.int (pk p1 l2 (2 : Int32) (95 : Int32))), .val (.int (pk p1 l2 (3 : Int32) (65 : Int32))), .val (.int (pk p1 l2 (4 : Int32) (68 : Int32))), .val (.int (pk p1 l2 (5 : Int32) (77 : Int32))), .val (.int (pk p1 l2 (6 : Int32) (73 : Int32))), .val (.int (pk p1 l2 (7 : Int32) (78 : Int32))), .val (.int ((((p1.toUInt32 >>> ((10 : Int32) &&& 31).toUInt32).toInt32) &&& (255 : Int32)).toUInt32.toUInt16.toUInt32.toInt32)), .val (.int (((p1.toUInt32 >>> ((8 : Int32) &&& 31).toUInt32).toInt32) &&& (3 : Int32))), .unset, .unset, .unset] [(.int (0 : Int32)), (.ref b88), (.ref b88)])) rfl (hb hby at_333) rfl (by decide) (cap := 0) (by decide) (by decide) (by decide) (by decide)
          obtain ⟨b89, y89⟩ : ∃ z, z = h88.size := ⟨_, rfl⟩
          rw [← y89] at A89 st89
          have g_b89 : n0 ≤ b89 := y89.symm ▸ old_sz O0
          have SF_b89 : Safe Z consts_1 s.vm h88 b89 := Safe.new (Nat.le_of_eq y89.symm)
          have ne_b88_b89 : b88 ≠ b89 := Nat.ne_of_lt (y89.symm ▸ E_b88.lt)
          have CHo := CH
          have SF_b88o := SF_b88
          have SF_b89o := SF_b89
          have hk := Nat.le_trans hk E89.1
          have O0 := O0.ext E89
          have SF_b88 := Safe.ext E89 CHo.1 SF_b88o
          have E_b88 := E_b88.ext E89
          have F_coder_b88 := F_coder_b88.ext E89
          have F_value_b88 := F_value_b88.ext E89
          have SF_b89 := Safe.ext E89 CHo.1 SF_b89o
          have CH := CHo.trans (CHr.ext E89 CHo.1)
          have V_b89 : Arv Z h89 b89 k89 .char (0 : Int32) [] (.int (0 : Int32)) := (Arv.new A89 (by decide)).pad (pad_rep [] (.int (0 : Int32)) 0)
          refine go st89 ?_
          show Run p e below _ (T89.setTop (mkF m 335 #[.val (.int p0), .val (.int p1), .val (.long l2), .second, .val (.int ((p0 &&& (2147483647 : Int32)) % (3 : Int32))), .val (.ref kd), .val (.int (pk p1 l2 (0 : Int32) (86 : Int32))), .val (.int (pk p1 l2 (1 : Int32) (79 : Int32))), .val (.int (pk p1 l2 (2 : Int32) (95 : Int32))), .val (.int (pk p1 l2 (3 : Int32) (65 : Int32))), .val (.int (pk p1 l2 (4 : Int32) (68 : Int32))), .val (.int (pk p1 l2 (5 : Int32) (77 : Int32))), .val (.int (pk p1 l2 (6 : Int32) (73 : Int32))), .val (.int (pk p1 l2 (7 : Int32) (78 : Int32))), .val (.int ((((p1.toUInt32 >>> ((10 : Int32) &&& 31).toUInt32).toInt32) &&& (255 : Int32)).toUInt32.toUInt16.toUInt32.toInt32)), .val (.int (((p1.toUInt32 >>> ((8 : Int32) &&& 31).toUInt32).toInt32) &&& (3 : Int32))), .unset, .unset, .unset] [(.ref b89), (.ref b88), (.ref b88)]))
          refine callSpS rfl X89 hx hZ hown (wd hw 13 rfl) (wd hw 14 rfl) (wd hw 15 rfl) (wd hw 11 rfl) (by decide) e89 hS hk hEL CH (a := b88) (argsL := [(.ref b89)]) (rest := [(.ref b88)]) (allS ⟨E_b88.lt, SF_b88⟩ all0) (rm_e1 l Z a0 hw [] b88 b89 k89 h89 n0 O0 hEL E_b88 F_value_b88 F_coder_b88 g_b88 V_b89) (W := 1) (by decide) (by decide) (by decide) (by decide) (by rw [hml]; rfl) (lenOf pd_4 rfl) rfl (Nat.le_of_eq rfl) (hb hby at_335) ?_
          intro v90 T90 L90 h90 k90 X90 e90 hS hk hZ hown CH' D90 q90
          have lt91_b88 := E_b88.lt
          have lt91_b89 := V_b89.lt
          have SF_b88 := CHr.safe D90 lt91_b88 SF_b88
          have SF_b89 := CHr.safe D90 lt91_b89 SF_b89
          obtain ⟨rfl, n90, K90, t90, kb90, T_b88⟩ := q90
          have O0 := O0.keep K90 (allS g_b88 all0)
          have V_b89 := V_b89.keep K90 (ninS (Ne.symm ne_b88_b89) nin0)
          have N90 := Fr.app N28 n90
          have CH := CH'
          show Run p e below _ (T90.setTop (mkF m 338 #[.val (.int p0), .val (.int p1), .val (.long l2), .second, .val (.int ((p0 &&& (2147483647 : Int32)) % (3 : Int32))), .val (.ref kd), .val (.int (pk p1 l2 (0 : Int32) (86 : Int32))), .val (.int (pk p1 l2 (1 : Int32) (79 : Int32))), .val (.int (pk p1 l2 (2 : Int32) (95 : Int32))), .val (.int (pk p1 l2 (3 : Int32) (65 : Int32))), .val (.int (pk p1 l2 (4 : Int32) (68 : Int32))), .val (.int (pk p1 l2 (5 : Int32) (77 : Int32))), .val (.int (pk p1 l2 (6 : Int32) (73 : Int32))), .val (.int (pk p1 l2 (7 : Int32) (78 : Int32))), .val (.int ((((p1.toUInt32 >>> ((10 : Int32) &&& 31).toUInt32).toInt32) &&& (255 : Int32)).toUInt32.toUInt16.toUInt32.toInt32)), .val (.int (((p1.toUInt32 >>> ((8 : Int32) &&& 31).toUInt32).toInt32) &&& (3 : Int32))), .unset, .unset, .unset] [(.ref b88)]))
          refine go (fun _ => XS.astore X90.here hx rfl (hb hby at_338) rfl rfl (l' := #[.val (.int p0), .val (.int p1), .val (.long l2), .second, .val (.int ((p0 &&& (2147483647 : Int32)) % (3 : Int32))), .val (.ref kd), .val (.int (pk p1 l2 (0 : Int32) (86 : Int32))), .val (.int (pk p1 l2 (1 : Int32) (79 : Int32))), .val (.int (pk p1 l2 (2 : Int32) (95 : Int32))), .val (.int (pk p1 l2 (3 : Int32) (65 : Int32))), .val (.int (pk p1 l2 (4 : Int32) (68 : Int32))), .val (.int (pk p1 l2 (5 : Int32) (77 : Int32))), .val (.int (pk p1 l2 (6 : Int32) (73 : Int32))), .val (.int (pk p1 l2 (7 : Int32) (78 : Int32))), .val (.int ((((p1.toUInt32 >>> ((10 : Int32) &&& 31).toUInt32).toInt32) &&& (255 : Int32)).toUInt32.toUInt16.toUInt32.toInt32)), .val (.int (((p1.toUInt32 >>> ((8 : Int32) &&& 31).toUInt32).toInt32) &&& (3 : Int32))), .val (.ref b88), .unset, .unset]) rfl) ?_
          show Run p e below _ (T90.setTop (mkF m 340 #[.val (.int p0), .val (.int p1), .val (.long l2), .second, .val (.int ((p0 &&& (2147483647 : Int32)) % (3 : Int32))), .val (.ref kd), .val (.int (pk p1 l2 (0 : Int32) (86 : Int32))), .val (.int (pk p1 l2 (1 : Int32) (79 : Int32))), .val (.int (pk p1 l2 (2 : Int32) (95 : Int32))), .val (.int (pk p1 l2 (3 : Int32) (65 : Int32))), .val (.int (pk p1 l2 (4 : Int32) (68 : Int32))), .val (.int (pk p1 l2 (5 : Int32) (77 : Int32))), .val (.int (pk p1 l2 (6 : Int32) (73 : Int32))), .val (.int (pk p1 l2 (7 : Int32) (78 : Int32))), .val (.int ((((p1.toUInt32 >>> ((10 : Int32) &&& 31).toUInt32).toInt32) &&& (255 : Int32)).toUInt32.toUInt16.toUInt32.toInt32)), .val (.int (((p1.toUInt32 >>> ((8 : Int32) &&& 31).toUInt32).toInt32) &&& (3 : Int32))), .val (.ref b88), .unset, .unset] []))
          exact J340 _ _ _ _ _ (smono X90 (by decide) (by decide)) e90 N90 hZ hown hS hk CH b88 t90 kb90 [] O0 T_b88 In8.nil (by simp) (fun q => absurd q c49) (fun _ q => by simp at q)
  by_cases c92 : ((p0 &&& (2147483647 : Int32)) % (3 : Int32)) = 0
  · skip
    refine go (fun _ => XS.ifNo X0.here hx rfl (hb hby at_10) rfl ((if0 _ _).trans (teq c92).2)) ?_
    show Run p e below _ (T0.setTop (mkF m 13 #[.val (.int p0), .val (.int p1), .val (.long l2), .second, .val (.int ((p0 &&& (2147483647 : Int32)) % (3 : Int32))), .unset, .unset, .unset, .unset, .unset, .unset, .unset, .unset, .unset, .unset, .unset, .unset, .unset, .unset] []))
    obtain ⟨T93, X93, e93, st93⟩ := getS2 X0 hx hZ hown (host := "") (Or.inl (wd hw 1 rfl)) Via.refl e0 (S_GROUP.ext O0.2) (g := (mkF m 13 #[.val (.int p0), .val (.int p1), .val (.long l2), .second, .val (.int ((p0 &&& (2147483647 : Int32)) % (3 : Int32))), .unset, .unset, .unset, .unset, .unset, .unset, .unset, .unset, .unset, .unset, .unset, .unset, .unset, .unset] [])) rfl (hb hby at_13)
    refine go st93 ?_
    show Run p e below _ (T93.setTop (mkF m 16 #[.val (.int p0), .val (.int p1), .val (.long l2), .second, .val (.int ((p0 &&& (2147483647 : Int32)) % (3 : Int32))), .unset, .unset, .unset, .unset, .unset, .unset, .unset, .unset, .unset, .unset, .unset, .unset, .unset, .unset] [(.ref wg)]))
    refine go (fun _ => XS.goto X93.here hx rfl (pc0 := 16) (pc' := 34) rfl (hb hby at_16) (by decide) (by decide)) ?_
    show Run p e below _ (T93.setTop (mkF m 34 #[.val (.int p0), .val (.int p1), .val (.long l2), .second, .val (.int ((p0 &&& (2147483647 : Int32)) % (3 : Int32))), .unset, .unset, .unset, .unset, .unset, .unset, .unset, .unset, .unset, .unset, .unset, .unset, .unset, .unset] [(.ref wg)]))
    refine go (fun _ => XS.astore X93.here hx rfl (hb hby at_34) rfl rfl (l' := #[.val (.int p0), .val (.int p1), .val (.long l2), .second, .val (.int ((p0 &&& (2147483647 : Int32)) % (3 : Int32))), .val (.ref wg), .unset, .unset, .unset, .unset, .unset, .unset, .unset, .unset, .unset, .unset, .unset, .unset, .unset]) rfl) ?_
    show Run p e below _ (T93.setTop (mkF m 36 #[.val (.int p0), .val (.int p1), .val (.long l2), .second, .val (.int ((p0 &&& (2147483647 : Int32)) % (3 : Int32))), .val (.ref wg), .unset, .unset, .unset, .unset, .unset, .unset, .unset, .unset, .unset, .unset, .unset, .unset, .unset] []))
    exact J36 _ _ X93 e93 N0 wg  (Or.inr ⟨by rw [c92]; decide, Or.inl rfl⟩)
  · skip
    refine go (fun _ => XS.ifYes X0.here hx rfl (pc0 := 10) (pc' := 19) rfl (hb hby at_10) rfl ((if0 _ _).trans (feq c92).2) (by decide) (by decide)) ?_
    show Run p e below _ (T0.setTop (mkF m 19 #[.val (.int p0), .val (.int p1), .val (.long l2), .second, .val (.int ((p0 &&& (2147483647 : Int32)) % (3 : Int32))), .unset, .unset, .unset, .unset, .unset, .unset, .unset, .unset, .unset, .unset, .unset, .unset, .unset, .unset] []))
    refine go (fun _ => XS.iload X0.here hx rfl (hb hby at_19) rfl) ?_
    show Run p e below _ (T0.setTop (mkF m 21 #[.val (.int p0), .val (.int p1), .val (.long l2), .second, .val (.int ((p0 &&& (2147483647 : Int32)) % (3 : Int32))), .unset, .unset, .unset, .unset, .unset, .unset, .unset, .unset, .unset, .unset, .unset, .unset, .unset, .unset] [(.int ((p0 &&& (2147483647 : Int32)) % (3 : Int32)))]))
    refine go (fun _ => XS.iconst X0.here hx rfl (hb hby at_21)) ?_
    show Run p e below _ (T0.setTop (mkF m 22 #[.val (.int p0), .val (.int p1), .val (.long l2), .second, .val (.int ((p0 &&& (2147483647 : Int32)) % (3 : Int32))), .unset, .unset, .unset, .unset, .unset, .unset, .unset, .unset, .unset, .unset, .unset, .unset, .unset, .unset] [(.int (1 : Int32)), (.int ((p0 &&& (2147483647 : Int32)) % (3 : Int32)))]))
    by_cases c94 : ((p0 &&& (2147483647 : Int32)) % (3 : Int32)) = (1 : Int32)
    · skip
      refine go (fun _ => XS.icmpNo X0.here hx rfl (hb hby at_22) rfl (teq c94).2) ?_
      show Run p e below _ (T0.setTop (mkF m 25 #[.val (.int p0), .val (.int p1), .val (.long l2), .second, .val (.int ((p0 &&& (2147483647 : Int32)) % (3 : Int32))), .unset, .unset, .unset, .unset, .unset, .unset, .unset, .unset, .unset, .unset, .unset, .unset, .unset, .unset] []))
      obtain ⟨T95, X95, e95, st95⟩ := getS2 X0 hx hZ hown (host := "") (Or.inl (wd hw 46 rfl)) Via.refl e0 (S_ROLE.ext O0.2) (g := (mkF m 25 #[.val (.int p0), .val (.int p1), .val (.long l2), .second, .val (.int ((p0 &&& (2147483647 : Int32)) % (3 : Int32))), .unset, .unset, .unset, .unset, .unset, .unset, .unset, .unset, .unset, .unset, .unset, .unset, .unset, .unset] [])) rfl (hb hby at_25)
      refine go st95 ?_
      show Run p e below _ (T95.setTop (mkF m 28 #[.val (.int p0), .val (.int p1), .val (.long l2), .second, .val (.int ((p0 &&& (2147483647 : Int32)) % (3 : Int32))), .unset, .unset, .unset, .unset, .unset, .unset, .unset, .unset, .unset, .unset, .unset, .unset, .unset, .unset] [(.ref wr)]))
      refine go (fun _ => XS.goto X95.here hx rfl (pc0 := 28) (pc' := 34) rfl (hb hby at_28) (by decide) (by decide)) ?_
      show Run p e below _ (T95.setTop (mkF m 34 #[.val (.int p0), .val (.int p1), .val (.long l2), .second, .val (.int ((p0 &&& (2147483647 : Int32)) % (3 : Int32))), .unset, .unset, .unset, .unset, .unset, .unset, .unset, .unset, .unset, .unset, .unset, .unset, .unset, .unset] [(.ref wr)]))
      refine go (fun _ => XS.astore X95.here hx rfl (hb hby at_34) rfl rfl (l' := #[.val (.int p0), .val (.int p1), .val (.long l2), .second, .val (.int ((p0 &&& (2147483647 : Int32)) % (3 : Int32))), .val (.ref wr), .unset, .unset, .unset, .unset, .unset, .unset, .unset, .unset, .unset, .unset, .unset, .unset, .unset]) rfl) ?_
      show Run p e below _ (T95.setTop (mkF m 36 #[.val (.int p0), .val (.int p1), .val (.long l2), .second, .val (.int ((p0 &&& (2147483647 : Int32)) % (3 : Int32))), .val (.ref wr), .unset, .unset, .unset, .unset, .unset, .unset, .unset, .unset, .unset, .unset, .unset, .unset, .unset] []))
      exact J36 _ _ X95 e95 N0 wr  (Or.inl ⟨c94, rfl⟩)
    · skip
      refine go (fun _ => XS.icmpYes X0.here hx rfl (pc0 := 22) (pc' := 31) rfl (hb hby at_22) rfl (feq c94).2 (by decide) (by decide)) ?_
      show Run p e below _ (T0.setTop (mkF m 31 #[.val (.int p0), .val (.int p1), .val (.long l2), .second, .val (.int ((p0 &&& (2147483647 : Int32)) % (3 : Int32))), .unset, .unset, .unset, .unset, .unset, .unset, .unset, .unset, .unset, .unset, .unset, .unset, .unset, .unset] []))
      obtain ⟨T96, X96, e96, st96⟩ := getS2 X0 hx hZ hown (host := "") (Or.inl (wd hw 62 rfl)) Via.refl e0 (S_CAPABILITY.ext O0.2) (g := (mkF m 31 #[.val (.int p0), .val (.int p1), .val (.long l2), .second, .val (.int ((p0 &&& (2147483647 : Int32)) % (3 : Int32))), .unset, .unset, .unset, .unset, .unset, .unset, .unset, .unset, .unset, .unset, .unset, .unset, .unset, .unset] [])) rfl (hb hby at_31)
      refine go st96 ?_
      show Run p e below _ (T96.setTop (mkF m 34 #[.val (.int p0), .val (.int p1), .val (.long l2), .second, .val (.int ((p0 &&& (2147483647 : Int32)) % (3 : Int32))), .unset, .unset, .unset, .unset, .unset, .unset, .unset, .unset, .unset, .unset, .unset, .unset, .unset, .unset] [(.ref wc)]))
      refine go (fun _ => XS.astore X96.here hx rfl (hb hby at_34) rfl rfl (l' := #[.val (.int p0), .val (.int p1), .val (.long l2), .second, .val (.int ((p0 &&& (2147483647 : Int32)) % (3 : Int32))), .val (.ref wc), .unset, .unset, .unset, .unset, .unset, .unset, .unset, .unset, .unset, .unset, .unset, .unset, .unset]) rfl) ?_
      show Run p e below _ (T96.setTop (mkF m 36 #[.val (.int p0), .val (.int p1), .val (.long l2), .second, .val (.int ((p0 &&& (2147483647 : Int32)) % (3 : Int32))), .val (.ref wc), .unset, .unset, .unset, .unset, .unset, .unset, .unset, .unset, .unset, .unset, .unset, .unset, .unset] []))
      exact J36 _ _ X96 e96 N0 wc  (Or.inr ⟨c94, Or.inr rfl⟩)
set_option maxRecDepth 65536 in
set_option maxHeartbeats 40000000 in
theorem comes_1 {Post : Tables → Env → Array Value → State → Outcome → State → Prop} (hpost : ∀ tb e args s v u, (limb_1_1.after args s (.returned v) u = true ∧ limb_1_2.after args s (.returned v) u = true ∧ True) → FramedW s (.returned v) u (Jvm.fieldLocs frame_1_writes args s ++ Jvm.arrayLocs frame_1_arrays args s ++ Jvm.staticLocs frame_1_statics s) 24 2176 → Post tb e args s (.returned v) u) :
    ArmFor flags0 classFile x code maxLocals ret World_1 tables_1 room_1 Calls_1 rest_1 Pre_1 Post := by
  intro l hfl _ _ p e ha hc hk s m args below hf hA hF happ hP
  obtain ⟨hcalls, hrest, hpre⟩ := hP
  obtain ⟨-, -, -, hnamed, -, -, -, hat⟩ := (Spec.applies_iff hf).mp happ
  obtain ⟨hg, hn⟩ := and_e (Cond.before_iff.mp (show (Jvm.Cond.and given_1 narrow_1).before args s = true from hpre))
  obtain ⟨h1, hg⟩ := and_e hg
  obtain ⟨g0, hg⟩ := and_e hg
  obtain ⟨g1, hg⟩ := and_e hg
  have g2 := hg
  obtain ⟨w0, w1, w2, rfl⟩ : ∃ w0 w1 w2 : Value, args = #[w0, w1, w2] := by
    have hs : args.size = 3 := by simpa [Cond.value, given_1] using h1
    obtain ⟨L⟩ := args
    match L, hs with
    | [w0, w1, w2], _ => exact ⟨w0, w1, w2, rfl⟩
  have hw := fun d (hd : d ∈ tables_1) => atoms_spec (ws := Jvm.Cond.code x code maxLocals ret :: tables_1) hat d (List.mem_cons_of_mem _ hd)
  obtain ⟨hsets, hown0⟩ := atoms_of _ (rest_1_c_eq ▸ (show rest_1_c.before _ s = true from hrest))
  have hr0 := Cond.before_iff.mp hown0
  have hfit : Fit s := fun {y c} hc i hi => by
    obtain ⟨ha, rfl⟩ := Array.getElem?_eq_some_iff.mp hc
    have q := List.all_eq_true.mp ((Array.all_eq_true_iff_forall_mem.mp hF) _ (Array.getElem_mem ha)) i (List.mem_range.mpr hi)
    simpa [Array.getElem?_eq_getElem hi] using q
  obtain ⟨i0, ev0⟩ := is_v g0
  obtain rfl : w0 = (.int i0) := Option.some.inj ev0
  obtain ⟨i1, ev1⟩ := is_v g1
  obtain rfl : w1 = (.int i1) := Option.some.inj ev1
  obtain ⟨i2, ev2⟩ := isL_v g2
  obtain rfl : w2 = (.long i2) := Option.some.inj ev2
  obtain ⟨k0, hn⟩ := and_e hn
  obtain ⟨k1, hn⟩ := and_e hn
  have k2 := hn
  have hnz := not_v (Cond.before_iff.mp (hsets _ (List.mem_of_getElem? (i := 2) rfl)))
  obtain ⟨zc, ezc⟩ := is_v (Cond.before_iff.mp (hsets _ (List.mem_of_getElem? (i := 1) rfl)))
  have S_COMPACT_STRINGS := Sta.start ezc (Or.inl (hsets _ (List.mem_of_getElem? (i := 0) rfl)))
  have hzc : ¬ (zc = (0 : Int32)) := gotF (Cond.eq_ints ezc (Term.int_eval (0))) hnz
  obtain ⟨wg, evwg, Swg, Ewg⟩ := sta_exa (n := "GROUP") (wd hw 2 rfl) (wd hw 3 rfl) k0
  obtain ⟨wr, evwr, Swr, Ewr⟩ := sta_exa (n := "ROLE") (wd hw 2 rfl) (wd hw 45 rfl) k1
  obtain ⟨wc, evwc, Swc, Ewc⟩ := sta_exa (n := "CAPABILITY") (wd hw 2 rfl) (wd hw 63 rfl) k2
  have hEL : EW s _ consts_1 := (EW.cons (wd hw 48 rfl) (by decide) (EW.cons (wd hw 61 rfl) (by decide) EW.nil))
  have hCH := CHv.start hEL (fun p hp => hcalls.1 p hp) (hsets _ (List.mem_of_getElem? (i := 2) rfl)) (wd hw 28 rfl) (wd hw 10 rfl)
  obtain ⟨n, o, h1, h2, h3, _, L, rfl, ⟨rfl, N⟩, -, hq⟩ := rmlaw l s _ hw tables_1 i0 i1 i2 zc wg wr wc s.heap s.heap.size (Old.start s) hEL S_COMPACT_STRINGS hzc Swg Swr Swc Ewg Ewr Ewc p e ha hc hk s m _ below hf ((Spec.applies_iff_loose hf).mp happ).1 ⟨rfl, State.Warmed39.refl s, rfl, hCH, fun _ q => by cases q⟩ trivial
  refine ⟨n, _, h1, h2, h3, hpost _ _ _ _ _ _ ⟨Cond.after_iff.mpr rfl, Cond.after_iff.mpr (eq_i res_at (Term.int_eval (1)) rfl), trivial⟩ ⟨hq.1, hq.2.1, hq.2.2.1, (hq.2.2.2.sift fun y hy => Or.inr (N y hy)).mono (by decide) (by decide)⟩⟩
theorem main_1_1 : Claimed_1_1 := comes_1 fun _ _ _ _ _ _ h hF => ⟨h.1, hF⟩
theorem main_1_2 : Claimed_1_2 := comes_1 fun _ _ _ _ _ _ h hF => ⟨h.2.1, hF⟩
end Jvm.Pilot.@@N@@
namespace Jvm.Pilot.@@N@@
open Jvm Jvm.ClassFile Sem Op Lib Jvm.Free Jvm.Stand Jvm.Pilot.@@N@@.Jvm.D
/-! MADE BY PROGRAM (witnessworld.py) out of the Statement's table words and the real class files: 24 classes; the members and pool entries that the words name. The judged class is class 1, her method 2. -/
namespace start1
open Jvm.ClassFile
def u (s : String) : CpInfo := .utf8 (stringToUtf16 s)
/-- a pool by its gaps: so many unusable entries, then the entry; so many at the end -/
def gap : Nat → List CpInfo → List CpInfo
  | 0, r => r
  | n + 1, r => .unusable :: gap n r
def poolList (es : List (Nat × CpInfo)) (last : Nat) : List CpInfo := es.foldr (fun e r => gap e.1 (e.2 :: r)) (gap last [])
def pool (es : List (Nat × CpInfo)) (last : Nat) : Array CpInfo := ⟨poolList es last⟩
def fileOf (pool : Array CpInfo) (this : Nat) (attrs : Array Attribute := #[]) (ms : Array MethodInfo := #[]) (fl : Nat := 33) (sup : Nat := 0) (ifs : Array Nat := #[]) (fds : Array FieldInfo := #[]) : ClassFile where
  minorVersion := 0
  majorVersion := 65
  constantPool := pool
  accessFlags := fl
  thisClass := this
  superClass := sup
  interfaces := ifs
  fields := fds
  methods := ms
  attributes := attrs
def plain (name : String) (sup : Option ClassId) : Class where
  name := name
  kind := .ordinary
  loader := none
  accessFlags := 33
  super := sup
  interfaces := #[]
  cf := none
  fields := #[]
  methods := #[]
  instanceTypes := #[]
  staticTypes := #[]
  resolved := #[]
  callSites := []
  init := .initialized
  statics := none
  mirror := none

def pool0 : Array CpInfo := pool [(5, u "<init>"), (0, u "()V"), (1, .class_ 10), (1, u "java/lang/Object")] 113

def k0c0 : Code := { maxStack := 0, maxLocals := 1, code := object_method_1_code, exceptionTable := #[], attributes := #[] }
def k0m0 : Method := { name := "<init>", desc := "()V", sig := { parameters := [], returnType := none }, accessFlags := 1, code := some k0c0 }
/-- java/lang/Object -/
def k0 : Class := { plain "java/lang/Object" none with
  accessFlags := 33
  interfaces := #[]
  cf := some (fileOf pool0 8 #[] #[{ accessFlags := 1, nameIndex := 5, descriptorIndex := 6, attributes := #[] }] 33 0 #[] #[])
  fields := #[]
  methods := #[k0m0]
  instanceTypes := #[]
  staticTypes := #[]
  resolved := Array.replicate 124 none
  statics := none }

def pool1 : Array CpInfo := pool [(2, .class_ 4), (1, u "java/lang/Object"), (0, u "<init>"), (0, u "()V"), (0, .long 255), (1, .integer 2147483647), (0, .fieldref 11 12), (0, .class_ 13), (0, .nameAndType 14 15), (0, u "com/example/gridsteward/gridsteward/NameKind"), (0, u "GROUP"), (0, u "Lcom/example/gridsteward/gridsteward/NameKind;"), (0, .fieldref 11 17), (0, .nameAndType 18 15), (0, u "ROLE"), (0, .fieldref 11 20), (0, .nameAndType 21 15), (0, u "CAPABILITY"), (0, .methodref 23 24), (0, .class_ 25), (0, .nameAndType 26 27), (0, u "com/example/gridsteward/gridsteward/NameKindIsProtectedPinLaw"), (0, u "pick"), (0, u "(IJIC)C"), (0, .class_ 29), (0, u "java/lang/String"), (0, .methodref 28 31), (0, .nameAndType 5 32), (0, u "([C)V"), (0, .methodref 11 34), (0, .nameAndType 35 36), (0, u "isProtected"), (0, u "(Ljava/lang/String;)Z"), (3, u "law"), (0, u "(IIJ)Z")] 2

def k1m0 : Method := { name := "<init>", desc := "()V", sig := { parameters := [], returnType := none }, accessFlags := 1, code := none }
def k1c1 : Code := { maxStack := 4, maxLocals := 5, code := method_2_code, exceptionTable := #[], attributes := #[] }
def k1m1 : Method := { name := "pick", desc := "(IJIC)C", sig := { parameters := [.int, .long, .int, .char], returnType := some .char }, accessFlags := 10, code := some k1c1 }
def k1c2 : Code := { maxStack := 6, maxLocals := 19, code := code, exceptionTable := #[], attributes := #[] }
def k1m2 : Method := { name := "law", desc := "(IIJ)Z", sig := { parameters := [.int, .int, .long], returnType := some .boolean }, accessFlags := 9, code := some k1c2 }
/-- com/example/gridsteward/gridsteward/NameKindIsProtectedPinLaw -/
def k1 : Class := { plain "com/example/gridsteward/gridsteward/NameKindIsProtectedPinLaw" (some 0) with
  accessFlags := 49
  interfaces := #[]
  cf := some (fileOf pool1 23 #[] #[{ accessFlags := 1, nameIndex := 5, descriptorIndex := 6, attributes := #[] }, { accessFlags := 10, nameIndex := 26, descriptorIndex := 27, attributes := #[] }, { accessFlags := 9, nameIndex := 40, descriptorIndex := 41, attributes := #[] }] 49 2 #[] #[])
  fields := #[]
  methods := #[k1m0, k1m1, k1m2]
  instanceTypes := #[]
  staticTypes := #[]
  resolved := Array.replicate 44 none
  statics := none }

def pool2 : Array CpInfo := pool [(1, .class_ 2), (0, u "java/lang/constant/Constable"), (0, .class_ 4), (0, u "java/lang/Object")] 6

/-- java/lang/constant/Constable -/
def k2 : Class := { plain "java/lang/constant/Constable" (some 0) with
  accessFlags := 1537
  interfaces := #[]
  cf := some (fileOf pool2 1 #[] #[] 1537 3 #[] #[])
  fields := #[]
  methods := #[]
  instanceTypes := #[]
  staticTypes := #[]
  resolved := Array.replicate 11 none
  statics := none }

def pool3 : Array CpInfo := pool [(1, .class_ 2), (0, u "java/lang/Comparable"), (0, .class_ 4), (0, u "java/lang/Object")] 7

/-- java/lang/Comparable -/
def k3 : Class := { plain "java/lang/Comparable" (some 0) with
  accessFlags := 1537
  interfaces := #[]
  cf := some (fileOf pool3 1 #[] #[] 1537 3 #[] #[])
  fields := #[]
  methods := #[]
  instanceTypes := #[]
  staticTypes := #[]
  resolved := Array.replicate 12 none
  statics := none }

def pool4 : Array CpInfo := pool [(1, .class_ 2), (0, u "java/io/Serializable"), (0, .class_ 4), (0, u "java/lang/Object")] 2

/-- java/io/Serializable -/
def k4 : Class := { plain "java/io/Serializable" (some 0) with
  accessFlags := 1537
  interfaces := #[]
  cf := some (fileOf pool4 1 #[] #[] 1537 3 #[] #[])
  fields := #[]
  methods := #[]
  instanceTypes := #[]
  staticTypes := #[]
  resolved := Array.replicate 7 none
  statics := none }

def pool5 : Array CpInfo := pool [(2, .class_ 4), (1, u "java/lang/Enum"), (0, u "name"), (0, u "Ljava/lang/String;"), (2, u "ordinal"), (0, u "I"), (1, .class_ 14), (1, u "java/lang/Object"), (4, u "hash"), (86, .class_ 108), (1, u "java/lang/Enum$EnumDesc"), (2, .class_ 112), (0, u "java/lang/constant/Constable"), (0, .class_ 114), (0, u "java/lang/Comparable"), (0, .class_ 116), (0, u "java/io/Serializable")] 87

/-- java/lang/Enum -/
def k5 : Class := { plain "java/lang/Enum" (some 0) with
  accessFlags := 1057
  interfaces := #[2, 3, 4]
  cf := some (fileOf pool5 2 #[.nestMembers #[106]] #[] 1057 12 #[111, 113, 115] #[{ accessFlags := 18, nameIndex := 5, descriptorIndex := 6, attributes := #[] }, { accessFlags := 18, nameIndex := 9, descriptorIndex := 10, attributes := #[] }, { accessFlags := 2, nameIndex := 19, descriptorIndex := 10, attributes := #[] }])
  fields := #[{ name := "name", type := (.object "java/lang/String"), accessFlags := 18, slot := 0, constantValue := 0 }, { name := "ordinal", type := .int, accessFlags := 18, slot := 1, constantValue := 0 }, { name := "hash", type := .int, accessFlags := 2, slot := 2, constantValue := 0 }]
  methods := #[]
  instanceTypes := #[(.object "java/lang/String"), .int, .int]
  staticTypes := #[]
  resolved := Array.replicate 204 none
  statics := none }

def pool6 : Array CpInfo := pool [(1, .class_ 2), (0, u "com/example/gridsteward/gridsteward/NameKind"), (2, u "GROUP"), (0, u "Lcom/example/gridsteward/gridsteward/NameKind;"), (0, .fieldref 1 8), (0, .nameAndType 9 6), (0, u "ROLE"), (2, u "CAPABILITY"), (2, u "$VALUES"), (0, u "[Lcom/example/gridsteward/gridsteward/NameKind;"), (6, .class_ 25), (1, u "java/lang/Enum"), (8, u "word"), (0, u "Ljava/lang/String;"), (2, u "plural"), (2, u "label"), (26, .string 69), (0, u "VO_ADMIN"), (0, .methodref 71 72), (0, .class_ 73), (0, .nameAndType 74 75), (0, u "java/lang/String"), (0, u "equals"), (0, u "(Ljava/lang/Object;)Z"), (0, .class_ 77), (0, u "com/example/gridsteward/gridsteward/NameKind$1"), (10, .class_ 89), (0, u "com/example/gridsteward/gridsteward/NameKind$2"), (8, .class_ 99), (0, u "com/example/gridsteward/gridsteward/NameKind$3"), (20, u "isProtected"), (0, u "(Ljava/lang/String;)Z")] 32

def k6c0 : Code := { maxStack := 2, maxLocals := 2, code := prog_16_method_5_code, exceptionTable := #[], attributes := #[] }
def k6m0 : Method := { name := "isProtected", desc := "(Ljava/lang/String;)Z", sig := { parameters := [(.object "java/lang/String")], returnType := some .boolean }, accessFlags := 0, code := some k6c0 }
/-- com/example/gridsteward/gridsteward/NameKind -/
def k6 : Class := { plain "com/example/gridsteward/gridsteward/NameKind" (some 5) with
  accessFlags := 17440
  interfaces := #[]
  cf := some (fileOf pool6 1 #[.nestMembers #[98, 88, 76]] #[{ accessFlags := 0, nameIndex := 120, descriptorIndex := 121, attributes := #[] }] 17440 23 #[] #[{ accessFlags := 16409, nameIndex := 5, descriptorIndex := 6, attributes := #[] }, { accessFlags := 16409, nameIndex := 9, descriptorIndex := 6, attributes := #[] }, { accessFlags := 16409, nameIndex := 12, descriptorIndex := 6, attributes := #[] }, { accessFlags := 16, nameIndex := 34, descriptorIndex := 35, attributes := #[] }, { accessFlags := 16, nameIndex := 38, descriptorIndex := 35, attributes := #[] }, { accessFlags := 16, nameIndex := 41, descriptorIndex := 35, attributes := #[] }, { accessFlags := 4122, nameIndex := 15, descriptorIndex := 16, attributes := #[] }])
  fields := #[{ name := "GROUP", type := (.object "com/example/gridsteward/gridsteward/NameKind"), accessFlags := 16409, slot := 0, constantValue := 0 }, { name := "ROLE", type := (.object "com/example/gridsteward/gridsteward/NameKind"), accessFlags := 16409, slot := 1, constantValue := 0 }, { name := "CAPABILITY", type := (.object "com/example/gridsteward/gridsteward/NameKind"), accessFlags := 16409, slot := 2, constantValue := 0 }, { name := "word", type := (.object "java/lang/String"), accessFlags := 16, slot := 3, constantValue := 0 }, { name := "plural", type := (.object "java/lang/String"), accessFlags := 16, slot := 4, constantValue := 0 }, { name := "label", type := (.object "java/lang/String"), accessFlags := 16, slot := 5, constantValue := 0 }, { name := "$VALUES", type := (.array (.object "com/example/gridsteward/gridsteward/NameKind")), accessFlags := 4122, slot := 3, constantValue := 0 }]
  methods := #[k6m0]
  instanceTypes := #[(.object "java/lang/String"), .int, .int, (.object "java/lang/String"), (.object "java/lang/String"), (.object "java/lang/String")]
  staticTypes := #[(.object "com/example/gridsteward/gridsteward/NameKind"), (.object "com/example/gridsteward/gridsteward/NameKind"), (.object "com/example/gridsteward/gridsteward/NameKind"), (.array (.object "com/example/gridsteward/gridsteward/NameKind"))]
  resolved := Array.replicate 154 none
  statics := some 0 }

def pool7 : Array CpInfo := pool [(2, .class_ 4), (1, u "java/lang/CharSequence"), (42, .class_ 48), (0, u "java/lang/CharSequence$1CodePointIterator"), (10, .class_ 60), (0, u "java/lang/CharSequence$1CharIterator"), (5, .class_ 67), (0, u "java/lang/Object")] 63

/-- java/lang/CharSequence -/
def k7 : Class := { plain "java/lang/CharSequence" (some 0) with
  accessFlags := 1537
  interfaces := #[]
  cf := some (fileOf pool7 2 #[.nestMembers #[47, 59]] #[] 1537 66 #[] #[])
  fields := #[]
  methods := #[]
  instanceTypes := #[]
  staticTypes := #[]
  resolved := Array.replicate 131 none
  statics := none }

def pool8 : Array CpInfo := pool [(1, .class_ 2), (0, u "java/lang/constant/ConstantDesc"), (0, .class_ 4), (0, u "java/lang/Object")] 32

/-- java/lang/constant/ConstantDesc -/
def k8 : Class := { plain "java/lang/constant/ConstantDesc" (some 0) with
  accessFlags := 1537
  interfaces := #[]
  cf := some (fileOf pool8 1 #[] #[] 1537 3 #[] #[])
  fields := #[]
  methods := #[]
  instanceTypes := #[]
  staticTypes := #[]
  resolved := Array.replicate 37 none
  statics := none }

def pool9 : Array CpInfo := pool [(1, .methodref 2 3), (0, .class_ 4), (0, .nameAndType 5 6), (0, u "java/lang/Object"), (0, u "<init>"), (0, u "()V"), (0, .string 8), (0, u ""), (0, .fieldref 10 11), (0, .class_ 12), (0, .nameAndType 13 14), (0, u "java/lang/String"), (0, u "value"), (0, u "[B"), (0, .fieldref 10 16), (0, .nameAndType 17 18), (0, u "coder"), (0, u "B"), (2, u "hash"), (0, u "I"), (2, u "hashIsZero"), (0, u "Z"), (0, .methodref 10 28), (0, .nameAndType 5 29), (0, u "([CIILjava/lang/Void;)V"), (8, .fieldref 10 39), (0, .nameAndType 40 26), (0, u "COMPACT_STRINGS"), (1, .class_ 44), (1, u "java/lang/StringUTF16"), (0, u "compress"), (1, .methodref 42 48), (0, .nameAndType 49 50), (0, u "coderFromArrayLen"), (0, u "([BI)B"), (56, .class_ 109), (1, u "java/lang/StringLatin1"), (67, .methodref 42 178), (0, .nameAndType 45 179), (0, u "([CII)[B"), (361, .methodref 107 542), (0, .nameAndType 543 544), (0, u "equals"), (0, u "([B[B)Z"), (28, u "(Ljava/lang/Object;)Z"), (1, .class_ 576), (0, u "java/lang/CharSequence"), (22, u "CASE_INSENSITIVE_ORDER"), (0, u "Ljava/util/Comparator;"), (409, u "([C)V"), (90, u "serialPersistentFields"), (0, u "[Ljava/io/ObjectStreamField;"), (0, .class_ 1104), (0, u "java/lang/String$CaseInsensitiveComparator"), (1, .class_ 1107), (0, u "java/io/Serializable"), (0, .class_ 1109), (0, u "java/lang/Comparable"), (0, .class_ 1111), (0, u "java/lang/constant/Constable"), (0, .class_ 1113), (0, u "java/lang/constant/ConstantDesc"), (2, u "serialVersionUID"), (0, u "J"), (3, u "REPL"), (0, u "C"), (2, u "LATIN1"), (1, u "UTF16")] 323

def k9m0 : Method := { name := "<init>", desc := "()V", sig := { parameters := [], returnType := none }, accessFlags := 1, code := none }
def k9c1 : Code := { maxStack := 5, maxLocals := 2, code := jdk_42_method_3_code, exceptionTable := #[], attributes := #[] }
def k9m1 : Method := { name := "<init>", desc := "([C)V", sig := { parameters := [(.array .char)], returnType := none }, accessFlags := 1, code := some k9c1 }
def k9c2 : Code := { maxStack := 2, maxLocals := 3, code := jdk_42_method_66_code, exceptionTable := #[], attributes := #[] }
def k9m2 : Method := { name := "equals", desc := "(Ljava/lang/Object;)Z", sig := { parameters := [(.object "java/lang/Object")], returnType := some .boolean }, accessFlags := 1, code := some k9c2 }
def k9c3 : Code := { maxStack := 4, maxLocals := 6, code := jdk_42_method_149_code, exceptionTable := #[], attributes := #[] }
def k9m3 : Method := { name := "<init>", desc := "([CIILjava/lang/Void;)V", sig := { parameters := [(.array .char), .int, .int, (.object "java/lang/Void")], returnType := none }, accessFlags := 2, code := some k9c3 }
/-- java/lang/String -/
def k9 : Class := { plain "java/lang/String" (some 0) with
  accessFlags := 49
  interfaces := #[4, 3, 7, 2, 8]
  cf := some (fileOf pool9 10 #[.nestMembers #[1103]] #[{ accessFlags := 1, nameIndex := 5, descriptorIndex := 6, attributes := #[] }, { accessFlags := 1, nameIndex := 5, descriptorIndex := 1010, attributes := #[] }, { accessFlags := 1, nameIndex := 543, descriptorIndex := 573, attributes := #[] }, { accessFlags := 2, nameIndex := 5, descriptorIndex := 29, attributes := #[] }] 49 2 #[1106, 1108, 575, 1110, 1112] #[{ accessFlags := 18, nameIndex := 13, descriptorIndex := 14, attributes := #[] }, { accessFlags := 18, nameIndex := 17, descriptorIndex := 18, attributes := #[] }, { accessFlags := 2, nameIndex := 21, descriptorIndex := 22, attributes := #[] }, { accessFlags := 2, nameIndex := 25, descriptorIndex := 26, attributes := #[] }, { accessFlags := 26, nameIndex := 1116, descriptorIndex := 1117, attributes := #[] }, { accessFlags := 24, nameIndex := 40, descriptorIndex := 26, attributes := #[] }, { accessFlags := 26, nameIndex := 1101, descriptorIndex := 1102, attributes := #[] }, { accessFlags := 26, nameIndex := 1121, descriptorIndex := 1122, attributes := #[] }, { accessFlags := 25, nameIndex := 599, descriptorIndex := 600, attributes := #[] }, { accessFlags := 24, nameIndex := 1125, descriptorIndex := 18, attributes := #[] }, { accessFlags := 24, nameIndex := 1127, descriptorIndex := 18, attributes := #[] }])
  fields := #[{ name := "value", type := (.array .byte), accessFlags := 18, slot := 0, constantValue := 0 }, { name := "coder", type := .byte, accessFlags := 18, slot := 1, constantValue := 0 }, { name := "hash", type := .int, accessFlags := 2, slot := 2, constantValue := 0 }, { name := "hashIsZero", type := .boolean, accessFlags := 2, slot := 3, constantValue := 0 }, { name := "serialVersionUID", type := .long, accessFlags := 26, slot := 0, constantValue := 0 }, { name := "COMPACT_STRINGS", type := .boolean, accessFlags := 24, slot := 1, constantValue := 0 }, { name := "serialPersistentFields", type := (.array (.object "java/io/ObjectStreamField")), accessFlags := 26, slot := 2, constantValue := 0 }, { name := "REPL", type := .char, accessFlags := 26, slot := 3, constantValue := 0 }, { name := "CASE_INSENSITIVE_ORDER", type := (.object "java/util/Comparator"), accessFlags := 25, slot := 4, constantValue := 0 }, { name := "LATIN1", type := .byte, accessFlags := 24, slot := 5, constantValue := 0 }, { name := "UTF16", type := .byte, accessFlags := 24, slot := 6, constantValue := 0 }]
  methods := #[k9m0, k9m1, k9m2, k9m3]
  instanceTypes := #[(.array .byte), .byte, .int, .boolean]
  staticTypes := #[.long, .boolean, (.array (.object "java/io/ObjectStreamField")), .char, (.object "java/util/Comparator"), .byte, .byte]
  resolved := Array.replicate 1451 none
  statics := some 1 }

def pool10 : Array CpInfo := pool [(6, .class_ 8), (1, u "java/lang/Object"), (0, u "<init>"), (0, u "()V"), (1, .class_ 14), (1, u "java/lang/StringUTF16"), (31, u "$assertionsDisabled"), (0, u "Z"), (13, u "HI_BYTE_SHIFT"), (0, u "I"), (2, u "LO_BYTE_SHIFT"), (49, .methodref 12 116), (0, .nameAndType 117 118), (0, u "compress"), (0, u "([CI[BII)I"), (3, u "([CII)[B"), (138, u "coderFromArrayLen"), (0, u "([BI)B"), (106, .class_ 371), (1, u "java/lang/StringUTF16$LinesSpliterator"), (58, u "MAX_LENGTH"), (196, .class_ 628), (0, u "java/lang/StringUTF16$CodePointsSpliterator"), (0, .class_ 630), (0, u "java/lang/StringUTF16$CharsSpliterator")] 4

def k10m0 : Method := { name := "<init>", desc := "()V", sig := { parameters := [], returnType := none }, accessFlags := 0, code := none }
def k10c1 : Code := { maxStack := 2, maxLocals := 2, code := jdk_52_method_15_code, exceptionTable := #[], attributes := #[] }
def k10m1 : Method := { name := "coderFromArrayLen", desc := "([BI)B", sig := { parameters := [(.array .byte), .int], returnType := some .byte }, accessFlags := 8, code := some k10c1 }
def k10c2 : Code := { maxStack := 5, maxLocals := 6, code := jdk_52_method_16_code, exceptionTable := #[], attributes := #[] }
def k10m2 : Method := { name := "compress", desc := "([CII)[B", sig := { parameters := [(.array .char), .int, .int], returnType := some (.array .byte) }, accessFlags := 9, code := some k10c2 }
def k10c3 : Code := { maxStack := 3, maxLocals := 7, code := jdk_52_method_21_code, exceptionTable := #[], attributes := #[] }
def k10m3 : Method := { name := "compress", desc := "([CI[BII)I", sig := { parameters := [(.array .char), .int, (.array .byte), .int, .int], returnType := some .int }, accessFlags := 9, code := some k10c3 }
/-- java/lang/StringUTF16 -/
def k10 : Class := { plain "java/lang/StringUTF16" (some 0) with
  accessFlags := 48
  interfaces := #[]
  cf := some (fileOf pool10 12 #[.nestMembers #[627, 629, 369]] #[{ accessFlags := 0, nameIndex := 9, descriptorIndex := 10, attributes := #[] }, { accessFlags := 8, nameIndex := 261, descriptorIndex := 262, attributes := #[] }, { accessFlags := 9, nameIndex := 117, descriptorIndex := 122, attributes := #[] }, { accessFlags := 9, nameIndex := 117, descriptorIndex := 118, attributes := #[] }] 48 6 #[] #[{ accessFlags := 26, nameIndex := 61, descriptorIndex := 62, attributes := #[] }, { accessFlags := 26, nameIndex := 65, descriptorIndex := 62, attributes := #[] }, { accessFlags := 24, nameIndex := 430, descriptorIndex := 62, attributes := #[] }, { accessFlags := 4120, nameIndex := 46, descriptorIndex := 47, attributes := #[] }])
  fields := #[{ name := "HI_BYTE_SHIFT", type := .int, accessFlags := 26, slot := 0, constantValue := 0 }, { name := "LO_BYTE_SHIFT", type := .int, accessFlags := 26, slot := 1, constantValue := 0 }, { name := "MAX_LENGTH", type := .int, accessFlags := 24, slot := 2, constantValue := 0 }, { name := "$assertionsDisabled", type := .boolean, accessFlags := 4120, slot := 3, constantValue := 0 }]
  methods := #[k10m0, k10m1, k10m2, k10m3]
  instanceTypes := #[]
  staticTypes := #[.int, .int, .int, .boolean]
  resolved := Array.replicate 635 none
  statics := none }

def pool11 : Array CpInfo := pool [(2, .class_ 4), (1, u "com/example/gridsteward/gridsteward/NameKind"), (8, .class_ 14), (0, u "com/example/gridsteward/gridsteward/NameKind$1")] 10

/-- com/example/gridsteward/gridsteward/NameKind$1 -/
def k11 : Class := { plain "com/example/gridsteward/gridsteward/NameKind$1" (some 6) with
  accessFlags := 16432
  interfaces := #[]
  cf := some (fileOf pool11 13 #[.nestHost 2] #[] 16432 2 #[] #[])
  fields := #[]
  methods := #[]
  instanceTypes := #[(.object "java/lang/String"), .int, .int, (.object "java/lang/String"), (.object "java/lang/String"), (.object "java/lang/String")]
  staticTypes := #[]
  resolved := Array.replicate 25 none
  statics := none }

def pool12 : Array CpInfo := pool [(2, .class_ 4), (1, u "com/example/gridsteward/gridsteward/NameKind"), (8, .class_ 14), (0, u "com/example/gridsteward/gridsteward/NameKind$2")] 10

/-- com/example/gridsteward/gridsteward/NameKind$2 -/
def k12 : Class := { plain "com/example/gridsteward/gridsteward/NameKind$2" (some 6) with
  accessFlags := 16432
  interfaces := #[]
  cf := some (fileOf pool12 13 #[.nestHost 2] #[] 16432 2 #[] #[])
  fields := #[]
  methods := #[]
  instanceTypes := #[(.object "java/lang/String"), .int, .int, (.object "java/lang/String"), (.object "java/lang/String"), (.object "java/lang/String")]
  staticTypes := #[]
  resolved := Array.replicate 25 none
  statics := none }

def pool13 : Array CpInfo := pool [(4, .class_ 6), (1, u "java/lang/Object"), (0, u "<init>"), (0, u "()V"), (5, .class_ 16), (1, u "java/lang/StringLatin1"), (104, u "$assertionsDisabled"), (0, u "Z"), (98, .class_ 223), (1, u "java/lang/StringLatin1$LinesSpliterator"), (57, u "equals"), (0, u "([B[B)Z"), (107, .class_ 391), (0, u "java/lang/StringLatin1$CharsSpliterator")] 3

def k13m0 : Method := { name := "<init>", desc := "()V", sig := { parameters := [], returnType := none }, accessFlags := 0, code := none }
def k13c1 : Code := { maxStack := 3, maxLocals := 3, code := jdk_43_method_13_code, exceptionTable := #[], attributes := #[] }
def k13m1 : Method := { name := "equals", desc := "([B[B)Z", sig := { parameters := [(.array .byte), (.array .byte)], returnType := some .boolean }, accessFlags := 9, code := some k13c1 }
/-- java/lang/StringLatin1 -/
def k13 : Class := { plain "java/lang/StringLatin1" (some 0) with
  accessFlags := 48
  interfaces := #[]
  cf := some (fileOf pool13 14 #[.nestMembers #[390, 221]] #[{ accessFlags := 0, nameIndex := 7, descriptorIndex := 8, attributes := #[] }, { accessFlags := 9, nameIndex := 281, descriptorIndex := 282, attributes := #[] }] 48 4 #[] #[{ accessFlags := 4120, nameIndex := 121, descriptorIndex := 122, attributes := #[] }])
  fields := #[{ name := "$assertionsDisabled", type := .boolean, accessFlags := 4120, slot := 0, constantValue := 0 }]
  methods := #[k13m0, k13m1]
  instanceTypes := #[]
  staticTypes := #[.boolean]
  resolved := Array.replicate 395 none
  statics := none }

def pool14 : Array CpInfo := pool [(2, .class_ 4), (1, u "com/example/gridsteward/gridsteward/NameKind"), (8, .class_ 14), (0, u "com/example/gridsteward/gridsteward/NameKind$3")] 10

/-- com/example/gridsteward/gridsteward/NameKind$3 -/
def k14 : Class := { plain "com/example/gridsteward/gridsteward/NameKind$3" (some 6) with
  accessFlags := 16432
  interfaces := #[]
  cf := some (fileOf pool14 13 #[.nestHost 2] #[] 16432 2 #[] #[])
  fields := #[]
  methods := #[]
  instanceTypes := #[(.object "java/lang/String"), .int, .int, (.object "java/lang/String"), (.object "java/lang/String"), (.object "java/lang/String")]
  staticTypes := #[]
  resolved := Array.replicate 25 none
  statics := none }

def pool15 : Array CpInfo := pool [(2, .class_ 4), (1, u "java/lang/Object"), (0, u "<init>"), (0, u "()V"), (17, .class_ 26), (1, u "jdk/internal/util/Preconditions"), (28, .class_ 56), (0, u "jdk/internal/util/Preconditions$4"), (57, .class_ 115), (0, u "jdk/internal/util/Preconditions$1"), (7, u "SIOOBE_FORMATTER"), (0, u "Ljava/util/function/BiFunction;"), (0, .class_ 126), (0, u "jdk/internal/util/Preconditions$2"), (3, u "AIOOBE_FORMATTER"), (0, .class_ 132), (0, u "jdk/internal/util/Preconditions$3"), (3, u "IOOBE_FORMATTER")] 57

def k15m0 : Method := { name := "<init>", desc := "()V", sig := { parameters := [], returnType := none }, accessFlags := 1, code := none }
/-- jdk/internal/util/Preconditions -/
def k15 : Class := { plain "jdk/internal/util/Preconditions" (some 0) with
  accessFlags := 33
  interfaces := #[]
  cf := some (fileOf pool15 24 #[.nestMembers #[55, 131, 125, 114]] #[{ accessFlags := 1, nameIndex := 5, descriptorIndex := 6, attributes := #[] }] 33 2 #[] #[{ accessFlags := 25, nameIndex := 123, descriptorIndex := 124, attributes := #[] }, { accessFlags := 25, nameIndex := 130, descriptorIndex := 124, attributes := #[] }, { accessFlags := 25, nameIndex := 136, descriptorIndex := 124, attributes := #[] }])
  fields := #[{ name := "SIOOBE_FORMATTER", type := (.object "java/util/function/BiFunction"), accessFlags := 25, slot := 0, constantValue := 0 }, { name := "AIOOBE_FORMATTER", type := (.object "java/util/function/BiFunction"), accessFlags := 25, slot := 1, constantValue := 0 }, { name := "IOOBE_FORMATTER", type := (.object "java/util/function/BiFunction"), accessFlags := 25, slot := 2, constantValue := 0 }]
  methods := #[k15m0]
  instanceTypes := #[]
  staticTypes := #[(.object "java/util/function/BiFunction"), (.object "java/util/function/BiFunction"), (.object "java/util/function/BiFunction")]
  resolved := Array.replicate 194 none
  statics := some 2 }

def pool16 : Array CpInfo := pool [(9, u "<init>"), (6, .class_ 18), (1, u "java/lang/Object"), (0, u "()V"), (1, .class_ 23), (1, u "jdk/internal/util/ArraysSupport"), (0, u "LOG2_ARRAY_LONG_INDEX_SCALE"), (0, u "I"), (2, u "U"), (0, u "Ljdk/internal/misc/Unsafe;"), (8, u "BIG_ENDIAN"), (0, u "Z"), (8, u "LOG2_BYTE_BIT_SIZE"), (4, u "LOG2_ARRAY_INT_INDEX_SCALE"), (54, u "JLA"), (0, u "Ljdk/internal/access/JavaLangAccess;"), (11, u "LOG2_ARRAY_BOOLEAN_INDEX_SCALE"), (9, u "LOG2_ARRAY_BYTE_INDEX_SCALE"), (5, u "LOG2_ARRAY_CHAR_INDEX_SCALE"), (5, u "LOG2_ARRAY_SHORT_INDEX_SCALE"), (18, u "LOG2_ARRAY_FLOAT_INDEX_SCALE"), (24, u "LOG2_ARRAY_DOUBLE_INDEX_SCALE"), (89, u "T_BOOLEAN"), (2, u "T_CHAR"), (1, u "T_FLOAT"), (1, u "T_DOUBLE"), (1, u "T_BYTE"), (1, u "T_SHORT"), (1, u "T_INT"), (1, u "T_LONG"), (1, u "SOFT_MAX_ARRAY_LENGTH")] 83

def k16m0 : Method := { name := "<init>", desc := "()V", sig := { parameters := [], returnType := none }, accessFlags := 2, code := none }
/-- jdk/internal/util/ArraysSupport -/
def k16 : Class := { plain "jdk/internal/util/ArraysSupport" (some 0) with
  accessFlags := 33
  interfaces := #[]
  cf := some (fileOf pool16 21 #[] #[{ accessFlags := 2, nameIndex := 9, descriptorIndex := 19, attributes := #[] }] 33 16 #[] #[{ accessFlags := 24, nameIndex := 28, descriptorIndex := 29, attributes := #[] }, { accessFlags := 26, nameIndex := 38, descriptorIndex := 39, attributes := #[] }, { accessFlags := 25, nameIndex := 121, descriptorIndex := 25, attributes := #[] }, { accessFlags := 25, nameIndex := 131, descriptorIndex := 25, attributes := #[] }, { accessFlags := 25, nameIndex := 137, descriptorIndex := 25, attributes := #[] }, { accessFlags := 25, nameIndex := 143, descriptorIndex := 25, attributes := #[] }, { accessFlags := 25, nameIndex := 53, descriptorIndex := 25, attributes := #[] }, { accessFlags := 25, nameIndex := 24, descriptorIndex := 25, attributes := #[] }, { accessFlags := 25, nameIndex := 162, descriptorIndex := 25, attributes := #[] }, { accessFlags := 25, nameIndex := 187, descriptorIndex := 25, attributes := #[] }, { accessFlags := 26, nameIndex := 48, descriptorIndex := 25, attributes := #[] }, { accessFlags := 25, nameIndex := 277, descriptorIndex := 25, attributes := #[] }, { accessFlags := 25, nameIndex := 280, descriptorIndex := 25, attributes := #[] }, { accessFlags := 25, nameIndex := 282, descriptorIndex := 25, attributes := #[] }, { accessFlags := 25, nameIndex := 284, descriptorIndex := 25, attributes := #[] }, { accessFlags := 25, nameIndex := 286, descriptorIndex := 25, attributes := #[] }, { accessFlags := 25, nameIndex := 288, descriptorIndex := 25, attributes := #[] }, { accessFlags := 25, nameIndex := 290, descriptorIndex := 25, attributes := #[] }, { accessFlags := 25, nameIndex := 292, descriptorIndex := 25, attributes := #[] }, { accessFlags := 26, nameIndex := 108, descriptorIndex := 109, attributes := #[] }, { accessFlags := 25, nameIndex := 294, descriptorIndex := 25, attributes := #[] }])
  fields := #[{ name := "U", type := (.object "jdk/internal/misc/Unsafe"), accessFlags := 24, slot := 0, constantValue := 0 }, { name := "BIG_ENDIAN", type := .boolean, accessFlags := 26, slot := 1, constantValue := 0 }, { name := "LOG2_ARRAY_BOOLEAN_INDEX_SCALE", type := .int, accessFlags := 25, slot := 2, constantValue := 0 }, { name := "LOG2_ARRAY_BYTE_INDEX_SCALE", type := .int, accessFlags := 25, slot := 3, constantValue := 0 }, { name := "LOG2_ARRAY_CHAR_INDEX_SCALE", type := .int, accessFlags := 25, slot := 4, constantValue := 0 }, { name := "LOG2_ARRAY_SHORT_INDEX_SCALE", type := .int, accessFlags := 25, slot := 5, constantValue := 0 }, { name := "LOG2_ARRAY_INT_INDEX_SCALE", type := .int, accessFlags := 25, slot := 6, constantValue := 0 }, { name := "LOG2_ARRAY_LONG_INDEX_SCALE", type := .int, accessFlags := 25, slot := 7, constantValue := 0 }, { name := "LOG2_ARRAY_FLOAT_INDEX_SCALE", type := .int, accessFlags := 25, slot := 8, constantValue := 0 }, { name := "LOG2_ARRAY_DOUBLE_INDEX_SCALE", type := .int, accessFlags := 25, slot := 9, constantValue := 0 }, { name := "LOG2_BYTE_BIT_SIZE", type := .int, accessFlags := 26, slot := 10, constantValue := 0 }, { name := "T_BOOLEAN", type := .int, accessFlags := 25, slot := 11, constantValue := 0 }, { name := "T_CHAR", type := .int, accessFlags := 25, slot := 12, constantValue := 0 }, { name := "T_FLOAT", type := .int, accessFlags := 25, slot := 13, constantValue := 0 }, { name := "T_DOUBLE", type := .int, accessFlags := 25, slot := 14, constantValue := 0 }, { name := "T_BYTE", type := .int, accessFlags := 25, slot := 15, constantValue := 0 }, { name := "T_SHORT", type := .int, accessFlags := 25, slot := 16, constantValue := 0 }, { name := "T_INT", type := .int, accessFlags := 25, slot := 17, constantValue := 0 }, { name := "T_LONG", type := .int, accessFlags := 25, slot := 18, constantValue := 0 }, { name := "JLA", type := (.object "jdk/internal/access/JavaLangAccess"), accessFlags := 26, slot := 19, constantValue := 0 }, { name := "SOFT_MAX_ARRAY_LENGTH", type := .int, accessFlags := 25, slot := 20, constantValue := 0 }]
  methods := #[k16m0]
  instanceTypes := #[]
  staticTypes := #[(.object "jdk/internal/misc/Unsafe"), .boolean, .int, .int, .int, .int, .int, .int, .int, .int, .int, .int, .int, .int, .int, .int, .int, .int, .int, (.object "jdk/internal/access/JavaLangAccess"), .int]
  resolved := Array.replicate 378 none
  statics := none }

def pool17 : Array CpInfo := pool [(1, u "java/lang/Cloneable"), (0, .class_ 1), (0, u "java/lang/Object"), (0, .class_ 3)] 3

/-- java/lang/Cloneable -/
def k17 : Class := { plain "java/lang/Cloneable" (some 0) with
  accessFlags := 1537
  interfaces := #[]
  cf := some (fileOf pool17 2 #[] #[] 1537 4 #[] #[])
  fields := #[]
  methods := #[]
  instanceTypes := #[]
  staticTypes := #[]
  resolved := Array.replicate 8 none
  statics := none }

/-- the primitive byte -/
def k18 : Class := { plain "byte" none with kind := .primitive 'B', accessFlags := 0x411 }
/-- [B -/
def k19 : Class := { plain "[B" (some 0) with kind := .array 18 .byte, interfaces := #[17, 4], accessFlags := 1041 }

/-- the primitive char -/
def k20 : Class := { plain "char" none with kind := .primitive 'C', accessFlags := 0x411 }
/-- [C -/
def k21 : Class := { plain "[C" (some 0) with kind := .array 20 .char, interfaces := #[17, 4], accessFlags := 1041 }

/-- the primitive int -/
def k22 : Class := { plain "int" none with kind := .primitive 'I', accessFlags := 0x411 }
/-- [I -/
def k23 : Class := { plain "[I" (some 0) with kind := .array 22 .int, interfaces := #[17, 4], accessFlags := 1041 }

def heap : Heap := #[{ cls := 6, slots := #[.ref 3, .ref 4, .ref 5, .null], vm := .statics 6 },
  { cls := 9, slots := #[.long 0, .int 1, .null, .int 0, .null, .int 0, .int 0], vm := .statics 9 },
  { cls := 15, slots := #[.null, .null, .null], vm := .statics 15 },
  { cls := 11, slots := #[.null, .int 0, .int 0, .null, .null, .null], vm := .none },
  { cls := 12, slots := #[.null, .int 0, .int 0, .null, .null, .null], vm := .none },
  { cls := 14, slots := #[.null, .int 0, .int 0, .null, .null, .null], vm := .none }]
def classes : Array Class := #[k0, k1, k2, k3, k4, k5, k6, k7, k8, k9, k10, k11, k12, k13, k14, k15, k16, k17, k18, k19, k20, k21, k22, k23]
def interned : List (Array UInt16 × Addr) := []
def slotsUsed : Nat := 32
def theMethod : MethodId := ⟨1, 2⟩
def args0 : Array Value := #[.int 1, .int 2, .long 3]
def aboutOver (below : List Frame) : State where
  vm := { classes := classes, interned := interned.toArray }
  heap := heap
  slotsUsed := slotsUsed
  threads := #[{ frames := .invoking theMethod args0 :: below }]
def below0 : List Frame := [.native { method := ⟨0, 0⟩, args := #[] }]
def about1 : State := aboutOver below0
def p0 : Program := .bare "" "" ""
def e0 : Env := launch0.env 0 0 0
theorem w_frames : about1.frames = Frame.invoking theMethod args0 :: below0 := rfl
set_option maxRecDepth 65536 in
theorem w_args : argsFit about1.vm theMethod args0 = true := by decide +kernel
set_option maxRecDepth 65536 in
theorem w_heap : heapFits about1 = true := by decide +kernel
set_option maxRecDepth 65536 in
theorem w_runnable : about1.curStatus? = some .runnable := by decide +kernel
set_option maxRecDepth 65536 in
theorem w_alone : about1.alone = true := by decide +kernel
set_option maxRecDepth 65536 in
theorem w_named : about1.methodNamed? x = some theMethod := by decide +kernel
set_option maxRecDepth 65536 in
theorem w_hears : about1.hears theMethod below0 = true := by decide +kernel
set_option maxRecDepth 65536 in
theorem w_ripe : about1.ripe theMethod args0 below0 = true := by decide +kernel
theorem w_running : about1.status = .running := rfl
set_option maxRecDepth 65536 in
theorem w_room : about1.hasRoom e0.platform room_1 = true :=
  launch0.hasRoom_least _ room_1 (by decide +kernel) (by decide +kernel) (by decide +kernel) (by decide +kernel) (by decide +kernel) (by decide +kernel)
theorem allAtoms_all (ts : List Jvm.Cond) (a : Array Jvm.Value) (st : Jvm.State) : (allAtoms ts).before a st = ts.all (fun c => c.before a st) := by
  induction ts with
  | nil => rfl
  | cons c t ih =>
    show (Jvm.Cond.and c (allAtoms t)).before a st = _
    rw [Jvm.Cond.before_and, ih, List.all_cons]
def words1 : List Jvm.Cond := Jvm.Cond.code x code maxLocals ret :: tables_1
/-- a 'code' word, met by the world's own term for the bytes: nothing is compared byte by byte -/
theorem code_word {y : MethodName} {bytes : ByteArray} {mx : Nat} {rt : Option FieldType} {a : Array Value} {s : State} {m : MethodId} {meth : Method} {c : Code} (h1 : s.methodNamed? y = some m) (h2 : s.vm.method? m = some meth) (h3 : meth.code = some c) (h4 : c.code = bytes)
    (h5 : (c.maxLocals == mx && c.exceptionTable.isEmpty && decide (c.maxStack ≤ mostOperands) && decide (meth.sig.returnType = rt) && !meth.locks && decide (parseMethodDescriptor y.desc = some meth.sig)) = true) : (Jvm.Cond.code y bytes mx rt).before a s = true := by
  simp only [Bool.and_eq_true, beq_iff_eq, Bool.not_eq_true', decide_eq_true_eq] at h5
  obtain ⟨⟨⟨⟨⟨g1, g2⟩, g3⟩, g4⟩, g5⟩, g6⟩ := h5
  simp [Cond.before, Cond.holds, Cond.value, h1, h2, h3, h4, g1, g2, g3, g4, g5, g6]
def isCode : Jvm.Cond → Bool
  | .code _ _ _ _ => true
  | _ => false
theorem all_split {L : List Jvm.Cond} {P : Jvm.Cond → Bool} (h1 : L.all (fun c => isCode c || P c) = true) (h2 : ∀ c ∈ L.filter isCode, P c = true) : L.all P = true := by
  refine List.all_eq_true.mpr fun c hc => ?_
  have h := List.all_eq_true.mp h1 c hc
  rcases Bool.eq_false_or_eq_true (isCode c) with hi | hi
  · exact h2 c (List.mem_filter.mpr ⟨hc, hi⟩)
  · simpa [hi] using h
set_option maxRecDepth 65536 in
theorem w_c0 : (Jvm.Cond.code x code maxLocals ret).before args0 about1 = true := code_word (m := ⟨1, 2⟩) (meth := k1m2) (c := k1c2) (by decide +kernel) rfl rfl rfl (by decide +kernel)
set_option maxRecDepth 65536 in
theorem w_c1 : (Jvm.Cond.code ({ cls := "com/example/gridsteward/gridsteward/NameKindIsProtectedPinLaw", name := "pick", desc := "(IJIC)C" } : Jvm.MethodName) method_2_code (5 : Nat) (Option.some Jvm.ClassFile.FieldType.char)).before args0 about1 = true := code_word (m := ⟨1, 1⟩) (meth := k1m1) (c := k1c1) (by decide +kernel) rfl rfl rfl (by decide +kernel)
set_option maxRecDepth 65536 in
theorem w_c2 : (Jvm.Cond.code ({ cls := "java/lang/String", name := "<init>", desc := "([C)V" } : Jvm.MethodName) jdk_42_method_3_code (2 : Nat) (Option.none : Option Jvm.ClassFile.FieldType)).before args0 about1 = true := code_word (m := ⟨9, 1⟩) (meth := k9m1) (c := k9c1) (by decide +kernel) rfl rfl rfl (by decide +kernel)
set_option maxRecDepth 65536 in
theorem w_c3 : (Jvm.Cond.code ({ cls := "java/lang/String", name := "<init>", desc := "([CIILjava/lang/Void;)V" } : Jvm.MethodName) jdk_42_method_149_code (6 : Nat) (Option.none : Option Jvm.ClassFile.FieldType)).before args0 about1 = true := code_word (m := ⟨9, 3⟩) (meth := k9m3) (c := k9c3) (by decide +kernel) rfl rfl rfl (by decide +kernel)
set_option maxRecDepth 65536 in
theorem w_c4 : (Jvm.Cond.code ({ cls := "java/lang/Object", name := "<init>", desc := "()V" } : Jvm.MethodName) object_method_1_code (1 : Nat) (Option.none : Option Jvm.ClassFile.FieldType)).before args0 about1 = true := code_word (m := ⟨0, 0⟩) (meth := k0m0) (c := k0c0) (by decide +kernel) rfl rfl rfl (by decide +kernel)
set_option maxRecDepth 65536 in
theorem w_c5 : (Jvm.Cond.code ({ cls := "java/lang/StringUTF16", name := "compress", desc := "([CII)[B" } : Jvm.MethodName) jdk_52_method_16_code (6 : Nat) (Option.some (Jvm.ClassFile.FieldType.array Jvm.ClassFile.FieldType.byte))).before args0 about1 = true := code_word (m := ⟨10, 2⟩) (meth := k10m2) (c := k10c2) (by decide +kernel) rfl rfl rfl (by decide +kernel)
set_option maxRecDepth 65536 in
theorem w_c6 : (Jvm.Cond.code ({ cls := "java/lang/StringUTF16", name := "compress", desc := "([CI[BII)I" } : Jvm.MethodName) jdk_52_method_21_code (7 : Nat) (Option.some Jvm.ClassFile.FieldType.int)).before args0 about1 = true := code_word (m := ⟨10, 3⟩) (meth := k10m3) (c := k10c3) (by decide +kernel) rfl rfl rfl (by decide +kernel)
set_option maxRecDepth 65536 in
theorem w_c7 : (Jvm.Cond.code ({ cls := "java/lang/StringUTF16", name := "coderFromArrayLen", desc := "([BI)B" } : Jvm.MethodName) jdk_52_method_15_code (2 : Nat) (Option.some Jvm.ClassFile.FieldType.byte)).before args0 about1 = true := code_word (m := ⟨10, 1⟩) (meth := k10m1) (c := k10c1) (by decide +kernel) rfl rfl rfl (by decide +kernel)
set_option maxRecDepth 65536 in
theorem w_c8 : (Jvm.Cond.code ({ cls := "com/example/gridsteward/gridsteward/NameKind", name := "isProtected", desc := "(Ljava/lang/String;)Z" } : Jvm.MethodName) prog_16_method_5_code (2 : Nat) (Option.some Jvm.ClassFile.FieldType.boolean)).before args0 about1 = true := code_word (m := ⟨6, 0⟩) (meth := k6m0) (c := k6c0) (by decide +kernel) rfl rfl rfl (by decide +kernel)
set_option maxRecDepth 65536 in
theorem w_c9 : (Jvm.Cond.code ({ cls := "java/lang/String", name := "equals", desc := "(Ljava/lang/Object;)Z" } : Jvm.MethodName) jdk_42_method_66_code (3 : Nat) (Option.some Jvm.ClassFile.FieldType.boolean)).before args0 about1 = true := code_word (m := ⟨9, 2⟩) (meth := k9m2) (c := k9c2) (by decide +kernel) rfl rfl rfl (by decide +kernel)
set_option maxRecDepth 65536 in
theorem w_c10 : (Jvm.Cond.code ({ cls := "java/lang/StringLatin1", name := "equals", desc := "([B[B)Z" } : Jvm.MethodName) jdk_43_method_13_code (3 : Nat) (Option.some Jvm.ClassFile.FieldType.boolean)).before args0 about1 = true := code_word (m := ⟨13, 1⟩) (meth := k13m1) (c := k13c1) (by decide +kernel) rfl rfl rfl (by decide +kernel)
def codes1 : List Jvm.Cond := [Jvm.Cond.code x code maxLocals ret, Jvm.Cond.code ({ cls := "com/example/gridsteward/gridsteward/NameKindIsProtectedPinLaw", name := "pick", desc := "(IJIC)C" } : Jvm.MethodName) method_2_code (5 : Nat) (Option.some Jvm.ClassFile.FieldType.char), Jvm.Cond.code ({ cls := "java/lang/String", name := "<init>", desc := "([C)V" } : Jvm.MethodName) jdk_42_method_3_code (2 : Nat) (Option.none : Option Jvm.ClassFile.FieldType), Jvm.Cond.code ({ cls := "java/lang/String", name := "<init>", desc := "([CIILjava/lang/Void;)V" } : Jvm.MethodName) jdk_42_method_149_code (6 : Nat) (Option.none : Option Jvm.ClassFile.FieldType), Jvm.Cond.code ({ cls := "java/lang/Object", name := "<init>", desc := "()V" } : Jvm.MethodName) object_method_1_code (1 : Nat) (Option.none : Option Jvm.ClassFile.FieldType), Jvm.Cond.code ({ cls := "java/lang/StringUTF16", name := "compress", desc := "([CII)[B" } : Jvm.MethodName) jdk_52_method_16_code (6 : Nat) (Option.some (Jvm.ClassFile.FieldType.array Jvm.ClassFile.FieldType.byte)), Jvm.Cond.code ({ cls := "java/lang/StringUTF16", name := "compress", desc := "([CI[BII)I" } : Jvm.MethodName) jdk_52_method_21_code (7 : Nat) (Option.some Jvm.ClassFile.FieldType.int), Jvm.Cond.code ({ cls := "java/lang/StringUTF16", name := "coderFromArrayLen", desc := "([BI)B" } : Jvm.MethodName) jdk_52_method_15_code (2 : Nat) (Option.some Jvm.ClassFile.FieldType.byte), Jvm.Cond.code ({ cls := "com/example/gridsteward/gridsteward/NameKind", name := "isProtected", desc := "(Ljava/lang/String;)Z" } : Jvm.MethodName) prog_16_method_5_code (2 : Nat) (Option.some Jvm.ClassFile.FieldType.boolean), Jvm.Cond.code ({ cls := "java/lang/String", name := "equals", desc := "(Ljava/lang/Object;)Z" } : Jvm.MethodName) jdk_42_method_66_code (3 : Nat) (Option.some Jvm.ClassFile.FieldType.boolean), Jvm.Cond.code ({ cls := "java/lang/StringLatin1", name := "equals", desc := "([B[B)Z" } : Jvm.MethodName) jdk_43_method_13_code (3 : Nat) (Option.some Jvm.ClassFile.FieldType.boolean)]
set_option maxRecDepth 65536 in
theorem codes_eq : words1.filter isCode = codes1 := rfl
theorem w_codes : ∀ c ∈ words1.filter isCode, c.before args0 about1 = true := by
  rw [codes_eq]
  intro c hc
  simp only [codes1, List.mem_cons, List.not_mem_nil, or_false] at hc
  rcases hc with rfl | rfl | rfl | rfl | rfl | rfl | rfl | rfl | rfl | rfl | rfl
  · exact w_c0
  · exact w_c1
  · exact w_c2
  · exact w_c3
  · exact w_c4
  · exact w_c5
  · exact w_c6
  · exact w_c7
  · exact w_c8
  · exact w_c9
  · exact w_c10
set_option maxRecDepth 65536 in
theorem w_t1 : (words1.take 24).all (fun c => isCode c || c.before args0 about1) = true := by decide +kernel
set_option maxRecDepth 65536 in
theorem w_t2 : ((words1.drop 24).take 24).all (fun c => isCode c || c.before args0 about1) = true := by decide +kernel
set_option maxRecDepth 65536 in
theorem w_t3 : ((words1.drop 24).drop 24).all (fun c => isCode c || c.before args0 about1) = true := by decide +kernel
theorem w_tables : (allAtoms (Jvm.Cond.code x code maxLocals ret :: tables_1)).before args0 about1 = true := by
  rw [allAtoms_all]
  show words1.all (fun c => c.before args0 about1) = true
  refine all_split ?_ w_codes
  rw [← List.take_append_drop 24 words1, List.all_append, w_t1, ← List.take_append_drop 24 (words1.drop 24), List.all_append, w_t2, w_t3]
  rfl
set_option maxRecDepth 65536 in
theorem w_rest : rest_1_c.before args0 about1 = true := by decide +kernel
set_option maxRecDepth 65536 in
theorem w_case : (Jvm.Cond.and given_1 narrow_1).before args0 about1 = true := by decide +kernel
set_option maxRecDepth 65536 in
theorem w_consts : constsHeld consts_1 about1 := Jvm.Lit.constsHeldB_iff.mp (by decide +kernel)
theorem w_applies : (headSpec (Jvm.Cond.code x code maxLocals ret :: tables_1) room_1).applies x e0.platform about1 = true :=
  (Spec.applies_iff w_frames).mpr ⟨w_running, w_runnable, w_alone, w_named, w_hears, w_ripe, w_room, w_tables⟩
theorem atStart : AtStart classFile x code maxLocals ret World_1 tables_1 room_1 Calls_1 rest_1 Pre_1 launch0 p0 e0 about1 theMethod args0 below0 :=
  ⟨lists_1, trivial, launch0.admits_env _ _ _, launch0.least_env, fairChoices_fair.cas, fairChoices_fair.clock, w_frames, w_args, w_heap, w_applies, ⟨w_consts, trivial⟩, w_rest, w_case⟩
end start1
theorem witness_1 : WitnessClaimed_1 := ⟨start1.p0, start1.e0, start1.about1, start1.theMethod, start1.args0, start1.below0, start1.atStart⟩
end Jvm.Pilot.@@N@@
