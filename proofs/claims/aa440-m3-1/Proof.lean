import JvmDerived
import JvmDerived.Pilot.@@N@@Statement
import JvmDerived.Pilot.@@N@@Code
set_option linter.unusedVariables false
set_option linter.unusedSimpArgs false
/- laws to paste: Road.backV, Road.eqW, Road.codOf (cut by pick.py; bodies as the Statement names them) -/
namespace Jvm.Pilot.@@N@@
namespace StrChars
open Jvm Sem ClassFile Op Lib Jvm.Stand Jvm.Free.XT Jvm.Free.ALB Jvm.Free.JM Jvm.Free
open Jvm.Lib.Cold (StaticIs)
/-- a char array whose places are chars -/
def Ch (a : Addr) (A : Cell) (U : State) : Prop := Arr .char a A U ∧ Typed .char A
theorem Ch.mv {a : Addr} {A : Cell} {U U' : State} (h : Ch a A U) (hal : U.vm.Alike U'.vm) (hh : U'.heap = U.heap) : Ch a A U' := ⟨h.1.mv hal hh, h.2⟩
theorem Ch.keep {a : Addr} {A : Cell} {U U' : State} (h : Ch a A U) (hal : U.vm.Alike U'.vm) (hk : U'.heap[a]? = some A) : Ch a A U' := ⟨h.1.keep hal hk, h.2⟩
/-- what place i of a char[]'s cell holds -/
def cv (A : Cell) (i : Nat) : Int32 := match A.slots[i]? with | some (.int x) => x | _ => 0
theorem Ch.get {a : Addr} {A : Cell} {U : State} (h : Ch a A U) {i : Nat} (hi : i < A.slots.size) : A.slots[i]? = some (.int (cv A i)) := by
  have e := Array.getElem?_eq_getElem hi
  have f := h.2 i _ e
  unfold cv; rw [e]
  generalize A.slots[i] = v at f
  cases v <;> simp [fits] at f ⊢
/-- the byte that i2b leaves of a char -/
def lo8 (x : Int32) : Int32 := x.toInt8.toInt32
theorem fits_lo8 (y : Int32) : fits .byte (.int (lo8 y)) = true := by
  have h1 := y.toInt8.le_toInt
  have h2 := y.toInt8.toInt_lt
  simp only [lo8, fits, Bool.and_eq_true, decide_eq_true_eq, Int32.le_iff_toInt_le, Int8.toInt_toInt32, show (-128 : Int32).toInt = -128 from by decide, show (127 : Int32).toInt = 127 from by decide]
  omega
/-- A' is A but that each place j of lo .. hi - 1 holds f j -/
def Laid (A A' : Cell) (lo hi : Nat) (f : Nat → Value) : Prop := A'.cls = A.cls ∧ A'.vm = A.vm ∧ A'.slots.size = A.slots.size ∧ ∀ i, A'.slots[i]? = if lo ≤ i ∧ i < hi then some (f i) else A.slots[i]?
theorem Laid.zero (A : Cell) (lo : Nat) (f : Nat → Value) : Laid A A lo (lo + 0) f := ⟨rfl, rfl, rfl, fun i => by rw [if_neg (by omega)]⟩
theorem Laid.step {A Ak : Cell} {lo k : Nat} {f : Nat → Value} {v : Value} (h : Laid A Ak lo k f) (hlo : lo ≤ k) (hk : k < Ak.slots.size) (hv : v = f k) : Laid A (Ak.setSlot k v) lo (k + 1) f := by
  refine ⟨h.1, h.2.1, by simpa [Cell.setSlot] using h.2.2.1, fun i => ?_⟩
  by_cases e : k = i
  · subst e; rw [Cell.slots_setSlot_self v hk, if_pos (by omega), hv]
  · rw [Cell.slots_setSlot_ne v e, h.2.2.2 i]
    by_cases q : lo ≤ i ∧ i < k
    · rw [if_pos q, if_pos (by omega)]
    · rw [if_neg q, if_neg (by omega)]
def U16 : String := "java/lang/StringUTF16"
namespace Cmp5
def yN : MethodName := ⟨"java/lang/StringUTF16", "compress", "([CI[BII)I"⟩
abbrev yB : ByteArray := jdk_52_method_21_code
theorem d0 : decode yB 0 = .ok (.iconst 0, 1) := by decide +kernel
theorem d1 : decode yB 1 = .ok (.istore 5, 2) := by decide +kernel
theorem d3 : decode yB 3 = .ok (.iload 5, 2) := by decide +kernel
theorem d5 : decode yB 5 = .ok (.iload 4, 2) := by decide +kernel
theorem d7 : decode yB 7 = .ok (.if_icmp (.ge) 37, 3) := by decide +kernel
theorem d10 : decode yB 10 = .ok (.aload_n 0, 1) := by decide +kernel
theorem d11 : decode yB 11 = .ok (.iload_n 1, 1) := by decide +kernel
theorem d12 : decode yB 12 = .ok (.caload, 1) := by decide +kernel
theorem d13 : decode yB 13 = .ok (.istore 6, 2) := by decide +kernel
theorem d15 : decode yB 15 = .ok (.iload 6, 2) := by decide +kernel
theorem d17 : decode yB 17 = .ok (.sipush 255, 3) := by decide +kernel
theorem d20 : decode yB 20 = .ok (.if_icmp (.le) 6, 3) := by decide +kernel
theorem d26 : decode yB 26 = .ok (.aload_n 2, 1) := by decide +kernel
theorem d27 : decode yB 27 = .ok (.iload_n 3, 1) := by decide +kernel
theorem d28 : decode yB 28 = .ok (.iload 6, 2) := by decide +kernel
theorem d30 : decode yB 30 = .ok (.i2b, 1) := by decide +kernel
theorem d31 : decode yB 31 = .ok (.bastore, 1) := by decide +kernel
theorem d32 : decode yB 32 = .ok (.iinc 1 1, 3) := by decide +kernel
theorem d35 : decode yB 35 = .ok (.iinc 3 1, 3) := by decide +kernel
theorem d38 : decode yB 38 = .ok (.iinc 5 1, 3) := by decide +kernel
theorem d41 : decode yB 41 = .ok (.goto (-38), 3) := by decide +kernel
theorem d44 : decode yB 44 = .ok (.iload 4, 2) := by decide +kernel
theorem d46 : decode yB 46 = .ok (.ireturn, 1) := by decide +kernel
def site : List Cond := []
def tab : Cond := tabOf yN yB 7 (some .int) site
def P (b : Addr) (A : Cell) (d : Addr) (B : Cell) (o q len : Nat) (args : Array Value) (s : State) : Prop := args = #[.ref b, .int (Int32.ofNat o), .ref d, .int (Int32.ofNat q), .int (Int32.ofNat len)] ∧ Ch b A s ∧ Arr .byte d B s ∧ b ≠ d ∧ o + len ≤ A.slots.size ∧ q + len ≤ B.slots.size ∧ ∀ i, i < len → ¬ 255 < cv A (o + i)
def E (b : Addr) (A : Cell) (d : Addr) (B : Cell) (o q len : Nat) (r : Option Value) (s u : State) : Prop := r = some (.int (Int32.ofNat len)) ∧ ∃ B', Put d B' s u ∧ Laid B B' q (q + len) (fun j => Value.int (lo8 (cv A (o + (j - q)))))
/-- no char of the range above 255: len; the places written hold each char's low byte -/
theorem law (l : Launch) (b : Addr) (A : Cell) (d : Addr) (B : Cell) (o q len : Nat) : Law l yN 5 5 0 0 yB 7 (some .int) site (P b A d B o q len) (E b A d B o q len) (copyLocs d q len) 0 0 := by
  refine Law.of_walk (plainFor_of_name (by decide +kernel)) (by decide +kernel) (by decide +kernel) (by decide) (fun _ _ h => by rw [h.1]; rfl) (fun _ U U' hal hh h => ⟨h.1, h.2.1.mv hal hh, h.2.2.1.mv hal hh, h.2.2.2⟩) (fun r U U' V V' h1 hal h2 h => ⟨h.1, h.2.elim fun B' q => ⟨B', q.1.mv h1 h2, q.2⟩⟩) ?_
  intro p e s m args below meth c s₁ X0 hexec hbytes hml hret hlk hnm hown hh0 W hP
  obtain ⟨rfl, hA, hB, hne, l1, l2, hp⟩ := hP
  have c1 : Steps p.tables e below (s₁.setTop (entryFrame m #[.ref b, .int (Int32.ofNat o), .ref d, .int (Int32.ofNat q), .int (Int32.ofNat len)] 7)) (s₁.setTop (mkF m 0 #[.val (.ref b), .val (.int (Int32.ofNat o)), .val (.ref d), .val (.int (Int32.ofNat q)), .val (.int (Int32.ofNat len)), .unset, .unset] [])) := entry rfl
  have hA0 := hA.1.mv X0.warmed.alike hh0
  have hB0 := hB.mv X0.warmed.alike hh0
  have a31 := hA.1.2.2.2
  have c2 : Steps p.tables e below (s₁.setTop (entryFrame m #[.ref b, .int (Int32.ofNat o), .ref d, .int (Int32.ofNat q), .int (Int32.ofNat len)] 7)) (s₁.setTop (mkF m 3 #[.val (.ref b), .val (.int (Int32.ofNat o)), .val (.ref d), .val (.int (Int32.ofNat q)), .val (.int (Int32.ofNat len)), .val (.int 0), .unset] [])) := c1.trans (by
    refine iconstV X0.here hexec rfl 0 (hb hbytes d0) (by decide) ?_
    refine XS.istore X0.here hexec rfl (hb hbytes d1) rfl rfl ?_
    exact Steps.refl _)
  have loop : ∀ (r i : Nat), i + r = len → ∀ (z : Slot), (z = .unset ∨ ∃ w, z = .val w ∧ w.category = 1) → ∀ (Tl : State) (Bk : Cell), Stand p l e { frames := 0, locals := 0, cells := 0, slots := 0 } s m #[.ref b, .int (Int32.ofNat o), .ref d, .int (Int32.ofNat q), .int (Int32.ofNat len)] below meth c Tl ([] ++ copyLocs d q i) 0 0 → Put d Bk s₁ Tl → Laid B Bk q (q + i) (fun j => Value.int (lo8 (cv A (o + (j - q))))) →
      Steps p.tables e below (s₁.setTop (entryFrame m #[.ref b, .int (Int32.ofNat o), .ref d, .int (Int32.ofNat q), .int (Int32.ofNat len)] 7)) (Tl.setTop (mkF m 3 #[.val (.ref b), .val (.int (Int32.ofNat (o + i))), .val (.ref d), .val (.int (Int32.ofNat (q + i))), .val (.int (Int32.ofNat len)), .val (.int (Int32.ofNat i)), z] [])) → ∃ (T' : State) (B' : Cell) (z' : Slot), Stand p l e { frames := 0, locals := 0, cells := 0, slots := 0 } s m #[.ref b, .int (Int32.ofNat o), .ref d, .int (Int32.ofNat q), .int (Int32.ofNat len)] below meth c T' ([] ++ copyLocs d q len) 0 0 ∧ Put d B' s₁ T' ∧ Laid B B' q (q + len) (fun j => Value.int (lo8 (cv A (o + (j - q))))) ∧
      Steps p.tables e below (s₁.setTop (entryFrame m #[.ref b, .int (Int32.ofNat o), .ref d, .int (Int32.ofNat q), .int (Int32.ofNat len)] 7)) (T'.setTop (mkF m 3 #[.val (.ref b), .val (.int (Int32.ofNat (o + len))), .val (.ref d), .val (.int (Int32.ofNat (q + len))), .val (.int (Int32.ofNat len)), .val (.int (Int32.ofNat len)), z'] [])) := by
    intro r
    induction r with
    | zero =>
      intro i hi z hz Tl Bk Xl pl fl cl
      have hil : i = len := by omega
      rw [hil] at Xl fl cl
      exact ⟨Tl, Bk, z, Xl, pl, fl, cl⟩
    | succ r ih =>
      intro i hi z hz Tl Bk Xl pl fl cl
      have all := X0.warmed.alike.symm.trans Xl.warmed.alike
      have hAl := hA0.keep all (pl.other hne hA0.1)
      have hBk := hB0.like all pl.1 fl.1 fl.2.1 fl.2.2.1
      have hlt : q + i < Bk.slots.size := by rw [fl.2.2.1]; omega
      have c3 : Steps p.tables e below (s₁.setTop (entryFrame m #[.ref b, .int (Int32.ofNat o), .ref d, .int (Int32.ofNat q), .int (Int32.ofNat len)] 7)) (Tl.setTop (mkF m 12 #[.val (.ref b), .val (.int (Int32.ofNat (o + i))), .val (.ref d), .val (.int (Int32.ofNat (q + i))), .val (.int (Int32.ofNat len)), .val (.int (Int32.ofNat i)), z] [.int (Int32.ofNat (o + i)), .ref b])) := cl.trans (by
        refine XS.iload Xl.here hexec rfl (hb hbytes d3) rfl ?_
        refine XS.iload Xl.here hexec rfl (hb hbytes d5) rfl ?_
        refine XS.icmpNo Xl.here hexec rfl (hb hbytes d7) rfl (ii_ge_f (lt32 (by omega) (by omega))) ?_
        refine XS.aloadN Xl.here hexec rfl (hb hbytes d10) rfl rfl ?_
        refine XS.iloadN Xl.here hexec rfl (hb hbytes d11) rfl ?_
        exact Steps.refl _)
      have c4 : Steps p.tables e below (s₁.setTop (entryFrame m #[.ref b, .int (Int32.ofNat o), .ref d, .int (Int32.ofNat q), .int (Int32.ofNat len)] 7)) (Tl.setTop (mkF m 13 #[.val (.ref b), .val (.int (Int32.ofNat (o + i))), .val (.ref d), .val (.int (Int32.ofNat (q + i))), .val (.int (Int32.ofNat len)), .val (.int (Int32.ofNat i)), z] [.int (cv A (o + i))])) := c3.trans (by
        refine Xl.aget hexec hAl rfl (hA.get (i := o + i) (by omega)) rfl rfl (hb hbytes d12) ?_
        exact Steps.refl _)
      have c5 : Steps p.tables e below (s₁.setTop (entryFrame m #[.ref b, .int (Int32.ofNat o), .ref d, .int (Int32.ofNat q), .int (Int32.ofNat len)] 7)) (Tl.setTop (mkF m 15 #[.val (.ref b), .val (.int (Int32.ofNat (o + i))), .val (.ref d), .val (.int (Int32.ofNat (q + i))), .val (.int (Int32.ofNat len)), .val (.int (Int32.ofNat i)), .val (.int (cv A (o + i)))] [])) := c4.trans (by
        refine XS.istoreS Xl.here hexec rfl (hb hbytes d13) rfl rfl hz ?_
        exact Steps.refl _)
      have c6 : Steps p.tables e below (s₁.setTop (entryFrame m #[.ref b, .int (Int32.ofNat o), .ref d, .int (Int32.ofNat q), .int (Int32.ofNat len)] 7)) (Tl.setTop (mkF m 31 #[.val (.ref b), .val (.int (Int32.ofNat (o + i))), .val (.ref d), .val (.int (Int32.ofNat (q + i))), .val (.int (Int32.ofNat len)), .val (.int (Int32.ofNat i)), .val (.int (cv A (o + i)))] [.int (lo8 (cv A (o + i))), .int (Int32.ofNat (q + i)), .ref d])) := c5.trans (by
        refine XS.iload Xl.here hexec rfl (hb hbytes d15) rfl ?_
        refine sipushV Xl.here hexec rfl 255 (hb hbytes d17) (by decide) ?_
        refine XS.icmpYes Xl.here hexec rfl (pc0 := 20) rfl (hb hbytes d20) rfl (ii_le_t (hp i (by omega))) (by decide) rfl ?_
        refine XS.aloadN Xl.here hexec rfl (hb hbytes d26) rfl rfl ?_
        refine XS.iloadN Xl.here hexec rfl (hb hbytes d27) rfl ?_
        refine XS.iload Xl.here hexec rfl (hb hbytes d28) rfl ?_
        refine i2b Xl.here hexec rfl (hb hbytes d30) rfl ?_
        exact Steps.refl _)
      obtain ⟨T7, X7, p7, st7⟩ := Xl.aput hexec hBk rfl hlt rfl (fits_lo8 (cv A (o + i))) (g := (mkF m 31 #[.val (.ref b), .val (.int (Int32.ofNat (o + i))), .val (.ref d), .val (.int (Int32.ofNat (q + i))), .val (.int (Int32.ofNat len)), .val (.int (Int32.ofNat i)), .val (.int (cv A (o + i)))] [.int (lo8 (cv A (o + i))), .int (Int32.ofNat (q + i)), .ref d])) rfl (rest := []) rfl (hb hbytes d31)
      have c8 : Steps p.tables e below (s₁.setTop (entryFrame m #[.ref b, .int (Int32.ofNat o), .ref d, .int (Int32.ofNat q), .int (Int32.ofNat len)] 7)) (T7.setTop (mkF m 32 #[.val (.ref b), .val (.int (Int32.ofNat (o + i))), .val (.ref d), .val (.int (Int32.ofNat (q + i))), .val (.int (Int32.ofNat len)), .val (.int (Int32.ofNat i)), .val (.int (cv A (o + i)))] [])) := c6.trans (st7 _ (Steps.refl _))
      have c9 : Steps p.tables e below (s₁.setTop (entryFrame m #[.ref b, .int (Int32.ofNat o), .ref d, .int (Int32.ofNat q), .int (Int32.ofNat len)] 7)) (T7.setTop (mkF m 3 #[.val (.ref b), .val (.int (Int32.ofNat (o + i) + 1)), .val (.ref d), .val (.int (Int32.ofNat (q + i) + 1)), .val (.int (Int32.ofNat len)), .val (.int (Int32.ofNat i + 1)), .val (.int (cv A (o + i)))] [])) := c8.trans (by
        refine iincV X7.here hexec rfl 1 (hb hbytes d32) (by decide) rfl rfl ?_
        refine iincV X7.here hexec rfl 1 (hb hbytes d35) (by decide) rfl rfl ?_
        refine iincV X7.here hexec rfl 1 (hb hbytes d38) (by decide) rfl rfl ?_
        refine XS.goto X7.here hexec rfl (pc0 := 41) rfl (hb hbytes d41) (by decide) rfl ?_
        exact Steps.refl _)
      have c10 : Steps p.tables e below (s₁.setTop (entryFrame m #[.ref b, .int (Int32.ofNat o), .ref d, .int (Int32.ofNat q), .int (Int32.ofNat len)] 7)) (T7.setTop (mkF m 3 #[.val (.ref b), .val (.int (Int32.ofNat (o + (i + 1)))), .val (.ref d), .val (.int (Int32.ofNat (q + (i + 1)))), .val (.int (Int32.ofNat len)), .val (.int (Int32.ofNat (i + 1))), .val (.int (cv A (o + i)))] [])) := by
        have := c9
        rw [succ32, succ32, succ32] at this
        exact this
      exact ih (i + 1) (by omega) _ (Or.inr ⟨_, rfl, rfl⟩) T7 _ (by rw [copyLocs_step, ← List.append_assoc]; exact X7) (pl.trans p7) (fl.step (by omega) hlt (by simp)) c10
  obtain ⟨T9, B9, z9, X9, p9, f9, g9⟩ := loop len 0 (by omega) .unset (Or.inl rfl) s₁ B (by simpa [copyLocs] using X0) ⟨hB0.1, fun _ _ => rfl, rfl⟩ (Laid.zero _ _ _) c2
  have c11 : Steps p.tables e below (s₁.setTop (entryFrame m #[.ref b, .int (Int32.ofNat o), .ref d, .int (Int32.ofNat q), .int (Int32.ofNat len)] 7)) (T9.setTop (mkF m 46 #[.val (.ref b), .val (.int (Int32.ofNat (o + len))), .val (.ref d), .val (.int (Int32.ofNat (q + len))), .val (.int (Int32.ofNat len)), .val (.int (Int32.ofNat len)), z9] [.int (Int32.ofNat len)])) := g9.trans (by
    refine XS.iload X9.here hexec rfl (hb hbytes d3) rfl ?_
    refine XS.iload X9.here hexec rfl (hb hbytes d5) rfl ?_
    refine XS.icmpYes X9.here hexec rfl (pc0 := 7) rfl (hb hbytes d7) rfl (ii_ge_t (nlt32 (by omega) (Nat.le_refl _))) (by decide) rfl ?_
    refine XS.iload X9.here hexec rfl (hb hbytes d44) rfl ?_
    exact Steps.refl _)
  exact ⟨T9, some (.int (Int32.ofNat len)), _, _, _, X9, by simp, rfl, rfl, (fun h => by cases h), ⟨rfl, B9, p9.from hh0, f9⟩, fun fs hl => c11.trans (X9.ireturnOut hexec hret rfl (Or.inl rfl) (hb hbytes d46) hl)⟩
end Cmp5
namespace Cmp3
def yN : MethodName := ⟨"java/lang/StringUTF16", "compress", "([CII)[B"⟩
abbrev yB : ByteArray := jdk_52_method_16_code
theorem d0 : decode yB 0 = .ok (.iload_n 2, 1) := by decide +kernel
theorem d1 : decode yB 1 = .ok (.newarray .byte, 2) := by decide +kernel
theorem d3 : decode yB 3 = .ok (.astore_n 3, 1) := by decide +kernel
theorem d4 : decode yB 4 = .ok (.aload_n 0, 1) := by decide +kernel
theorem d5 : decode yB 5 = .ok (.iload_n 1, 1) := by decide +kernel
theorem d6 : decode yB 6 = .ok (.aload_n 3, 1) := by decide +kernel
theorem d7 : decode yB 7 = .ok (.iconst 0, 1) := by decide +kernel
theorem d8 : decode yB 8 = .ok (.iload_n 2, 1) := by decide +kernel
theorem d9 : decode yB 9 = .ok (.invokestatic 115, 3) := by decide +kernel
theorem d12 : decode yB 12 = .ok (.istore 4, 2) := by decide +kernel
theorem d14 : decode yB 14 = .ok (.iload 4, 2) := by decide +kernel
theorem d16 : decode yB 16 = .ok (.iload_n 2, 1) := by decide +kernel
theorem d17 : decode yB 17 = .ok (.if_icmp (.eq) 40, 3) := by decide +kernel
theorem d57 : decode yB 57 = .ok (.aload_n 3, 1) := by decide +kernel
theorem d58 : decode yB 58 = .ok (.areturn, 1) := by decide +kernel
def site : List Cond := [.arrayClass .byte, Cmp5.tab] ++ staticW U16 115 Cmp5.yN
def tab : Cond := tabOf yN yB 6 (some (.array .byte)) site
def P (b : Addr) (A : Cell) (o len : Nat) (args : Array Value) (s : State) : Prop := args = #[.ref b, .int (Int32.ofNat o), .int (Int32.ofNat len)] ∧ Ch b A s ∧ o + len ≤ A.slots.size ∧ len ≤ 536870912 ∧ ∀ i, i < len → ¬ 255 < cv A (o + i)
def E (b : Addr) (A : Cell) (o len : Nat) (r : Option Value) (s u : State) : Prop := NewArr .byte "[B" len (fun j => .int (lo8 (cv A (o + j)))) r s u ∧ u.heap.size = s.heap.size + 1
/-- no char of the range above 255: a new byte[] of their low bytes -/
theorem law (l : Launch) (b : Addr) (A : Cell) (o len : Nat) : Law l yN 3 3 1 18 yB 6 (some (.array .byte)) site (P b A o len) (E b A o len) [] 1 len := by
  refine Law.of_walk (plainFor_of_name (by decide +kernel)) (by decide +kernel) (by decide +kernel) (by decide) (fun _ _ h => by rw [h.1]; rfl) (fun _ U U' hal hh h => ⟨h.1, h.2.1.mv hal hh, h.2.2⟩) (fun r U U' V V' h1 hal h2 h => ⟨NewArr.mv r U U' V V' h1 hal h2 h.1, by rw [h1, h2]; exact h.2⟩) ?_
  intro p e s m args below meth c s₁ X0 hexec hbytes hml hret hlk hnm hown hh0 W hP
  obtain ⟨rfl, hA, l1, l2, hp⟩ := hP
  have a31 := hA.1.2.2.2
  have c1 : Steps p.tables e below (s₁.setTop (entryFrame m #[.ref b, .int (Int32.ofNat o), .int (Int32.ofNat len)] 6)) (s₁.setTop (mkF m 0 #[.val (.ref b), .val (.int (Int32.ofNat o)), .val (.int (Int32.ofNat len)), .unset, .unset, .unset] [])) := entry rfl
  have c2 : Steps p.tables e below (s₁.setTop (entryFrame m #[.ref b, .int (Int32.ofNat o), .int (Int32.ofNat len)] 6)) (s₁.setTop (mkF m 1 #[.val (.ref b), .val (.int (Int32.ofNat o)), .val (.int (Int32.ofNat len)), .unset, .unset, .unset] [.int (Int32.ofNat len)])) := c1.trans (by
    refine XS.iloadN X0.here hexec rfl (hb hbytes d0) rfl ?_
    exact Steps.refl _)
  obtain ⟨T3, B3, X3, ba3, bs3, bv3, bh3, bf3, st3⟩ := X0.anew hexec (atype := .byte) (wk W (.arrayClass .byte)) rfl (by show len * 1 ≤ _; omega) (by omega) (g := (mkF m 1 #[.val (.ref b), .val (.int (Int32.ofNat o)), .val (.int (Int32.ofNat len)), .unset, .unset, .unset] [.int (Int32.ofNat len)])) rfl (hb hbytes d1) (rest := []) rfl (Nat.le_refl _) (by show 0 + len ≤ len; omega)
  rw [hh0] at ba3 st3
  have kp3 : XT.Kept s T3 := (XT.Kept.of_eq hh0).push bh3
  have hA3 := hA.keep X3.warmed.alike (kp3 _ _ hA.1.1)
  have hne : b ≠ s.heap.size := hA.1.ne
  have c4 : Steps p.tables e below (s₁.setTop (entryFrame m #[.ref b, .int (Int32.ofNat o), .int (Int32.ofNat len)] 6)) (T3.setTop (mkF m 3 #[.val (.ref b), .val (.int (Int32.ofNat o)), .val (.int (Int32.ofNat len)), .unset, .unset, .unset] [.ref s.heap.size])) := c2.trans (st3 _ (Steps.refl _))
  have c5 : Steps p.tables e below (s₁.setTop (entryFrame m #[.ref b, .int (Int32.ofNat o), .int (Int32.ofNat len)] 6)) (T3.setTop (mkF m 9 #[.val (.ref b), .val (.int (Int32.ofNat o)), .val (.int (Int32.ofNat len)), .val (.ref s.heap.size), .unset, .unset] [.int (Int32.ofNat len), .int 0, .ref s.heap.size, .int (Int32.ofNat o), .ref b])) := c4.trans (by
    refine XS.astoreN X3.here hexec rfl (hb hbytes d3) rfl rfl rfl ?_
    refine XS.aloadN X3.here hexec rfl (hb hbytes d4) rfl rfl ?_
    refine XS.iloadN X3.here hexec rfl (hb hbytes d5) rfl ?_
    refine XS.aloadN X3.here hexec rfl (hb hbytes d6) rfl rfl ?_
    refine iconstV X3.here hexec rfl 0 (hb hbytes d7) (by decide) ?_
    refine XS.iloadN X3.here hexec rfl (hb hbytes d8) rfl ?_
    exact Steps.refl _)
  obtain ⟨v6, T6, X6, E6, g6⟩ := X3.callS hexec (Cmp5.law l b A s.heap.size B3 o 0 len) hown (wks W (staticW U16 115 Cmp5.yN)) (wk W Cmp5.tab) (W := 0) (Nat.le_of_ble_eq_true rfl) (Nat.le_of_ble_eq_true rfl) (Nat.le_refl _) (by show 0 + len + 0 ≤ len; omega) (g := (mkF m 9 #[.val (.ref b), .val (.int (Int32.ofNat o)), .val (.int (Int32.ofNat len)), .val (.ref s.heap.size), .unset, .unset] [.int (Int32.ofNat len), .int (Int32.ofNat 0), .ref s.heap.size, .int (Int32.ofNat o), .ref b])) rfl (by rw [hml]; rfl) c5 (argsL := [.ref b, .int (Int32.ofNat o), .ref s.heap.size, .int (Int32.ofNat 0), .int (Int32.ofNat len)]) (rest := []) rfl rfl (by show 2 * 0 + 0 ≤ _; decide) (hb hbytes d9) (⟨rfl, hA3, ba3, hne, l1, by rw [bs3]; simp, hp⟩)
  obtain ⟨rfl, B6, p6, f6⟩ := E6
  have c7 : Steps p.tables e below (s₁.setTop (entryFrame m #[.ref b, .int (Int32.ofNat o), .int (Int32.ofNat len)] 6)) (T6.setTop (mkF m 12 #[.val (.ref b), .val (.int (Int32.ofNat o)), .val (.int (Int32.ofNat len)), .val (.ref s.heap.size), .unset, .unset] [.int (Int32.ofNat len)])) := g6
  have c8 : Steps p.tables e below (s₁.setTop (entryFrame m #[.ref b, .int (Int32.ofNat o), .int (Int32.ofNat len)] 6)) (T6.setTop (mkF m 58 #[.val (.ref b), .val (.int (Int32.ofNat o)), .val (.int (Int32.ofNat len)), .val (.ref s.heap.size), .val (.int (Int32.ofNat len)), .unset] [.ref s.heap.size])) := c7.trans (by
    refine XS.istore X6.here hexec rfl (hb hbytes d12) rfl rfl ?_
    refine XS.iload X6.here hexec rfl (hb hbytes d14) rfl ?_
    refine XS.iloadN X6.here hexec rfl (hb hbytes d16) rfl ?_
    refine XS.icmpYes X6.here hexec rfl (pc0 := 17) rfl (hb hbytes d17) rfl (ii_eq_t rfl) (by decide) rfl ?_
    refine XS.aloadN X6.here hexec rfl (hb hbytes d57) rfl rfl ?_
    exact Steps.refl _)
  have X8 := X6.wide (L' := []) (cells' := 1) (slots' := len) (fun x hx hlt => by
    simp only [List.nil_append, copyLocs, List.mem_map, List.mem_range] at hx
    obtain ⟨i, -, rfl⟩ := hx
    exact absurd hlt (Nat.lt_irrefl _)) (Nat.le_refl _) (by omega)
  exact ⟨T6, some (.ref s.heap.size), _, _, _, X8, rfl, rfl, rfl, (fun h => by cases h), ⟨⟨rfl, B6, ba3.like (X3.warmed.alike.symm.trans X6.warmed.alike) p6.1 f6.1 f6.2.1 f6.2.2.1, f6.2.1.trans bv3, by rw [X6.warmed.alike.findClass, f6.1]; exact bf3, by rw [f6.2.2.1, bs3]; simp, fun j hj => by rw [f6.2.2.2 j, if_pos (by omega)]; rfl, kp3.put p6 (Nat.le_refl _)⟩, by rw [p6.2.2, bh3, hh0]; simp⟩, fun fs hl => c8.trans (X8.areturnOut hexec rfl hret rfl (hb hbytes d58) hl)⟩
end Cmp3
namespace CodL
def yN : MethodName := ⟨"java/lang/StringUTF16", "coderFromArrayLen", "([BI)B"⟩
abbrev yB : ByteArray := jdk_52_method_15_code
theorem d0 : decode yB 0 = .ok (.iload_n 1, 1) := by decide +kernel
theorem d1 : decode yB 1 = .ok (.aload_n 0, 1) := by decide +kernel
theorem d2 : decode yB 2 = .ok (.arraylength, 1) := by decide +kernel
theorem d3 : decode yB 3 = .ok (.isub, 1) := by decide +kernel
theorem d4 : decode yB 4 = .ok (.bipush 31, 2) := by decide +kernel
theorem d6 : decode yB 6 = .ok (.iushr, 1) := by decide +kernel
theorem d7 : decode yB 7 = .ok (.i2b, 1) := by decide +kernel
theorem d8 : decode yB 8 = .ok (.ireturn, 1) := by decide +kernel
def site : List Cond := []
def tab : Cond := tabOf yN yB 2 (some .byte) site
def P (d : Addr) (B : Cell) (args : Array Value) (s : State) : Prop := args = #[.ref d, .int (Int32.ofNat B.slots.size)] ∧ Arr .byte d B s
def E (r : Option Value) (s u : State) : Prop := XT.PureE (some (.int 0)) r s u
/-- an array as long as the number of chars: LATIN1 -/
theorem law (l : Launch) (d : Addr) (B : Cell) : Law l yN 2 2 0 0 yB 2 (some .byte) site (P d B) E [] 0 0 := by
  refine Law.of_walk (plainFor_of_name (by decide +kernel)) (by decide +kernel) (by decide +kernel) (by decide) (fun _ _ h => by rw [h.1]; rfl) (fun _ U U' hal hh h => ⟨h.1, h.2.mv hal hh⟩) (fun r U U' V V' h1 hal h2 h => XT.PureE.mv r U U' V V' h1 hal h2 h) ?_
  intro p e s m args below meth c s₁ X0 hexec hbytes hml hret hlk hnm hown hh0 W hP
  obtain ⟨rfl, hB⟩ := hP
  have hB0 := hB.mv X0.warmed.alike hh0
  have c1 : Steps p.tables e below (s₁.setTop (entryFrame m #[.ref d, .int (Int32.ofNat B.slots.size)] 2)) (s₁.setTop (mkF m 0 #[.val (.ref d), .val (.int (Int32.ofNat B.slots.size))] [])) := entry rfl
  have c2 : Steps p.tables e below (s₁.setTop (entryFrame m #[.ref d, .int (Int32.ofNat B.slots.size)] 2)) (s₁.setTop (mkF m 2 #[.val (.ref d), .val (.int (Int32.ofNat B.slots.size))] [.ref d, .int (Int32.ofNat B.slots.size)])) := c1.trans (by
    refine XS.iloadN X0.here hexec rfl (hb hbytes d0) rfl ?_
    refine XS.aloadN X0.here hexec rfl (hb hbytes d1) rfl rfl ?_
    exact Steps.refl _)
  have c3 : Steps p.tables e below (s₁.setTop (entryFrame m #[.ref d, .int (Int32.ofNat B.slots.size)] 2)) (s₁.setTop (mkF m 8 #[.val (.ref d), .val (.int (Int32.ofNat B.slots.size))] [.int (lo8 (ushr (Int32.ofNat B.slots.size - Int32.ofNat B.slots.size) 31))])) := c2.trans (by
    refine X0.alen hexec hB0 rfl rfl (hb hbytes d2) ?_
    refine XS.isub X0.here hexec rfl (hb hbytes d3) rfl ?_
    refine bipushV X0.here hexec rfl 31 (hb hbytes d4) (by decide) ?_
    refine iushr X0.here hexec rfl (hb hbytes d6) rfl ?_
    refine i2b X0.here hexec rfl (hb hbytes d7) rfl ?_
    exact Steps.refl _)
  have e0 : lo8 (ushr (Int32.ofNat B.slots.size - Int32.ofNat B.slots.size) 31) = 0 := by rw [Int32.sub_self]; decide
  rw [e0] at c3
  exact ⟨s₁, some (.int 0), _, _, _, X0, rfl, rfl, rfl, (fun h => by cases h), ⟨rfl, hh0⟩, fun fs hl => c3.trans (X0.ireturnOut hexec hret rfl (Or.inr (Or.inr (Or.inl rfl))) (hb hbytes d8) hl)⟩
end CodL
/-- the String at a is Latin-1 over a new byte[] (the heap's one new cell): the low bytes of the len chars of A from o on; every cell but a is kept -/
def Got (a : Addr) (D : Cell) (fV fC : Field) (A : Cell) (o len : Nat) (r : Option Value) (s u : State) : Prop := r = none ∧ ∃ D' V : Cell, Blank "java/lang/String" a D' u ∧ Same D D' [fV.slot, fC.slot] ∧ D'.slots[fV.slot]? = some (.ref s.heap.size) ∧ D'.slots[fC.slot]? = some (.int 0) ∧ Arr .byte s.heap.size V u ∧ V.vm = .none ∧ u.vm.findClass "[B" = some V.cls ∧ V.slots.size = len ∧ (∀ j, j < len → V.slots[j]? = some (.int (lo8 (cv A (o + j))))) ∧ (∀ (y : Addr) (c : Cell), y ≠ a → s.heap[y]? = some c → u.heap[y]? = some c) ∧ u.heap.size = s.heap.size + 1
theorem Got.mv {a : Addr} {D A : Cell} {fV fC : Field} {o len : Nat} : ∀ r (U U' V V' : State), U'.heap = U.heap → V.vm.Alike V'.vm → V'.heap = V.heap → Got a D fV fC A o len r U V → Got a D fV fC A o len r U' V' :=
  fun r U U' V V' h1 hal h2 ⟨e0, D', X, a1, a2, a3, a4, a5, a6, a7, a8, a9, a10, a11⟩ => ⟨e0, D', X, a1.mv hal h2, a2, by rw [h1]; exact a3, a4, by rw [h1]; exact a5.mv hal h2, a6, by rw [hal.findClass]; exact a7, a8, a9, by rw [h1, h2]; exact a10, by rw [h1, h2]; exact a11⟩
namespace New4
def yN : MethodName := ⟨"java/lang/String", "<init>", "([CIILjava/lang/Void;)V"⟩
abbrev yB : ByteArray := jdk_42_method_149_code
theorem d0 : decode yB 0 = .ok (.aload_n 0, 1) := by decide +kernel
theorem d1 : decode yB 1 = .ok (.invokespecial 1, 3) := by decide +kernel
theorem d4 : decode yB 4 = .ok (.iload_n 3, 1) := by decide +kernel
theorem d5 : decode yB 5 = .ok (.ifCond (.ne) 22, 3) := by decide +kernel
theorem d27 : decode yB 27 = .ok (.getstatic 38, 3) := by decide +kernel
theorem d30 : decode yB 30 = .ok (.ifCond (.eq) 28, 3) := by decide +kernel
theorem d33 : decode yB 33 = .ok (.aload_n 1, 1) := by decide +kernel
theorem d34 : decode yB 34 = .ok (.iload_n 2, 1) := by decide +kernel
theorem d35 : decode yB 35 = .ok (.iload_n 3, 1) := by decide +kernel
theorem d36 : decode yB 36 = .ok (.invokestatic 177, 3) := by decide +kernel
theorem d39 : decode yB 39 = .ok (.astore 5, 2) := by decide +kernel
theorem d41 : decode yB 41 = .ok (.aload_n 0, 1) := by decide +kernel
theorem d42 : decode yB 42 = .ok (.aload 5, 2) := by decide +kernel
theorem d44 : decode yB 44 = .ok (.iload_n 3, 1) := by decide +kernel
theorem d45 : decode yB 45 = .ok (.invokestatic 47, 3) := by decide +kernel
theorem d48 : decode yB 48 = .ok (.putfield 15, 3) := by decide +kernel
theorem d51 : decode yB 51 = .ok (.aload_n 0, 1) := by decide +kernel
theorem d52 : decode yB 52 = .ok (.aload 5, 2) := by decide +kernel
theorem d54 : decode yB 54 = .ok (.putfield 9, 3) := by decide +kernel
theorem d57 : decode yB 57 = .ok (.return_, 1) := by decide +kernel
def site : List Cond := [.fieldLink "java/lang/String" 38 "java/lang/String" "COMPACT_STRINGS" "Z", Cmp3.tab, CodL.tab, .laysFinal "java/lang/String" "java/lang/String" "value" "[B", .fieldLink "java/lang/String" 9 "java/lang/String" "value" "[B", .laysFinal "java/lang/String" "java/lang/String" "coder" "B", .fieldLink "java/lang/String" 15 "java/lang/String" "coder" "B"] ++ objW "java/lang/String" 1 ++ staticW "java/lang/String" 177 Cmp3.yN ++ staticW "java/lang/String" 47 CodL.yN
def tab : Cond := tabOf yN yB 6 none site
def P (a : Addr) (D : Cell) (fV fC : Field) (b : Addr) (A : Cell) (z : Int32) (o len : Nat) (args : Array Value) (s : State) : Prop := args = #[.ref a, .ref b, .int (Int32.ofNat o), .int (Int32.ofNat len), .null] ∧ Blank "java/lang/String" a D s ∧ Found "java/lang/String" "value" "[B" fV s ∧ Found "java/lang/String" "coder" "B" fC s ∧ Ch b A s ∧ StaticIs s "java/lang/String" "COMPACT_STRINGS" "Z" (.int z) ∧ ¬ z = 0 ∧ 0 < len ∧ o + len ≤ A.slots.size ∧ len ≤ 536870912 ∧ ∀ i, i < len → ¬ 255 < cv A (o + i)
def E (a : Addr) (D : Cell) (fV fC : Field) (A : Cell) (o len : Nat) (r : Option Value) (s u : State) : Prop := Got a D fV fC A o len r s u
/-- len > 0, no char of the range above 255: a Latin-1 String of their low bytes -/
theorem law (l : Launch) (a : Addr) (D : Cell) (fV fC : Field) (b : Addr) (A : Cell) (z : Int32) (o len : Nat) : Law l yN 5 4 2 35 yB 6 none site (P a D fV fC b A z o len) (E a D fV fC A o len) [⟨a, fC.slot⟩, ⟨a, fV.slot⟩] 1 len := by
  refine Law.of_walk (plainFor_of_name (by decide +kernel)) (by decide +kernel) (by decide +kernel) (by decide) (fun _ _ h => by rw [h.1]; rfl) (fun _ U U' hal hh h => ⟨h.1, h.2.1.mv hal hh, h.2.2.1.al hal, h.2.2.2.1.al hal, h.2.2.2.2.1.mv hal hh, h.2.2.2.2.2.1.there hal hh, h.2.2.2.2.2.2⟩) (fun r U U' V V' h1 hal h2 h => Got.mv r U U' V V' h1 hal h2 h) ?_
  intro p e s m args below meth c s₁ X0 hexec hbytes hml hret hlk hnm hown hh0 W hP
  obtain ⟨rfl, hB, f1, f2, hA, s1, hz, l0, l1, l2, hp⟩ := hP
  have a31 := hA.1.2.2.2
  have c1 : Steps p.tables e below (s₁.setTop (entryFrame m #[.ref a, .ref b, .int (Int32.ofNat o), .int (Int32.ofNat len), .null] 6)) (s₁.setTop (mkF m 0 #[.val (.ref a), .val (.ref b), .val (.int (Int32.ofNat o)), .val (.int (Int32.ofNat len)), .val .null, .unset] [])) := entry rfl
  have c2 : Steps p.tables e below (s₁.setTop (entryFrame m #[.ref a, .ref b, .int (Int32.ofNat o), .int (Int32.ofNat len), .null] 6)) (s₁.setTop (mkF m 1 #[.val (.ref a), .val (.ref b), .val (.int (Int32.ofNat o)), .val (.int (Int32.ofNat len)), .val .null, .unset] [.ref a])) := c1.trans (by
    refine XS.aloadN X0.here hexec rfl (hb hbytes d0) rfl rfl ?_
    exact Steps.refl _)
  obtain ⟨T3, X3, q3, st3⟩ := X0.oinit hexec hown (wks W (objW "java/lang/String" 1)) (g := (mkF m 1 #[.val (.ref a), .val (.ref b), .val (.int (Int32.ofNat o)), .val (.int (Int32.ofNat len)), .val .null, .unset] [.ref a])) rfl (by rw [hml]; rfl) (rest := []) rfl (hb hbytes d1) (W := 0) (by show 2 * 0 + 0 ≤ _; decide) (Nat.le_of_ble_eq_true rfl) (Nat.le_of_ble_eq_true rfl)
  have hh3 := q3.trans hh0
  have c4 : Steps p.tables e below (s₁.setTop (entryFrame m #[.ref a, .ref b, .int (Int32.ofNat o), .int (Int32.ofNat len), .null] 6)) (T3.setTop (mkF m 27 #[.val (.ref a), .val (.ref b), .val (.int (Int32.ofNat o)), .val (.int (Int32.ofNat len)), .val .null, .unset] [])) := (c2.trans (st3 _ (Steps.refl _))).trans (by
    refine XS.iloadN X3.here hexec rfl (hb hbytes d4) rfl ?_
    refine XS.ifYes X3.here hexec rfl (pc0 := 5) rfl (hb hbytes d5) rfl (i0_ne_t (nz32 (by omega) l0)) (by decide) rfl ?_
    exact Steps.refl _)
  obtain ⟨T5, X5, q5, st5⟩ := X3.sget hexec hown (wk W (.fieldLink "java/lang/String" 38 "java/lang/String" "COMPACT_STRINGS" "Z")) s1 (fun _ _ h => by rw [hh3]; exact h) (g := (mkF m 27 #[.val (.ref a), .val (.ref b), .val (.int (Int32.ofNat o)), .val (.int (Int32.ofNat len)), .val .null, .unset] [])) rfl (hb hbytes d27)
  have hh5 := q5.trans hh3
  have c6 : Steps p.tables e below (s₁.setTop (entryFrame m #[.ref a, .ref b, .int (Int32.ofNat o), .int (Int32.ofNat len), .null] 6)) (T5.setTop (mkF m 30 #[.val (.ref a), .val (.ref b), .val (.int (Int32.ofNat o)), .val (.int (Int32.ofNat len)), .val .null, .unset] [.int z])) := c4.trans (st5 _ (Steps.refl _))
  have c7 : Steps p.tables e below (s₁.setTop (entryFrame m #[.ref a, .ref b, .int (Int32.ofNat o), .int (Int32.ofNat len), .null] 6)) (T5.setTop (mkF m 36 #[.val (.ref a), .val (.ref b), .val (.int (Int32.ofNat o)), .val (.int (Int32.ofNat len)), .val .null, .unset] [.int (Int32.ofNat len), .int (Int32.ofNat o), .ref b])) := c6.trans (by
    refine XS.ifNo X5.here hexec rfl (hb hbytes d30) rfl (i0_eq_f hz) ?_
    refine XS.aloadN X5.here hexec rfl (hb hbytes d33) rfl rfl ?_
    refine XS.iloadN X5.here hexec rfl (hb hbytes d34) rfl ?_
    refine XS.iloadN X5.here hexec rfl (hb hbytes d35) rfl ?_
    exact Steps.refl _)
  obtain ⟨v8, T8, X8, E8, g8⟩ := X5.callS hexec (Cmp3.law l b A o len) hown (wks W (staticW "java/lang/String" 177 Cmp3.yN)) (wk W Cmp3.tab) (W := 0) (Nat.le_of_ble_eq_true rfl) (Nat.le_of_ble_eq_true rfl) (Nat.le_refl _) (by show 0 + len ≤ len; omega) (g := (mkF m 36 #[.val (.ref a), .val (.ref b), .val (.int (Int32.ofNat o)), .val (.int (Int32.ofNat len)), .val .null, .unset] [.int (Int32.ofNat len), .int (Int32.ofNat o), .ref b])) rfl (by rw [hml]; rfl) c7 (argsL := [.ref b, .int (Int32.ofNat o), .int (Int32.ofNat len)]) (rest := []) rfl rfl (by show 2 * 0 + 0 ≤ _; decide) (hb hbytes d36) (⟨rfl, hA.mv X5.warmed.alike hh5, l1, l2, hp⟩)
  obtain ⟨e8, z8⟩ := E8
  obtain ⟨rfl, N, n1, n2, n3, n4, n5, n6⟩ := NewArr.mv _ T5 s _ _ hh5.symm (Vm.Alike.refl _) rfl e8
  rw [hh5] at z8
  have hB1 := hB.keep X8.warmed.alike (n6 _ _ hB.1)
  have hne : s.heap.size ≠ a := (Nat.ne_of_lt (Array.getElem?_eq_some_iff.mp hB.1).1).symm
  have c9 : Steps p.tables e below (s₁.setTop (entryFrame m #[.ref a, .ref b, .int (Int32.ofNat o), .int (Int32.ofNat len), .null] 6)) (T8.setTop (mkF m 39 #[.val (.ref a), .val (.ref b), .val (.int (Int32.ofNat o)), .val (.int (Int32.ofNat len)), .val .null, .unset] [.ref s.heap.size])) := g8
  have c10 : Steps p.tables e below (s₁.setTop (entryFrame m #[.ref a, .ref b, .int (Int32.ofNat o), .int (Int32.ofNat len), .null] 6)) (T8.setTop (mkF m 45 #[.val (.ref a), .val (.ref b), .val (.int (Int32.ofNat o)), .val (.int (Int32.ofNat len)), .val .null, .val (.ref s.heap.size)] [.int (Int32.ofNat N.slots.size), .ref s.heap.size, .ref a])) := by
    have hc : Steps p.tables e below (s₁.setTop (entryFrame m #[.ref a, .ref b, .int (Int32.ofNat o), .int (Int32.ofNat len), .null] 6)) (T8.setTop (mkF m 45 #[.val (.ref a), .val (.ref b), .val (.int (Int32.ofNat o)), .val (.int (Int32.ofNat len)), .val .null, .val (.ref s.heap.size)] [.int (Int32.ofNat len), .ref s.heap.size, .ref a])) := c9.trans (by
      refine XS.astore X8.here hexec rfl (hb hbytes d39) rfl rfl rfl ?_
      refine XS.aloadN X8.here hexec rfl (hb hbytes d41) rfl rfl ?_
      refine XS.aload X8.here hexec rfl (hb hbytes d42) rfl rfl ?_
      refine XS.iloadN X8.here hexec rfl (hb hbytes d44) rfl ?_
      exact Steps.refl _)
    rw [n4]; exact hc
  obtain ⟨v11, T11, X11, E11, g11⟩ := X8.callS hexec (CodL.law l s.heap.size N) hown (wks W (staticW "java/lang/String" 47 CodL.yN)) (wk W CodL.tab) (W := 1) (Nat.le_of_ble_eq_true rfl) (Nat.le_of_ble_eq_true rfl) (Nat.le_refl _) (by show 0 + len + 0 ≤ len; omega) (g := (mkF m 45 #[.val (.ref a), .val (.ref b), .val (.int (Int32.ofNat o)), .val (.int (Int32.ofNat len)), .val .null, .val (.ref s.heap.size)] [.int (Int32.ofNat N.slots.size), .ref s.heap.size, .ref a])) rfl (by rw [hml]; rfl) c10 (argsL := [.ref s.heap.size, .int (Int32.ofNat N.slots.size)]) (rest := [.ref a]) rfl rfl (by show 2 * 0 + (1 + 0) ≤ _; decide) (hb hbytes d45) (⟨rfl, n1⟩)
  obtain ⟨rfl, q11⟩ := E11
  have hB11 := hB1.mv (X8.warmed.alike.symm.trans X11.warmed.alike) q11
  have c12 : Steps p.tables e below (s₁.setTop (entryFrame m #[.ref a, .ref b, .int (Int32.ofNat o), .int (Int32.ofNat len), .null] 6)) (T11.setTop (mkF m 48 #[.val (.ref a), .val (.ref b), .val (.int (Int32.ofNat o)), .val (.int (Int32.ofNat len)), .val .null, .val (.ref s.heap.size)] [.int 0, .ref a])) := g11
  obtain ⟨T13, X13, p13, bl13, sl13, st13⟩ := X11.finit hexec hown (wk W (.fieldLink "java/lang/String" 15 "java/lang/String" "coder" "B")) (Or.inr ⟨_, (wk W (.laysFinal "java/lang/String" "java/lang/String" "coder" "B"))⟩) (Or.inl ⟨rfl, hnm⟩) f2 (Or.inl rfl) hB11 (t := .byte) (by decide +kernel) rfl (g := (mkF m 48 #[.val (.ref a), .val (.ref b), .val (.int (Int32.ofNat o)), .val (.int (Int32.ofNat len)), .val .null, .val (.ref s.heap.size)] [.int 0, .ref a])) rfl (rest := []) rfl (hb hbytes d48)
  have c14 : Steps p.tables e below (s₁.setTop (entryFrame m #[.ref a, .ref b, .int (Int32.ofNat o), .int (Int32.ofNat len), .null] 6)) (T13.setTop (mkF m 54 #[.val (.ref a), .val (.ref b), .val (.int (Int32.ofNat o)), .val (.int (Int32.ofNat len)), .val .null, .val (.ref s.heap.size)] [.ref s.heap.size, .ref a])) := (c12.trans (st13 _ (Steps.refl _))).trans (by
    refine XS.aloadN X13.here hexec rfl (hb hbytes d51) rfl rfl ?_
    refine XS.aload X13.here hexec rfl (hb hbytes d52) rfl rfl ?_
    exact Steps.refl _)
  obtain ⟨T15, X15, p15, bl15, sl15, st15⟩ := X13.finit hexec hown (wk W (.fieldLink "java/lang/String" 9 "java/lang/String" "value" "[B")) (Or.inr ⟨_, (wk W (.laysFinal "java/lang/String" "java/lang/String" "value" "[B"))⟩) (Or.inl ⟨rfl, hnm⟩) f1 (Or.inl rfl) bl13 (t := (.array .byte)) (by decide +kernel) rfl (g := (mkF m 54 #[.val (.ref a), .val (.ref b), .val (.int (Int32.ofNat o)), .val (.int (Int32.ofNat len)), .val .null, .val (.ref s.heap.size)] [.ref s.heap.size, .ref a])) rfl (rest := []) rfl (hb hbytes d54)
  have c16 : Steps p.tables e below (s₁.setTop (entryFrame m #[.ref a, .ref b, .int (Int32.ofNat o), .int (Int32.ofNat len), .null] 6)) (T15.setTop (mkF m 57 #[.val (.ref a), .val (.ref b), .val (.int (Int32.ofNat o)), .val (.int (Int32.ofNat len)), .val .null, .val (.ref s.heap.size)] [])) := c14.trans (st15 _ (Steps.refl _))
  have ap := apart (Or.inr ⟨_, (wk W (.laysFinal "java/lang/String" "java/lang/String" "value" "[B"))⟩) (Or.inr ⟨_, (wk W (.laysFinal "java/lang/String" "java/lang/String" "coder" "B"))⟩) f1 f2 (t₁ := .array .byte) (t₂ := .byte) (by decide +kernel) (by decide +kernel) (by decide)
  have al := X8.warmed.alike.symm.trans X15.warmed.alike
  have n7 : T11.heap[s.heap.size]? = some N := by rw [q11]; exact n1.1
  exact ⟨T15, none, _, _, _, X15, by simp, rfl, by omega, (fun _ => rfl), ⟨rfl, _, N, bl15, ((Same.refl D _).set _ (by simp)).set _ (by simp), sl15, (Cell.slots_setSlot_ne _ ap).trans sl13, n1.keep al (p15.other hne (p13.other hne n7)), n2, by rw [al.findClass]; exact n3, n4, n5, fun y c h1 h2 => p15.other h1 (p13.other h1 (by rw [q11]; exact n6 y c h2)), by rw [p15.2.2, p13.2.2, q11]; exact z8⟩, fun fs hl => c16.trans (X15.returnOut hexec hret (hb hbytes d57) hl)⟩
end New4
namespace New1
def yN : MethodName := ⟨"java/lang/String", "<init>", "([C)V"⟩
abbrev yB : ByteArray := jdk_42_method_3_code
theorem d0 : decode yB 0 = .ok (.aload_n 0, 1) := by decide +kernel
theorem d1 : decode yB 1 = .ok (.aload_n 1, 1) := by decide +kernel
theorem d2 : decode yB 2 = .ok (.iconst 0, 1) := by decide +kernel
theorem d3 : decode yB 3 = .ok (.aload_n 1, 1) := by decide +kernel
theorem d4 : decode yB 4 = .ok (.arraylength, 1) := by decide +kernel
theorem d5 : decode yB 5 = .ok (.aconst_null, 1) := by decide +kernel
theorem d6 : decode yB 6 = .ok (.invokespecial 27, 3) := by decide +kernel
theorem d9 : decode yB 9 = .ok (.return_, 1) := by decide +kernel
def site : List Cond := [New4.tab] ++ initW "java/lang/String" 27 New4.yN
def tab : Cond := tabOf yN yB 2 none site
def P (a : Addr) (D : Cell) (fV fC : Field) (b : Addr) (A : Cell) (z : Int32) (args : Array Value) (s : State) : Prop := args = #[.ref a, .ref b] ∧ Blank "java/lang/String" a D s ∧ Found "java/lang/String" "value" "[B" fV s ∧ Found "java/lang/String" "coder" "B" fC s ∧ Ch b A s ∧ StaticIs s "java/lang/String" "COMPACT_STRINGS" "Z" (.int z) ∧ ¬ z = 0 ∧ 0 < A.slots.size ∧ A.slots.size ≤ 536870912 ∧ ∀ i, i < A.slots.size → ¬ 255 < cv A i
def E (a : Addr) (D : Cell) (fV fC : Field) (A : Cell) (r : Option Value) (s u : State) : Prop := Got a D fV fC A 0 A.slots.size r s u
/-- new String(chars), not empty, no char above 255: a Latin-1 String of their low bytes -/
theorem law (l : Launch) (a : Addr) (D : Cell) (fV fC : Field) (b : Addr) (A : Cell) (z : Int32) : Law l yN 2 1 3 52 yB 2 none site (P a D fV fC b A z) (E a D fV fC A) [⟨a, fC.slot⟩, ⟨a, fV.slot⟩] 1 A.slots.size := by
  refine Law.of_walk (plainFor_of_name (by decide +kernel)) (by decide +kernel) (by decide +kernel) (by decide) (fun _ _ h => by rw [h.1]; rfl) (fun _ U U' hal hh h => ⟨h.1, h.2.1.mv hal hh, h.2.2.1.al hal, h.2.2.2.1.al hal, h.2.2.2.2.1.mv hal hh, h.2.2.2.2.2.1.there hal hh, h.2.2.2.2.2.2⟩) (fun r U U' V V' h1 hal h2 h => Got.mv r U U' V V' h1 hal h2 h) ?_
  intro p e s m args below meth c s₁ X0 hexec hbytes hml hret hlk hnm hown hh0 W hP
  obtain ⟨rfl, hB, f1, f2, hA, s1, hz, l0, l2, hp⟩ := hP
  have c1 : Steps p.tables e below (s₁.setTop (entryFrame m #[.ref a, .ref b] 2)) (s₁.setTop (mkF m 0 #[.val (.ref a), .val (.ref b)] [])) := entry rfl
  have c2 : Steps p.tables e below (s₁.setTop (entryFrame m #[.ref a, .ref b] 2)) (s₁.setTop (mkF m 6 #[.val (.ref a), .val (.ref b)] [.null, .int (Int32.ofNat A.slots.size), .int 0, .ref b, .ref a])) := c1.trans (by
    refine XS.aloadN X0.here hexec rfl (hb hbytes d0) rfl rfl ?_
    refine XS.aloadN X0.here hexec rfl (hb hbytes d1) rfl rfl ?_
    refine iconstV X0.here hexec rfl 0 (hb hbytes d2) (by decide) ?_
    refine XS.aloadN X0.here hexec rfl (hb hbytes d3) rfl rfl ?_
    refine X0.alen hexec (hA.1.mv X0.warmed.alike hh0) rfl rfl (hb hbytes d4) ?_
    refine XS.aconstNull X0.here hexec rfl (hb hbytes d5) ?_
    exact Steps.refl _)
  obtain ⟨v3, T3, X3, E3, g3⟩ := X0.callN hexec (New4.law l a D fV fC b A z 0 A.slots.size) rfl hown (wks W (initW "java/lang/String" 27 New4.yN)) (W New4.tab (by simp only [site, List.mem_cons, List.mem_append, true_or, or_true])) (W := 0) (Nat.le_of_ble_eq_true rfl) (Nat.le_of_ble_eq_true rfl) (Nat.le_refl _) (by show 0 + A.slots.size ≤ A.slots.size; omega) (g := (mkF m 6 #[.val (.ref a), .val (.ref b)] [.null, .int (Int32.ofNat A.slots.size), .int (Int32.ofNat 0), .ref b, .ref a])) rfl (by rw [hml]; rfl) c2 (argsL := [.ref b, .int (Int32.ofNat 0), .int (Int32.ofNat A.slots.size), .null]) (rest := []) rfl rfl (by show 2 * 0 + 0 ≤ _; decide) (hb hbytes d6) (⟨rfl, hB.mv X0.warmed.alike hh0, f1.al X0.warmed.alike, f2.al X0.warmed.alike, hA.mv X0.warmed.alike hh0, s1.there X0.warmed.alike hh0, hz, l0, by omega, l2, fun i hi => by rw [Nat.zero_add]; exact hp i hi⟩)
  have e0 := Got.mv _ s₁ s _ _ hh0.symm (Vm.Alike.refl _) rfl E3
  obtain rfl := e0.1
  have c4 : Steps p.tables e below (s₁.setTop (entryFrame m #[.ref a, .ref b] 2)) (T3.setTop (mkF m 9 #[.val (.ref a), .val (.ref b)] [])) := g3
  exact ⟨T3, none, _, _, _, X3, by simp, rfl, by omega, (fun _ => rfl), e0, fun fs hl => c4.trans (X3.returnOut hexec hret (hb hbytes d9) hl)⟩
theorem pays {l : Launch} {R : Room} {p : Program} {e : Env} {below : List Frame} {s : State} {sargs : Array Value} {len W : Nat} (a : Addr) (D : Cell) (fV fC : Field) (b : Addr) (A : Cell) (z : Int32) (htab : tab.before sargs s = true) (hfr : 4 ≤ R.frames) (hlo : W + 65 ≤ R.locals) :
    Back l R p e below s sargs yN len W (fun A₁ a₁ => A₁.cells + 1 ≤ R.cells ∧ A₁.slots + A.slots.size ≤ R.slots ∧ P a D fV fC b A z a₁ A₁.U) (fun A₁ _ v₁ B₁ => E a D fV fC A v₁ A₁.U B₁.U ∧ B₁.locs = A₁.locs ++ [⟨a, fC.slot⟩, ⟨a, fV.slot⟩] ∧ B₁.cells = A₁.cells + 1 ∧ B₁.slots = A₁.slots + A.slots.size) :=
  (law l a D fV fC b A z).pays htab hfr (by omega)
end New1
/-- the byte, read back as charAt reads it, is the char -/
theorem lo8_mask {x : Int32} (h0 : ¬ x < 0) (h1 : ¬ 255 < x) : lo8 x &&& 255 = x := by
  have t : ∀ k : Fin 256, lo8 (Int32.ofNat k.val) &&& 255 = Int32.ofNat k.val := by decide +kernel
  rw [Int32.lt_iff_toInt_lt] at h0 h1
  have e0 : (0 : Int32).toInt = 0 := rfl
  have e1 : (255 : Int32).toInt = 255 := rfl
  obtain ⟨k, hk⟩ : ∃ k : Nat, x.toInt = k := ⟨x.toInt.toNat, by omega⟩
  have hx : x = Int32.ofNat k := Int32.toInt_inj.mp (by rw [hk, Int32.toInt_ofNat_small (by omega)])
  rw [hx]
  exact t ⟨k, by omega⟩
end StrChars
namespace StrChars.Road
open Jvm Sem ClassFile Op Lib Jvm.Stand Jvm.Free Jvm.Free.XT
open Jvm.Lib.Cold (StaticIs)
abbrev ST : String := "java/lang/String"
/-- every table word that New1's law asks, flat -/
abbrev words : List Jvm.Cond := [.code New1.yN New1.yB 2 none, .initialized ST, .methodLink ST 27 New4.yN, .instanceMethod New4.yN,
  .code New4.yN New4.yB 6 none, .fieldLink ST 38 ST "COMPACT_STRINGS" "Z", .laysFinal ST ST "value" "[B", .fieldLink ST 9 ST "value" "[B", .laysFinal ST ST "coder" "B", .fieldLink ST 15 ST "coder" "B",
  .methodLink ST 1 Lib.objectInit, .instanceMethod Lib.objectInit, .code Lib.objectInit ⟨#[0xb1]⟩ 1 none, .methodLink ST 177 Cmp3.yN, .static Cmp3.yN, .methodLink ST 47 CodL.yN, .static CodL.yN,
  .code Cmp3.yN Cmp3.yB 6 (some (.array .byte)), .initialized U16, .arrayClass .byte, .methodLink U16 115 Cmp5.yN, .static Cmp5.yN, .code Cmp5.yN Cmp5.yB 7 (some .int), .code CodL.yN CodL.yB 2 (some .byte)]
theorem tab_of {a : Array Value} {s : State} (h : ∀ w ∈ words, w.before a s = true) : New1.tab.before a s = true := by
  have h5 : Cmp5.tab.before a s = true := unparts (wk h (.code Cmp5.yN Cmp5.yB 7 (some .int))) (wks h (.initialized Cmp5.yN.cls :: Cmp5.site))
  have hc : CodL.tab.before a s = true := unparts (wk h (.code CodL.yN CodL.yB 2 (some .byte))) (wks h (.initialized CodL.yN.cls :: CodL.site))
  have q5 : ∀ w ∈ Cmp5.tab :: words, w.before a s = true := fun w hw => (List.mem_cons.mp hw).elim (fun e => e ▸ h5) (h w)
  have h3 : Cmp3.tab.before a s = true := unparts (wk q5 (.code Cmp3.yN Cmp3.yB 6 (some (.array .byte)))) (wks q5 (.initialized Cmp3.yN.cls :: Cmp3.site))
  have q3 : ∀ w ∈ Cmp3.tab :: CodL.tab :: words, w.before a s = true := fun w hw => (List.mem_cons.mp hw).elim (fun e => e ▸ h3) fun hw => (List.mem_cons.mp hw).elim (fun e => e ▸ hc) (h w)
  have h4 : New4.tab.before a s = true := unparts (wk q3 (.code New4.yN New4.yB 6 none)) (wks q3 (.initialized New4.yN.cls :: New4.site))
  have q4 : ∀ w ∈ New4.tab :: words, w.before a s = true := fun w hw => (List.mem_cons.mp hw).elim (fun e => e ▸ h4) (h w)
  exact unparts (wk q4 (.code New1.yN New1.yB 2 none)) (wks q4 (.initialized New1.yN.cls :: New1.site))
/-- the words ride from the start Z to the walk's own state -/
theorem moved {Z s : State} {a0 args : Array Value} (hZ : Z.Warmed39 s.vm) (hw : ∀ d ∈ words, d.before a0 Z = true) : ∀ d ∈ words, d.before args s = true := fun d hd => by
  have q := hw d hd
  have t : ∀ d ∈ words, d = .arrayClass .byte ∨ (d.onTables && d.keepsFace) = true := by decide +kernel
  rcases t d hd with rfl | t
  · exact RoadKit.mvA hZ q
  · exact RoadKit.mv hZ q t
/-- WHAT COMES BACK, over the tables of the start Z: h the heap at the call, h' behind it -/
def Q (Z : State) (x : Addr) (A : Cell) (h : Heap) (v : Option Value) (h' : Heap) (L : List Loc) : Prop := v = none ∧ (∀ y ∈ L, y.base = x) ∧ RoadKit.Keep h h' [x] ∧ h'.size = h.size + 1 ∧ RoadKit.Exa Z h' x ST ∧ RoadKit.Fld Z h' x ST "value" "[B" (.ref h.size) ∧ RoadKit.Fld Z h' x ST "coder" "B" (.int 0) ∧
  (∃ V : Cell, RoadKit.Arr Z h' h.size V .byte ∧ V.vm = .none ∧ Z.vm.findClass "[B" = some V.cls ∧ V.slots.size = A.slots.size ∧ ∀ j, j < A.slots.size → V.slots[j]? = some (.int (lo8 (cv A j)))) ∧
  ∀ (O n d : String) (w : Value), RoadKit.Fld Z h x O n d w → RoadKit.slotOf Z O n d ≠ RoadKit.slotOf Z ST "value" "[B" → RoadKit.slotOf Z O n d ≠ RoadKit.slotOf Z ST "coder" "B" → RoadKit.Fld Z h' x O n d w
/-- **new String(chars) AT A CALL, IN THE ROAD'S FORM**: for specialBack behind newO: x the fresh String, b the char[] with the cell A -/
theorem back {p : Program} {l : Launch} {e : Env} {R : Room} {s : State} {args : Array Value} {below : List Frame} {len W : Nat} {Z : State} {a0 : Array Value} {h : Heap} (hZ : Z.Warmed39 s.vm) (hw : ∀ d ∈ words, d.before a0 Z = true) {kI : Nat} (wi : (Jvm.Cond.instantiable ST kI).before a0 Z = true)
    {x b : Addr} {A : Cell} {z : Int32} {v0 c0 : Value} (E : RoadKit.Exa Z h x ST) (V : RoadKit.Fld Z h x ST "value" "[B" v0) (C : RoadKit.Fld Z h x ST "coder" "B" c0) (K : RoadKit.Arr Z h b A .char) (hty : Typed .char A) (S : RoadKit.Sta Z h ST "COMPACT_STRINGS" "Z" (.int z)) (hz : ¬ z = 0)
    (l0 : 0 < A.slots.size) (l2 : A.slots.size ≤ 536870912) (hp : ∀ i, i < A.slots.size → ¬ 255 < cv A i) (hfr : 4 ≤ R.frames) (hlo : W + 65 ≤ R.locals) :
    Back l R p e below s args New1.yN len W (fun P a => a = #[.ref x, .ref b] ∧ P.U.heap = h ∧ P.cells + 1 ≤ R.cells ∧ P.slots + A.slots.size ≤ R.slots)
      (fun P _ v B => ∃ L, Q Z x A h v B.U.heap L ∧ B.locs = P.locs ++ L ∧ B.cells = P.cells + 1 ∧ B.slots = P.slots + A.slots.size) := by
  intro m meth c P g ig mk a X hg hsize hdg hW hn hp'
  obtain ⟨rfl, rfl, r1, r2⟩ := hp'
  have al : Z.vm.Alike P.U.vm := hZ.alike.trans X.warmed.alike
  obtain ⟨D, cfV, kV, iV, fV, hD, gV, stV, knV, obV, asV, slV⟩ := id V
  obtain ⟨D', cfC, kC, iC, fC, hD', gC, stC, -, -, asC, slC⟩ := id C
  cases hD.symm.trans hD'
  obtain ⟨D2, kD, e1, e2, e3, e4, e5⟩ := id E
  cases hD.symm.trans e1
  obtain ⟨c2, k2, i1, i2, i3, -⟩ := Cond.instantiable_spec wi
  cases e2.symm.trans i1
  cases e3.symm.trans i2
  obtain ⟨kU, u1, u2⟩ := al.2.2 _ _ e3
  have hB : Blank ST x D P.U := ⟨hD, ⟨knV, fun q hq => by rw [hq] at obV; cases obV⟩, by rw [al.findClass]; exact e2, kU, u1, by rw [u2]; exact i3, by rw [u2]; exact e5 i3⟩
  have F1 : Found ST "value" "[B" fV P.U := ⟨SBG.found_only al ⟨cfV, kV, iV, gV⟩, stV⟩
  have F2 : Found ST "coder" "B" fC P.U := ⟨SBG.found_only al ⟨cfC, kC, iC, gC⟩, stC⟩
  have hA : Ch b A P.U := ⟨⟨K.1, State.isArrayOf_alike al K.2.1, K.2.2, by omega⟩, hty⟩
  have hS : StaticIs P.U ST "COMPACT_STRINGS" "Z" (.int z) := by
    obtain ⟨cfS, iS, kS, fS, st, cS, t1, t2, t3, t4, t5, t6, t7⟩ := S
    exact StaticIs.there (s := { Z with heap := P.U.heap }) ⟨cfS, iS, kS, fS, st, cS, t1, t2, t3, t4, t5, (fun q => by rw [q] at t6; cases t6), t7⟩ al rfl
  obtain ⟨v, B, X', ⟨⟨hv, E', V', q1, q2, q3, q4, q5, q6, q7, q8, q9, q10, q11⟩, hl, hc, hs⟩, st⟩ := New1.pays x D fV fC b A z (tab_of (moved hZ hw)) hfr hlo m meth c P g ig mk _ X hg hsize hdg hW hn ⟨r1, r2, rfl, hB, F1, F2, hA, hS, hz, l0, l2, hp⟩
  have al' : Z.vm.Alike B.U.vm := hZ.alike.trans X'.warmed.alike
  have hsz : E'.slots.size = D.slots.size := by
    obtain ⟨-, -, -, kB, w1, w2, w3⟩ := q1
    obtain ⟨kB', y1, y2⟩ := al'.2.2 _ _ e3
    rw [q2.2.1] at w1
    cases w1.symm.trans y1
    rw [w3, e5 i3, y2]
  refine ⟨v, B, X', ⟨_, ⟨hv, ?_, ⟨by omega, fun y cy hy hn' => q10 y cy (by simpa using hn') hy, fun y cy hy => ?_⟩, q11, ⟨E', _, q1.1, by rw [q2.2.1]; exact e2, by rw [q2.2.1]; exact e3, by rw [q2.1]; exact obV, fun _ => by rw [hsz]; exact e5 i3⟩,
    ⟨E', cfV, kV, iV, fV, q1.1, gV, stV, by rw [q2.1]; exact knV, by rw [q2.1]; exact obV, by rw [q2.2.1]; exact asV, q3⟩, ⟨E', cfC, kC, iC, fC, q1.1, gC, stC, by rw [q2.1]; exact knV, by rw [q2.1]; exact obV, by rw [q2.2.1]; exact asC, q4⟩,
    ⟨V', ⟨q5.1, State.isArrayOf_alike al'.symm q5.2.1, q5.2.2.1⟩, q6, by rw [← al'.findClass]; exact q7, q8, fun j hj => by have := q9 j hj; rwa [Nat.zero_add] at this⟩, fun O n d w F n1 n2 => ?_⟩, hl, hc, hs⟩, st⟩
  · intro y hy
    simp only [List.mem_cons, List.not_mem_nil, or_false] at hy
    rcases hy with rfl | rfl <;> rfl
  · by_cases q : y = x
    · subst q
      cases hD.symm.trans hy
      exact ⟨E', q1.1, q2.2.1, q2.1, hsz⟩
    · exact ⟨cy, q10 y cy q hy, rfl, rfl, rfl⟩
  · obtain ⟨D3, cf, k, i, f, g1, g2, g3, g4, g5, g6, g7⟩ := F
    cases hD.symm.trans g1
    simp only [RoadKit.slotOf, g2, gV, gC, Option.map_some, Option.getD_some] at n1 n2
    exact ⟨E', cf, k, i, f, q1.1, g2, g3, by rw [q2.1]; exact g4, by rw [q2.1]; exact g5, by rw [q2.2.1]; exact g6, by rw [q2.2.2 f.slot (by simp [n1, n2])]; exact g7⟩
end StrChars.Road
namespace StrChars.Road
open Jvm Sem ClassFile Op Lib Jvm.Stand Jvm.Free Jvm.Free.XT
/-- WHAT COMES BACK, the byte[] as a list of values -/
def QA (Z : State) (x : Addr) (zn : Int32) (cs : List Int32) (h : Heap) (v : Option Value) (h' : Heap) (L : List Loc) : Prop := v = none ∧ (∀ y ∈ L, y.base = x) ∧ RoadKit.Keep h h' [x] ∧ h'.size = h.size + 1 ∧ RoadKit.Exa Z h' x ST ∧ RoadKit.Fld Z h' x ST "value" "[B" (.ref h.size) ∧ RoadKit.Fld Z h' x ST "coder" "B" (.int 0) ∧
  (∃ kb, Z.vm.findClass "[B" = some kb ∧ RoadKit.Arv Z h' h.size kb .byte zn (cs.map fun c => .int (lo8 c)) (.int 0)) ∧
  ∀ (O n d : String) (w : Value), RoadKit.Fld Z h x O n d w → RoadKit.slotOf Z O n d ≠ RoadKit.slotOf Z ST "value" "[B" → RoadKit.slotOf Z O n d ≠ RoadKit.slotOf Z ST "coder" "B" → RoadKit.Fld Z h' x O n d w
/-- **new String(chars) AT A CALL, THE ARRAYS AS LISTS**: the char[] at b holds cs, not empty, no char above 255 -/
theorem backArv {p : Program} {l : Launch} {e : Env} {R : Room} {s : State} {args : Array Value} {below : List Frame} {len W : Nat} {Z : State} {a0 : Array Value} {h : Heap} (hZ : Z.Warmed39 s.vm) (hw : ∀ d ∈ words, d.before a0 Z = true) {kI : Nat} (wi : (Jvm.Cond.instantiable ST kI).before a0 Z = true)
    {x b : Addr} {k : ClassId} {zn z : Int32} {cs : List Int32} {dv v0 c0 : Value} (E : RoadKit.Exa Z h x ST) (V : RoadKit.Fld Z h x ST "value" "[B" v0) (C : RoadKit.Fld Z h x ST "coder" "B" c0) (K : RoadKit.Arv Z h b k .char zn (cs.map Value.int) dv) (S : RoadKit.Sta Z h ST "COMPACT_STRINGS" "Z" (.int z)) (hz : ¬ z = 0)
    (hlen : zn.toNatClampNeg = cs.length) (h0 : 0 < cs.length) (hbig : cs.length ≤ 536870912) (hall : ∀ c ∈ cs, ¬ 255 < c) (hfr : 4 ≤ R.frames) (hlo : W + 65 ≤ R.locals) :
    Back l R p e below s args New1.yN len W (fun P a => a = #[.ref x, .ref b] ∧ P.U.heap = h ∧ P.cells + 1 ≤ R.cells ∧ P.slots + cs.length ≤ R.slots)
      (fun P _ v B => ∃ L, QA Z x zn cs h v B.U.heap L ∧ B.locs = P.locs ++ L ∧ B.cells = P.cells + 1 ∧ B.slots = P.slots + cs.length) := by
  obtain ⟨A, K1, K2, K3, K4, K5, K6⟩ := K
  have e : A.slots.size = cs.length := K3.trans hlen
  have hat : ∀ (i : Nat) (hi : i < cs.length), A.slots[i]? = some (.int cs[i]) := fun i hi => by rw [K5 i (by omega)]; simp [List.getD_eq_getElem?_getD, hi]
  have hcv : ∀ (i : Nat) (hi : i < cs.length), cv A i = cs[i] := fun i hi => by unfold cv; rw [hat i hi]
  have hty : Typed .char A := fun i v hv => by
    have hi : i < A.slots.size := (Array.getElem?_eq_some_iff.mp hv).1
    have q := K5 i hi
    rw [hv] at q
    rw [Option.some.inj q]
    exact K6 i hi
  refine Back.mono (back hZ hw wi E V C K1 hty S hz (by omega) (by omega) (fun i hi => by rw [hcv i (by omega)]; exact hall _ (List.getElem_mem _)) hfr hlo) (fun P a hp => ⟨hp.1, hp.2.1, hp.2.2.1, by rw [e]; exact hp.2.2.2⟩) (fun P a v B hp hq => ?_)
  obtain ⟨L, ⟨q1, q2, q3, q4, q5, q6, q7, ⟨V', v1, v2, v3, v4, v5⟩, q9⟩, hl, hc, hs⟩ := hq
  refine ⟨L, ⟨q1, q2, q3, q4, q5, q6, q7, ⟨V'.cls, v3, V', v1, rfl, by rw [v4, e, hlen], K4, fun i hi => ?_, fun i hi => ?_⟩, q9⟩, hl, hc, by rw [hs, e]⟩
  · have hi' : i < cs.length := by omega
    rw [v5 i (by omega), hcv i hi']; simp [List.getD_eq_getElem?_getD, hi']
  · have hi' : i < cs.length := by omega
    simp only [List.getD_eq_getElem?_getD, List.getElem?_map, List.getElem?_eq_getElem hi', Option.map_some, Option.getD_some]
    exact fits_lo8 _
end StrChars.Road
namespace StrChars.Road
open Jvm Sem ClassFile Op Lib Jvm.Stand Jvm.Free Jvm.Free.XT
/-- WHAT COMES BACK, in the writer's own shape -/
def QV (Z : State) (x : Addr) (N : Int32) (bs : List Int32) (h : Heap) (n0 : Nat) (v : Option Value) (h' : Heap) (L : List Loc) : Prop := v = none ∧ RoadKit.Fr n0 L ∧ RoadKit.Keep h h' [x] ∧ RoadKit.Exa Z h' x ST ∧ RoadKit.Fld Z h' x ST "coder" "B" (.int 0) ∧
  ∃ (t : Addr) (kb : ClassId), n0 ≤ t ∧ h.size ≤ t ∧ ¬ t = x ∧ RoadKit.Fld Z h' x ST "value" "[B" (.ref t) ∧ RoadKit.Arv Z h' t kb .byte N (bs.map Value.int) (.int 0)
/-- **new String(chars) AT A CALL, FOR THE WRITER**: a char[] of n known ints, each 0 to 255 -/
theorem backV {p : Program} {l : Launch} {e : Env} {R : Room} {s : State} {args : Array Value} {below : List Frame} {len W : Nat} {Z : State} {a0 : Array Value} {h : Heap} (hZ : Z.Warmed39 s.vm) (hw : ∀ d ∈ words, d.before a0 Z = true) {kI : Nat} (wi : (Jvm.Cond.instantiable ST kI).before a0 Z = true)
    {x b : Addr} {kC : ClassId} {cs bs : List Int32} {d v0 c0 : Value} {z N : Int32} {n n0 : Nat} (hx0 : n0 ≤ x) (hh0 : n0 ≤ h.size) (E : RoadKit.Exa Z h x ST) (V : RoadKit.Fld Z h x ST "value" "[B" v0) (C : RoadKit.Fld Z h x ST "coder" "B" c0) (K : RoadKit.Arv Z h b kC .char N (cs.map Value.int) d) (S : RoadKit.Sta Z h ST "COMPACT_STRINGS" "Z" (.int z)) (hz : ¬ z = 0)
    (hn : cs.length = n) (hN : N = Int32.ofNat n) (l0 : 0 < n) (l2 : n ≤ 4000) (hp : ∀ c ∈ cs, ¬ c < 0 ∧ ¬ (255 : Int32) < c) (hb : bs = cs.map (fun c => c.toInt8.toInt32)) (hfr : 4 ≤ R.frames) (hlo : W + 65 ≤ R.locals) :
    Back l R p e below s args (⟨"java/lang/String", "<init>", "([C)V"⟩ : MethodName) len W (fun P a => a = #[.ref x, .ref b] ∧ P.U.heap = h ∧ P.cells + 1 ≤ R.cells ∧ P.slots + n ≤ R.slots)
      (fun P _ v B => ∃ L, QV Z x N bs h n0 v B.U.heap L ∧ B.locs = P.locs ++ L ∧ B.cells = P.cells + 1 ∧ B.slots = P.slots + n) := by
  subst hn hN hb
  refine Back.mono (backArv hZ hw wi E V C K S hz (n32 (by omega)) l0 (by omega) (fun c hc => (hp c hc).2) hfr hlo) (fun P a hp => hp) (fun P a v B hp hq => ?_)
  obtain ⟨L, ⟨q1, q2, q3, q4, q5, q6, q7, ⟨kb, v1, v2⟩, q9⟩, hl, hc, hs⟩ := hq
  exact ⟨L, ⟨q1, fun y hy => by rw [q2 y hy]; exact hx0, q3, q5, q7, h.size, kb, hh0, Nat.le_refl _, Nat.ne_of_gt E.lt, q6, by rw [List.map_map]; exact v2⟩, hl, hc, hs⟩
end StrChars.Road
namespace StrChars
open Jvm Sem ClassFile Op Lib Jvm.Stand Jvm.Free.XT Jvm.Free.ALB Jvm.Free.JM Jvm.Free
open Jvm.Lib.Cold (StaticIs)
def hi8 (x : Int32) : Int32 := lo8 (x >>> ((8 : Int32) &&& 31))
/-- what StringUTF16.getChar makes of two bytes -/
def pairCh (u v : Int32) : Int32 := (((u &&& 255) <<< ((0 : Int32) &&& 31)) ||| ((v &&& 255) <<< ((8 : Int32) &&& 31))).toUInt32.toUInt16.toUInt32.toInt32
theorem lo8_and (x : Int32) : (lo8 x &&& 255).toBitVec.toNat = x.toBitVec.toNat % 256 := by
  have h : (lo8 x).toBitVec = (x.toBitVec.signExtend 8).signExtend 32 := by rw [lo8, Int8.toBitVec_toInt32, Int32.toBitVec_toInt8]
  rw [Int32.toBitVec_and, BitVec.toNat_and, h]
  have e : ((x.toBitVec.signExtend 8).signExtend 32).toNat % 256 = x.toBitVec.toNat % 256 := by
    rw [BitVec.toNat_signExtend]
    have hlt := x.toBitVec.isLt
    simp only [BitVec.toNat_setWidth, BitVec.toNat_signExtend]
    split <;> split <;> omega
  rw [← e]
  exact Nat.and_two_pow_sub_one_eq_mod _ 8
theorem pair_says {c : Int32} (h0 : ¬ c < 0) (h1 : ¬ 65535 < c) : pairCh (lo8 c) (hi8 c) = c := by
  rw [Int32.lt_iff_toInt_lt] at h0 h1
  have e0 : (0 : Int32).toInt = 0 := rfl
  have e1 : (65535 : Int32).toInt = 65535 := rfl
  have hc : c.toInt = c.toBitVec.toNat := by
    have := c.toBitVec.isLt
    have e : c.toInt = c.toBitVec.toInt := rfl
    rw [e] at h0 h1
    rw [e]
    rw [BitVec.toInt_eq_toNat_cond] at h0 h1 ⊢
    split at h0 <;> split <;> omega
  have hn : c.toBitVec.toNat < 65536 := by omega
  have a1 := lo8_and c
  have a2 : (hi8 c &&& 255).toBitVec.toNat = c.toBitVec.toNat / 256 := by
    rw [hi8, lo8_and]
    have e : ((8 : Int32) &&& 31) = 8 := by decide
    rw [e, Int32.toBitVec_shiftRight]
    have e2 : ((8 : Int32).toBitVec.smod 32) = 8#32 := by decide
    rw [e2, BitVec.sshiftRight_eq', BitVec.toNat_sshiftRight_of_msb_false (by rw [BitVec.msb_eq_false_iff_two_mul_lt]; omega)]
    show c.toBitVec.toNat >>> 8 % 256 = _
    rw [Nat.shiftRight_eq_div_pow]
    omega
  unfold pairCh
  apply Int32.toBitVec_inj.mp
  apply BitVec.eq_of_toNat_eq
  have f0 : ((0 : Int32) &&& 31) = 0 := by decide
  have f8 : ((8 : Int32) &&& 31) = 8 := by decide
  rw [f0, f8]
  have g : (((lo8 c &&& 255) <<< (0 : Int32)) ||| ((hi8 c &&& 255) <<< (8 : Int32))).toBitVec.toNat = c.toBitVec.toNat := by
    rw [Int32.toBitVec_or, Int32.toBitVec_shiftLeft, Int32.toBitVec_shiftLeft]
    have s0 : ((0 : Int32).toBitVec.smod 32) = 0#32 := by decide
    have s8 : ((8 : Int32).toBitVec.smod 32) = 8#32 := by decide
    rw [s0, s8, BitVec.toNat_or]
    simp only [BitVec.shiftLeft_eq', BitVec.toNat_shiftLeft, a1, a2]
    show (c.toBitVec.toNat % 256) <<< 0 % 2 ^ 32 ||| (c.toBitVec.toNat / 256) <<< 8 % 2 ^ 32 = _
    rw [Nat.shiftLeft_zero, Nat.mod_eq_of_lt (show c.toBitVec.toNat % 256 < 2 ^ 32 by omega), Nat.mod_eq_of_lt (show (c.toBitVec.toNat / 256) <<< 8 < 2 ^ 32 by rw [Nat.shiftLeft_eq]; omega), Nat.or_comm, ← Nat.shiftLeft_add_eq_or_of_lt (by omega), Nat.shiftLeft_eq]
    omega
  show BitVec.toNat (((((lo8 c &&& 255) <<< (0 : Int32)) ||| ((hi8 c &&& 255) <<< (8 : Int32))).toBitVec.setWidth 16).setWidth 32) = _
  rw [BitVec.toNat_setWidth, BitVec.toNat_setWidth, g]
  omega
end StrChars
namespace StrChars
open Jvm Sem ClassFile Op Lib Jvm.Stand Jvm.Free.XT Jvm.Free.ALB Jvm.Free.JM Jvm.Free
open Jvm.Lib.Cold (StaticIs)
/-- the array's cell V codes the n chars f 0 .. f (n - 1) by the coder cd, as the JDK does: coder 1 just where some char is above 255 -/
def Cod (cd : Int32) (n : Nat) (f : Nat → Int32) (V : Cell) : Prop := (cd = 0 ∧ V.slots.size = n ∧ ∀ j, j < n → V.slots[j]? = some (.int (lo8 (f j))) ∧ ¬ 255 < f j) ∨ (cd = 1 ∧ V.slots.size = 2 * n ∧ (∀ j, j < n → V.slots[2 * j]? = some (.int (lo8 (f j))) ∧ V.slots[2 * j + 1]? = some (.int (hi8 (f j)))) ∧ ∃ j, j < n ∧ 255 < f j)
/-- **x is a String of the n chars f 0 .. f (n - 1)**, Latin-1 or UTF-16; its array at t has the cell V -/
def Txt (x t : Addr) (V : Cell) (cd : Int32) (n : Nat) (f : Nat → Int32) (U : State) : Prop := Exact "java/lang/String" x U ∧ Has x "java/lang/String" "value" "[B" (.ref t) U ∧ Has x "java/lang/String" "coder" "B" (.int cd) U ∧ XT.Arr .byte t V U ∧ Cod cd n f V ∧ ∀ j, j < n → ¬ f j < 0 ∧ ¬ 65535 < f j
theorem Txt.mv {x t : Addr} {V : Cell} {cd : Int32} {n : Nat} {f : Nat → Int32} {U U' : State} (h : Txt x t V cd n f U) (hal : U.vm.Alike U'.vm) (hh : U'.heap = U.heap) : Txt x t V cd n f U' := ⟨h.1.mv hal hh, h.2.1.mv hal hh, h.2.2.1.mv hal hh, h.2.2.2.1.mv hal hh, h.2.2.2.2⟩
end StrChars
namespace StrChars.Road
open Jvm Sem ClassFile Op Lib Jvm.Stand Jvm.Free Jvm.Free.XT
open Jvm.Lib.Cold (StaticIs)
theorem consq {a : Array Value} {s : State} {c : Jvm.Cond} {L : List Jvm.Cond} (h0 : c.before a s = true) (h : ∀ w ∈ L, w.before a s = true) : ∀ w ∈ c :: L, w.before a s = true := fun w hw => (List.mem_cons.mp hw).elim (fun e => e ▸ h0) (h w)
/-- the bytes of the chars cs, low before high -/
def wideBytes : List Int32 → List Value
  | [] => []
  | c :: cs => .int (lo8 c) :: .int (hi8 c) :: wideBytes cs
theorem wide_lo (d : Value) : ∀ (cs : List Int32) (j : Nat), j < cs.length → (wideBytes cs).getD (2 * j) d = .int (lo8 (cs.getD j 0))
  | [], j, h => absurd h (Nat.not_lt_zero j)
  | c :: cs, 0, _ => rfl
  | c :: cs, j + 1, h => by
    have q := wide_lo d cs j (by simpa using h)
    rw [show 2 * (j + 1) = 2 * j + 1 + 1 from by omega]
    simpa [wideBytes] using q
theorem wide_hi (d : Value) : ∀ (cs : List Int32) (j : Nat), j < cs.length → (wideBytes cs).getD (2 * j + 1) d = .int (hi8 (cs.getD j 0))
  | [], j, h => absurd h (Nat.not_lt_zero j)
  | c :: cs, 0, _ => rfl
  | c :: cs, j + 1, h => by
    have q := wide_hi d cs j (by simpa using h)
    rw [show 2 * (j + 1) + 1 = 2 * j + 1 + 1 + 1 from by omega]
    simpa [wideBytes] using q
theorem low_at (d : Value) (cs : List Int32) (j : Nat) (h : j < cs.length) : (cs.map fun c => Value.int (lo8 c)).getD j d = .int (lo8 (cs.getD j 0)) := by
  simp [List.getD_eq_getElem?_getD, h]
/-- an array of N2 bytes vs codes the chars cs by the coder cd -/
def CodA (cs : List Int32) (cd N2 : Int32) (vs : List Value) : Prop := (cd = 0 ∧ N2 = Int32.ofNat cs.length ∧ vs = (cs.map fun c => Value.int (lo8 c)) ∧ ∀ c ∈ cs, ¬ 255 < c) ∨ (cd = 1 ∧ N2 = Int32.ofNat (2 * cs.length) ∧ vs = wideBytes cs ∧ ∃ c ∈ cs, 255 < c)
theorem CodA.cod {cs : List Int32} {cd N2 : Int32} {vs : List Value} {V : Cell} (h : CodA cs cd N2 vs) (hn : 2 * cs.length < 2 ^ 31) (hs : V.slots.size = N2.toNatClampNeg) (hv : RoadKit.Has V vs (.int 0)) : Cod cd cs.length (fun j => cs.getD j 0) V := by
  rcases h with ⟨rfl, rfl, rfl, h⟩ | ⟨rfl, rfl, rfl, c, hc, hw⟩
  · rw [n32 (by omega)] at hs
    exact Or.inl ⟨rfl, hs, fun j hj => ⟨by rw [hv j (by omega), low_at _ _ _ hj], by
      have e : cs.getD j 0 = cs[j] := by simp [List.getD_eq_getElem?_getD, hj]
      show ¬ 255 < cs.getD j 0
      rw [e]; exact h _ (List.getElem_mem _)⟩⟩
  · rw [n32 (by omega)] at hs
    obtain ⟨j, hj, rfl⟩ := List.getElem_of_mem hc
    exact Or.inr ⟨rfl, hs, fun j hj => ⟨by rw [hv _ (by omega), wide_lo _ _ _ hj], by rw [hv _ (by omega), wide_hi _ _ _ hj]⟩, j, hj, by
      have e : cs.getD j 0 = cs[j] := by simp [List.getD_eq_getElem?_getD, hj]
      show 255 < cs.getD j 0
      rw [e]; exact hw⟩
/-- an object of exactly java/lang/String, its two fields found: as the laws ask it -/
theorem strObj {Z U : State} {a0 : Array Value} {kI : Nat} (wi : (Jvm.Cond.instantiable ST kI).before a0 Z = true) (al : Z.vm.Alike U.vm) {x : Addr} {v0 c0 : Value} (E : RoadKit.Exa Z U.heap x ST) (V : RoadKit.Fld Z U.heap x ST "value" "[B" v0) (C : RoadKit.Fld Z U.heap x ST "coder" "B" c0) :
    ∃ (D : Cell) (fV fC : Field), Blank ST x D U ∧ Found ST "value" "[B" fV U ∧ Found ST "coder" "B" fC U ∧ D.slots[fV.slot]? = some v0 ∧ D.slots[fC.slot]? = some c0 ∧ RoadKit.slotOf Z ST "value" "[B" = fV.slot ∧ RoadKit.slotOf Z ST "coder" "B" = fC.slot := by
  obtain ⟨D, cfV, kV, iV, fV, hD, gV, stV, knV, obV, asV, slV⟩ := V
  obtain ⟨D', cfC, kC, iC, fC, hD', gC, stC, -, -, asC, slC⟩ := C
  cases hD.symm.trans hD'
  obtain ⟨D2, kD, e1, e2, e3, e4, e5⟩ := E
  cases hD.symm.trans e1
  obtain ⟨c2, k2, i1, i2, i3, -⟩ := Cond.instantiable_spec wi
  cases e2.symm.trans i1
  cases e3.symm.trans i2
  obtain ⟨kU, u1, u2⟩ := al.2.2 _ _ e3
  exact ⟨D, fV, fC, ⟨hD, ⟨knV, fun q hq => by rw [hq] at obV; cases obV⟩, by rw [al.findClass]; exact e2, kU, u1, by rw [u2]; exact i3, by rw [u2]; exact e5 i3⟩, ⟨SBG.found_only al ⟨cfV, kV, iV, gV⟩, stV⟩, ⟨SBG.found_only al ⟨cfC, kC, iC, gC⟩, stC⟩, slV, slC, by simp [RoadKit.slotOf, gV], by simp [RoadKit.slotOf, gC]⟩
theorem sta_is {Z U : State} (al : Z.vm.Alike U.vm) {C n d : String} {v : Value} (S : RoadKit.Sta Z U.heap C n d v) : StaticIs U C n d v := by
  obtain ⟨cfS, iS, kS, fS, st, cS, t1, t2, t3, t4, t5, t6, t7⟩ := S
  exact StaticIs.there (s := { Z with heap := U.heap }) ⟨cfS, iS, kS, fS, st, cS, t1, t2, t3, t4, t5, (fun q => by rw [q] at t6; cases t6), t7⟩ al rfl
end StrChars.Road
namespace StrChars
open Jvm Sem ClassFile Op Lib Jvm.Stand Jvm.Free.XT Jvm.Free.ALB Jvm.Free.JM Jvm.Free
open Jvm.Lib.Cold (StaticIs)
/-- what place i of a byte[]'s cell holds -/
def yv (A : Cell) (i : Nat) : Int32 := match A.slots[i]? with | some (.int x) => x | _ => 0
theorem yv_get {a : Addr} {A : Cell} {U : State} (h : XT.Arr .byte a A U) (ht : Typed .byte A) {i : Nat} (hi : i < A.slots.size) : A.slots[i]? = some (.int (yv A i)) := by
  have e := Array.getElem?_eq_getElem hi
  have f := ht i _ e
  unfold yv; rw [e]
  generalize A.slots[i] = v at f
  cases v <;> simp [fits] at f ⊢
/-- the two arrays are equal, place for place -/
def EqC (A B : Cell) : Prop := A.slots.size = B.slots.size ∧ ∀ i, i < A.slots.size → yv A i = yv B i
/-- a boolean that says whether p -/
def Says01 (q : Prop) (r : Option Value) (s u : State) : Prop := ∃ v : Int32, r = some (.int v) ∧ u.heap = s.heap ∧ ((v = 1 ∧ q) ∨ (v = 0 ∧ ¬ q))
theorem Says01.mv {q : Prop} : ∀ r (U U' V V' : State), U'.heap = U.heap → V.vm.Alike V'.vm → V'.heap = V.heap → Says01 q r U V → Says01 q r U' V' :=
  fun r U U' V V' h1 _ h2 ⟨v, a, b, c⟩ => ⟨v, a, by rw [h1, h2]; exact b, c⟩
namespace LEq
def yN : MethodName := ⟨"java/lang/StringLatin1", "equals", "([B[B)Z"⟩
abbrev yB : ByteArray := jdk_43_method_13_code
theorem d0 : decode yB 0 = .ok (.aload_n 0, 1) := by decide +kernel
theorem d1 : decode yB 1 = .ok (.arraylength, 1) := by decide +kernel
theorem d2 : decode yB 2 = .ok (.aload_n 1, 1) := by decide +kernel
theorem d3 : decode yB 3 = .ok (.arraylength, 1) := by decide +kernel
theorem d4 : decode yB 4 = .ok (.if_icmp (.ne) 30, 3) := by decide +kernel
theorem d7 : decode yB 7 = .ok (.iconst 0, 1) := by decide +kernel
theorem d8 : decode yB 8 = .ok (.istore_n 2, 1) := by decide +kernel
theorem d9 : decode yB 9 = .ok (.iload_n 2, 1) := by decide +kernel
theorem d10 : decode yB 10 = .ok (.aload_n 0, 1) := by decide +kernel
theorem d11 : decode yB 11 = .ok (.arraylength, 1) := by decide +kernel
theorem d12 : decode yB 12 = .ok (.if_icmp (.ge) 20, 3) := by decide +kernel
theorem d15 : decode yB 15 = .ok (.aload_n 0, 1) := by decide +kernel
theorem d16 : decode yB 16 = .ok (.iload_n 2, 1) := by decide +kernel
theorem d17 : decode yB 17 = .ok (.baload, 1) := by decide +kernel
theorem d18 : decode yB 18 = .ok (.aload_n 1, 1) := by decide +kernel
theorem d19 : decode yB 19 = .ok (.iload_n 2, 1) := by decide +kernel
theorem d20 : decode yB 20 = .ok (.baload, 1) := by decide +kernel
theorem d21 : decode yB 21 = .ok (.if_icmp (.eq) 5, 3) := by decide +kernel
theorem d24 : decode yB 24 = .ok (.iconst 0, 1) := by decide +kernel
theorem d25 : decode yB 25 = .ok (.ireturn, 1) := by decide +kernel
theorem d26 : decode yB 26 = .ok (.iinc 2 1, 3) := by decide +kernel
theorem d29 : decode yB 29 = .ok (.goto (-20), 3) := by decide +kernel
theorem d32 : decode yB 32 = .ok (.iconst 1, 1) := by decide +kernel
theorem d33 : decode yB 33 = .ok (.ireturn, 1) := by decide +kernel
theorem d34 : decode yB 34 = .ok (.iconst 0, 1) := by decide +kernel
theorem d35 : decode yB 35 = .ok (.ireturn, 1) := by decide +kernel
def site : List Cond := []
def tab : Cond := tabOf yN yB 3 (some .boolean) site
def P (a : Addr) (A : Cell) (b : Addr) (B : Cell) (args : Array Value) (s : State) : Prop := args = #[.ref a, .ref b] ∧ XT.Arr .byte a A s ∧ Typed .byte A ∧ XT.Arr .byte b B s ∧ Typed .byte B
/-- whether two byte[] are equal, place for place -/
theorem law (l : Launch) (a : Addr) (A : Cell) (b : Addr) (B : Cell) : Law l yN 2 2 0 0 yB 3 (some .boolean) site (P a A b B) (Says01 (EqC A B)) [] 0 0 := by
  refine Law.of_walk (plainFor_of_name (by decide +kernel)) (by decide +kernel) (by decide +kernel) (by decide) (fun _ _ h => by rw [h.1]; rfl) (fun _ U U' hal hh h => ⟨h.1, h.2.1.mv hal hh, h.2.2.1, h.2.2.2.1.mv hal hh, h.2.2.2.2⟩) (fun r U U' V V' h1 hal h2 h => Says01.mv r U U' V V' h1 hal h2 h) ?_
  intro p e s m args below meth c s₁ X0 hexec hbytes hml hret hlk hnm hown hh0 W hP
  obtain ⟨rfl, hA, tA, hB, tB⟩ := hP
  have a31 := hA.2.2.2
  have b31 := hB.2.2.2
  have hA0 := hA.mv X0.warmed.alike hh0
  have hB0 := hB.mv X0.warmed.alike hh0
  have c1 : Steps p.tables e below (s₁.setTop (entryFrame m #[.ref a, .ref b] 3)) (s₁.setTop (mkF m 0 #[.val (.ref a), .val (.ref b), .unset] [])) := entry rfl
  have c2 : Steps p.tables e below (s₁.setTop (entryFrame m #[.ref a, .ref b] 3)) (s₁.setTop (mkF m 4 #[.val (.ref a), .val (.ref b), .unset] [.int (Int32.ofNat B.slots.size), .int (Int32.ofNat A.slots.size)])) := c1.trans (by
    refine XS.aloadN X0.here hexec rfl (hb hbytes d0) rfl rfl ?_
    refine X0.alen hexec hA0 rfl rfl (hb hbytes d1) ?_
    refine XS.aloadN X0.here hexec rfl (hb hbytes d2) rfl rfl ?_
    refine X0.alen hexec hB0 rfl rfl (hb hbytes d3) ?_
    exact Steps.refl _)
  by_cases hs : A.slots.size = B.slots.size
  · have c3 : Steps p.tables e below (s₁.setTop (entryFrame m #[.ref a, .ref b] 3)) (s₁.setTop (mkF m 9 #[.val (.ref a), .val (.ref b), .val (.int 0)] [])) := c2.trans (by
      refine XS.icmpNo X0.here hexec rfl (hb hbytes d4) rfl (ii_ne_f (by rw [hs])) ?_
      refine iconstV X0.here hexec rfl 0 (hb hbytes d7) (by decide) ?_
      refine XS.istoreN X0.here hexec rfl (hb hbytes d8) rfl rfl ?_
      exact Steps.refl _)
    have loop : ∀ (r i : Nat), i + r = A.slots.size → (∀ j, j < i → yv A j = yv B j) → Steps p.tables e below (s₁.setTop (entryFrame m #[.ref a, .ref b] 3)) (s₁.setTop (mkF m 9 #[.val (.ref a), .val (.ref b), .val (.int (Int32.ofNat i))] [])) → ∃ (pc : Nat) (Ls : Array Slot) (v : Int32), (pc = 25 ∨ pc = 33) ∧ ((v = 1 ∧ EqC A B) ∨ (v = 0 ∧ ¬ EqC A B)) ∧ Steps p.tables e below (s₁.setTop (entryFrame m #[.ref a, .ref b] 3)) (s₁.setTop (mkF m pc Ls [.int v])) := by
      intro r
      induction r with
      | zero =>
        intro i hi he cl
        exact ⟨33, _, 1, Or.inr rfl, Or.inl ⟨rfl, hs, fun j hj => he j (by omega)⟩, cl.trans (by
          refine XS.iloadN X0.here hexec rfl (hb hbytes d9) rfl ?_
          refine XS.aloadN X0.here hexec rfl (hb hbytes d10) rfl rfl ?_
          refine X0.alen hexec hA0 rfl rfl (hb hbytes d11) ?_
          refine XS.icmpYes X0.here hexec rfl (pc0 := 12) rfl (hb hbytes d12) rfl (ii_ge_t (nlt32 (by omega) (by omega))) (by decide) rfl ?_
          refine iconstV X0.here hexec rfl 1 (hb hbytes d32) (by decide) ?_
          exact Steps.refl _)⟩
      | succ r ih =>
        intro i hi he cl
        have c4 : Steps p.tables e below (s₁.setTop (entryFrame m #[.ref a, .ref b] 3)) (s₁.setTop (mkF m 21 #[.val (.ref a), .val (.ref b), .val (.int (Int32.ofNat i))] [.int (yv B i), .int (yv A i)])) := cl.trans (by
          refine XS.iloadN X0.here hexec rfl (hb hbytes d9) rfl ?_
          refine XS.aloadN X0.here hexec rfl (hb hbytes d10) rfl rfl ?_
          refine X0.alen hexec hA0 rfl rfl (hb hbytes d11) ?_
          refine XS.icmpNo X0.here hexec rfl (hb hbytes d12) rfl (ii_ge_f (lt32 (by omega) (by omega))) ?_
          refine XS.aloadN X0.here hexec rfl (hb hbytes d15) rfl rfl ?_
          refine XS.iloadN X0.here hexec rfl (hb hbytes d16) rfl ?_
          refine X0.aget hexec hA0 rfl (yv_get hA tA (i := i) (by omega)) rfl rfl (hb hbytes d17) ?_
          refine XS.aloadN X0.here hexec rfl (hb hbytes d18) rfl rfl ?_
          refine XS.iloadN X0.here hexec rfl (hb hbytes d19) rfl ?_
          refine X0.aget hexec hB0 rfl (yv_get hB tB (i := i) (by omega)) rfl rfl (hb hbytes d20) ?_
          exact Steps.refl _)
        by_cases hv : yv A i = yv B i
        · have c5 : Steps p.tables e below (s₁.setTop (entryFrame m #[.ref a, .ref b] 3)) (s₁.setTop (mkF m 9 #[.val (.ref a), .val (.ref b), .val (.int (Int32.ofNat i + 1))] [])) := c4.trans (by
            refine XS.icmpYes X0.here hexec rfl (pc0 := 21) rfl (hb hbytes d21) rfl (ii_eq_t hv) (by decide) rfl ?_
            refine iincV X0.here hexec rfl 1 (hb hbytes d26) (by decide) rfl rfl ?_
            refine XS.goto X0.here hexec rfl (pc0 := 29) rfl (hb hbytes d29) (by decide) rfl ?_
            exact Steps.refl _)
          rw [succ32] at c5
          exact ih (i + 1) (by omega) (fun j hj => by
            by_cases e : j = i
            · rw [e]; exact hv
            · exact he j (by omega)) c5
        · exact ⟨25, _, 0, Or.inl rfl, Or.inr ⟨rfl, fun q => hv (q.2 i (by omega))⟩, c4.trans (by
            refine XS.icmpNo X0.here hexec rfl (hb hbytes d21) rfl (ii_eq_f hv) ?_
            refine iconstV X0.here hexec rfl 0 (hb hbytes d24) (by decide) ?_
            exact Steps.refl _)⟩
    obtain ⟨pc, Ls, v, hpc, hv, cz⟩ := loop A.slots.size 0 (by omega) (fun j hj => absurd hj (Nat.not_lt_zero j)) c3
    have nv : narrow .boolean (.int v) = .int v := by rcases hv with ⟨rfl, -⟩ | ⟨rfl, -⟩ <;> rfl
    rcases hpc with rfl | rfl
    · exact ⟨s₁, some (.int v), _, _, _, X0, rfl, rfl, rfl, (fun h => by cases h), ⟨v, rfl, hh0, hv⟩, fun fs hl => cz.trans (X0.ireturnOut hexec hret nv (Or.inr (Or.inl rfl)) (hb hbytes d25) hl)⟩
    · exact ⟨s₁, some (.int v), _, _, _, X0, rfl, rfl, rfl, (fun h => by cases h), ⟨v, rfl, hh0, hv⟩, fun fs hl => cz.trans (X0.ireturnOut hexec hret nv (Or.inr (Or.inl rfl)) (hb hbytes d33) hl)⟩
  · have c3 : Steps p.tables e below (s₁.setTop (entryFrame m #[.ref a, .ref b] 3)) (s₁.setTop (mkF m 35 #[.val (.ref a), .val (.ref b), .unset] [.int 0])) := c2.trans (by
      refine XS.icmpYes X0.here hexec rfl (pc0 := 4) rfl (hb hbytes d4) rfl (ii_ne_t (ne32 a31 b31 hs)) (by decide) rfl ?_
      refine iconstV X0.here hexec rfl 0 (hb hbytes d34) (by decide) ?_
      exact Steps.refl _)
    exact ⟨s₁, some (.int 0), _, _, _, X0, rfl, rfl, rfl, (fun h => by cases h), ⟨0, rfl, hh0, Or.inr ⟨rfl, fun q => hs q.1⟩⟩, fun fs hl => c3.trans (X0.ireturnOut hexec hret rfl (Or.inr (Or.inl rfl)) (hb hbytes d35) hl)⟩
end LEq
theorem Cod.ty {cd : Int32} {n : Nat} {f : Nat → Int32} {V : Cell} (h : Cod cd n f V) : Typed .byte V := fun i v hv => by
  have hi : i < V.slots.size := (Array.getElem?_eq_some_iff.mp hv).1
  rcases h with ⟨-, k1, k2⟩ | ⟨-, k1, k2, -⟩
  · rw [(k2 i (by omega)).1] at hv; cases hv; exact fits_lo8 _
  · rcases Nat.mod_two_eq_zero_or_one i with e | e
    · obtain ⟨j, rfl⟩ : ∃ j, i = 2 * j := ⟨i / 2, by omega⟩
      rw [(k2 j (by omega)).1] at hv; cases hv; exact fits_lo8 _
    · obtain ⟨j, rfl⟩ : ∃ j, i = 2 * j + 1 := ⟨i / 2, by omega⟩
      rw [(k2 j (by omega)).2] at hv; cases hv; exact fits_lo8 _
/-- the same text -/
def SameT (n : Nat) (f : Nat → Int32) (k : Nat) (g : Nat → Int32) : Prop := n = k ∧ ∀ j, j < n → f j = g j
theorem lo8_inj {x y : Int32} (h0 : ¬ x < 0) (h1 : ¬ 255 < x) (k0 : ¬ y < 0) (k1 : ¬ 255 < y) (h : lo8 x = lo8 y) : x = y := by
  rw [← lo8_mask h0 h1, ← lo8_mask k0 k1, h]
/-- arrays coded by one coder are equal just where the texts are -/
theorem Cod.eqv {cd : Int32} {n k : Nat} {f g : Nat → Int32} {V V' : Cell} (h : Cod cd n f V) (h' : Cod cd k g V') (hf : ∀ j, j < n → ¬ f j < 0 ∧ ¬ 65535 < f j) (hg : ∀ j, j < k → ¬ g j < 0 ∧ ¬ 65535 < g j) : EqC V V' ↔ SameT n f k g := by
  have yvv : ∀ {W : Cell} {i : Nat} {x : Int32}, W.slots[i]? = some (.int x) → yv W i = x := fun q => by unfold yv; rw [q]
  rcases h with ⟨rfl, k1, k2⟩ | ⟨rfl, k1, k2, -⟩
  · rcases h' with ⟨-, m1, m2⟩ | ⟨e, -⟩
    · constructor
      · rintro ⟨e1, e2⟩
        refine ⟨by omega, fun j hj => ?_⟩
        have q := e2 j (by omega)
        rw [yvv (k2 j hj).1, yvv (m2 j (by omega)).1] at q
        exact lo8_inj (hf j hj).1 (k2 j hj).2 (hg j (by omega)).1 (m2 j (by omega)).2 q
      · rintro ⟨rfl, e2⟩
        refine ⟨by omega, fun j hj => ?_⟩
        rw [yvv (k2 j (by omega)).1, yvv (m2 j (by omega)).1, e2 j (by omega)]
    · exact absurd e (by decide)
  · rcases h' with ⟨e, -⟩ | ⟨-, m1, m2, -⟩
    · exact absurd e (by decide)
    · constructor
      · rintro ⟨e1, e2⟩
        refine ⟨by omega, fun j hj => ?_⟩
        have q1 := e2 (2 * j) (by omega)
        have q2 := e2 (2 * j + 1) (by omega)
        rw [yvv (k2 j hj).1, yvv (m2 j (by omega)).1] at q1
        rw [yvv (k2 j hj).2, yvv (m2 j (by omega)).2] at q2
        rw [← pair_says (hf j hj).1 (hf j hj).2, ← pair_says (hg j (by omega)).1 (hg j (by omega)).2, q1, q2]
      · rintro ⟨rfl, e2⟩
        refine ⟨by omega, fun i hi => ?_⟩
        rcases Nat.mod_two_eq_zero_or_one i with e | e
        · obtain ⟨j, rfl⟩ : ∃ j, i = 2 * j := ⟨i / 2, by omega⟩
          rw [yvv (k2 j (by omega)).1, yvv (m2 j (by omega)).1, e2 j (by omega)]
        · obtain ⟨j, rfl⟩ : ∃ j, i = 2 * j + 1 := ⟨i / 2, by omega⟩
          rw [yvv (k2 j (by omega)).2, yvv (m2 j (by omega)).2, e2 j (by omega)]
/-- two codings differ: so do the texts -/
theorem Cod.dif {cd cd' : Int32} {n k : Nat} {f g : Nat → Int32} {V V' : Cell} (h : Cod cd n f V) (h' : Cod cd' k g V') (hne : ¬ cd = cd') : ¬ SameT n f k g := by
  rintro ⟨rfl, e⟩
  rcases h with ⟨rfl, -, k2⟩ | ⟨rfl, -, -, j, hj, hw⟩
  · rcases h' with ⟨rfl, -⟩ | ⟨-, -, -, j, hj, hw⟩
    · exact hne rfl
    · exact (k2 j hj).2 (by rw [e j hj]; exact hw)
  · rcases h' with ⟨-, -, m2⟩ | ⟨rfl, -⟩
    · exact (m2 j hj).2 (by rw [← e j hj]; exact hw)
    · exact hne rfl
/-- an object of exactly C is an instance of C -/
theorem cinst {p : Program} {l : Launch} {e : Env} {R : Room} {s : State} {m : MethodId} {args : Array Value} {below : List Frame} {meth : Method} {c : Code} {T : State} {locs : List Loc} {cells slots : Nat} (X : Stand p l e R s m args below meth c T locs cells slots) (hexec : p.tables.exec = Jvm.exec) {own C : String} {index : Nat} (hown : s.vm.findClass own = some m.cls) (hlink : (Cond.classLink own index C).before args s = true) {a : Addr} (hE : Exact C a T)
    {g : JFrame} (hg : g.method = m) {rest : List Value} (hstack : g.stack = .ref a :: rest) (hdg : decode c.code g.pc = .ok (.instanceof index, 3)) :
    ∃ T', Stand p l e R s m args below meth c T' locs cells slots ∧ T'.heap = T.heap ∧ ∀ target, Steps p.tables e below (T'.setTop { g with pc := g.pc + 3, stack := .int 1 :: rest }) target → Steps p.tables e below (T.setTop g) target := by
  obtain ⟨cB, h1, D, h2, h3, h4⟩ := hE
  have h1' : s.vm.findClass C = some cB := by rw [← X.warmed.alike.findClass]; exact h1
  obtain ⟨vm', X', st⟩ := X.instanceofYes hexec hown hlink h2 h4 h1' (by rw [h3]; exact Jvm.Free.SB.assignable_self _ _) hg hstack hdg
  exact ⟨_, X', rfl, st⟩
theorem cself {p : Program} {l : Launch} {e : Env} {R : Room} {s : State} {m : MethodId} {args : Array Value} {below : List Frame} {meth : Method} {c : Code} {T : State} {locs : List Loc} {cells slots : Nat} (X : Stand p l e R s m args below meth c T locs cells slots) (hexec : p.tables.exec = Jvm.exec) {own C : String} {index : Nat} (hown : s.vm.findClass own = some m.cls) (hlink : (Cond.classLink own index C).before args s = true) {a : Addr} (hE : Exact C a T)
    {g : JFrame} (hg : g.method = m) {rest : List Value} (hstack : g.stack = .ref a :: rest) (hdg : decode c.code g.pc = .ok (.checkcast index, 3)) :
    ∃ T', Stand p l e R s m args below meth c T' locs cells slots ∧ T'.heap = T.heap ∧ ∀ target, Steps p.tables e below (T'.setTop { g with pc := g.pc + 3, stack := .ref a :: rest }) target → Steps p.tables e below (T.setTop g) target := by
  obtain ⟨cB, h1, D, h2, h3, h4⟩ := hE
  have h1' : s.vm.findClass C = some cB := by rw [← X.warmed.alike.findClass]; exact h1
  obtain ⟨vm', X', st⟩ := X.checkcastYes hexec hown hlink h2 h4 h1' (by rw [h3]; exact Jvm.Free.SB.assignable_self _ _) hg hstack hdg
  exact ⟨_, X', rfl, fun t h => st t (by rw [← hstack] at h; exact h)⟩
namespace SEq
def yN : MethodName := ⟨"java/lang/String", "equals", "(Ljava/lang/Object;)Z"⟩
abbrev yB : ByteArray := jdk_42_method_66_code
theorem d0 : decode yB 0 = .ok (.aload_n 0, 1) := by decide +kernel
theorem d1 : decode yB 1 = .ok (.aload_n 1, 1) := by decide +kernel
theorem d2 : decode yB 2 = .ok (.if_acmp (.ne) 5, 3) := by decide +kernel
theorem d5 : decode yB 5 = .ok (.iconst 1, 1) := by decide +kernel
theorem d6 : decode yB 6 = .ok (.ireturn, 1) := by decide +kernel
theorem d7 : decode yB 7 = .ok (.aload_n 1, 1) := by decide +kernel
theorem d8 : decode yB 8 = .ok (.instanceof 10, 3) := by decide +kernel
theorem d11 : decode yB 11 = .ok (.ifCond (.eq) 43, 3) := by decide +kernel
theorem d14 : decode yB 14 = .ok (.aload_n 1, 1) := by decide +kernel
theorem d15 : decode yB 15 = .ok (.checkcast 10, 3) := by decide +kernel
theorem d18 : decode yB 18 = .ok (.astore_n 2, 1) := by decide +kernel
theorem d19 : decode yB 19 = .ok (.getstatic 38, 3) := by decide +kernel
theorem d22 : decode yB 22 = .ok (.ifCond (.eq) 14, 3) := by decide +kernel
theorem d25 : decode yB 25 = .ok (.aload_n 0, 1) := by decide +kernel
theorem d26 : decode yB 26 = .ok (.getfield 15, 3) := by decide +kernel
theorem d29 : decode yB 29 = .ok (.aload_n 2, 1) := by decide +kernel
theorem d30 : decode yB 30 = .ok (.getfield 15, 3) := by decide +kernel
theorem d33 : decode yB 33 = .ok (.if_icmp (.ne) 21, 3) := by decide +kernel
theorem d36 : decode yB 36 = .ok (.aload_n 0, 1) := by decide +kernel
theorem d37 : decode yB 37 = .ok (.getfield 9, 3) := by decide +kernel
theorem d40 : decode yB 40 = .ok (.aload_n 2, 1) := by decide +kernel
theorem d41 : decode yB 41 = .ok (.getfield 9, 3) := by decide +kernel
theorem d44 : decode yB 44 = .ok (.invokestatic 541, 3) := by decide +kernel
theorem d47 : decode yB 47 = .ok (.ifCond (.eq) 7, 3) := by decide +kernel
theorem d50 : decode yB 50 = .ok (.iconst 1, 1) := by decide +kernel
theorem d51 : decode yB 51 = .ok (.goto 4, 3) := by decide +kernel
theorem d54 : decode yB 54 = .ok (.iconst 0, 1) := by decide +kernel
theorem d55 : decode yB 55 = .ok (.ireturn, 1) := by decide +kernel
def site : List Cond := [.classLink "java/lang/String" 10 "java/lang/String", .fieldLink "java/lang/String" 38 "java/lang/String" "COMPACT_STRINGS" "Z", .fieldLink "java/lang/String" 15 "java/lang/String" "coder" "B", .fieldLink "java/lang/String" 9 "java/lang/String" "value" "[B", LEq.tab] ++ staticW "java/lang/String" 541 LEq.yN
def tab : Cond := tabOf yN yB 3 (some .boolean) site
def P (x t : Addr) (V : Cell) (cd : Int32) (n : Nat) (f : Nat → Int32) (y t' : Addr) (V' : Cell) (cd' : Int32) (k : Nat) (g : Nat → Int32) (z : Int32) (args : Array Value) (s : State) : Prop := args = #[.ref x, .ref y] ∧ Txt x t V cd n f s ∧ Txt y t' V' cd' k g s ∧ StaticIs s "java/lang/String" "COMPACT_STRINGS" "Z" (.int z) ∧ ¬ z = 0
/-- equals(Object) of two Strings: whether the texts are the same -/
theorem law (l : Launch) (x t : Addr) (V : Cell) (cd : Int32) (n : Nat) (f : Nat → Int32) (y t' : Addr) (V' : Cell) (cd' : Int32) (k : Nat) (g : Nat → Int32) (z : Int32) : Law l yN 2 1 1 14 yB 3 (some .boolean) site (P x t V cd n f y t' V' cd' k g z) (Says01 (SameT n f k g)) [] 0 0 := by
  refine Law.of_walk (plainFor_of_name (by decide +kernel)) (by decide +kernel) (by decide +kernel) (by decide) (fun _ _ h => by rw [h.1]; rfl) (fun _ U U' hal hh h => ⟨h.1, h.2.1.mv hal hh, h.2.2.1.mv hal hh, h.2.2.2.1.there hal hh, h.2.2.2.2⟩) (fun r U U' V V' h1 hal h2 h => Says01.mv r U U' V V' h1 hal h2 h) ?_
  intro p e s m args below meth c s₁ X0 hexec hbytes hml hret hlk hnm hown hh0 W hP
  obtain ⟨rfl, hx, hy, s1, hz⟩ := hP
  have c1 : Steps p.tables e below (s₁.setTop (entryFrame m #[.ref x, .ref y] 3)) (s₁.setTop (mkF m 2 #[.val (.ref x), .val (.ref y), .unset] [.ref y, .ref x])) := Steps.trans (entry rfl) (by
    show Steps p.tables e below (s₁.setTop (mkF m 0 #[.val (.ref x), .val (.ref y), .unset] [])) _
    refine XS.aloadN X0.here hexec rfl (hb hbytes d0) rfl rfl ?_
    refine XS.aloadN X0.here hexec rfl (hb hbytes d1) rfl rfl ?_
    exact Steps.refl _)
  by_cases hxy : x = y
  · have c2 : Steps p.tables e below (s₁.setTop (entryFrame m #[.ref x, .ref y] 3)) (s₁.setTop (mkF m 6 #[.val (.ref x), .val (.ref y), .unset] [.int 1])) := c1.trans (by
      refine acmpNo X0.here hexec rfl (hb hbytes d2) rfl rfl rfl (by simp [acmp, hxy]) ?_
      refine iconstV X0.here hexec rfl 1 (hb hbytes d5) (by decide) ?_
      exact Steps.refl _)
    subst hxy
    have ec : cd = cd' := by
      obtain ⟨D, fd, a1, a2, a3⟩ := hx.2.2.1
      obtain ⟨D', fd', b1, b2, b3⟩ := hy.2.2.1
      cases a1.symm.trans b1
      obtain ⟨q1, q2, q3, q4⟩ := a2.1
      obtain ⟨r1, r2, r3, r4⟩ := b2.1
      cases q4.symm.trans r4
      cases a3.symm.trans b3; rfl
    have et : t = t' := by
      obtain ⟨D, fd, a1, a2, a3⟩ := hx.2.1
      obtain ⟨D', fd', b1, b2, b3⟩ := hy.2.1
      cases a1.symm.trans b1
      obtain ⟨q1, q2, q3, q4⟩ := a2.1
      obtain ⟨r1, r2, r3, r4⟩ := b2.1
      cases q4.symm.trans r4
      cases a3.symm.trans b3; rfl
    subst ec et
    have ev : V = V' := by cases hx.2.2.2.1.1.symm.trans hy.2.2.2.1.1; rfl
    subst ev
    have hs : SameT n f k g := (Cod.eqv hx.2.2.2.2.1 hy.2.2.2.2.1 hx.2.2.2.2.2 hy.2.2.2.2.2).mp ⟨rfl, fun _ _ => rfl⟩
    exact ⟨s₁, some (.int 1), _, _, _, X0, rfl, rfl, rfl, (fun h => by cases h), ⟨1, rfl, hh0, Or.inl ⟨rfl, hs⟩⟩, fun fs hl => c2.trans (X0.ireturnOut hexec hret rfl (Or.inr (Or.inl rfl)) (hb hbytes d6) hl)⟩
  · have c2 : Steps p.tables e below (s₁.setTop (entryFrame m #[.ref x, .ref y] 3)) (s₁.setTop (mkF m 8 #[.val (.ref x), .val (.ref y), .unset] [.ref y])) := c1.trans (by
      refine acmpYes X0.here hexec rfl (pc0 := 2) rfl (hb hbytes d2) rfl rfl rfl (by simp [acmp, hxy]) (by decide) rfl ?_
      refine XS.aloadN X0.here hexec rfl (hb hbytes d7) rfl rfl ?_
      exact Steps.refl _)
    obtain ⟨T3, X3, q3, st3⟩ := cinst X0 hexec hown (wk W (.classLink "java/lang/String" 10 "java/lang/String")) (hy.mv X0.warmed.alike hh0).1 (g := (mkF m 8 #[.val (.ref x), .val (.ref y), .unset] [.ref y])) rfl (rest := []) rfl (hb hbytes d8)
    have hh3 := q3.trans hh0
    have c4 : Steps p.tables e below (s₁.setTop (entryFrame m #[.ref x, .ref y] 3)) (T3.setTop (mkF m 15 #[.val (.ref x), .val (.ref y), .unset] [.ref y])) := (c2.trans (st3 _ (Steps.refl _))).trans (by
      refine XS.ifNo X3.here hexec rfl (hb hbytes d11) rfl (i0_eq_f (by decide)) ?_
      refine XS.aloadN X3.here hexec rfl (hb hbytes d14) rfl rfl ?_
      exact Steps.refl _)
    obtain ⟨T5, X5, q5, st5⟩ := cself X3 hexec hown (wk W (.classLink "java/lang/String" 10 "java/lang/String")) (hy.mv X3.warmed.alike hh3).1 (g := (mkF m 15 #[.val (.ref x), .val (.ref y), .unset] [.ref y])) rfl (rest := []) rfl (hb hbytes d15)
    have hh5 := q5.trans hh3
    have c6 : Steps p.tables e below (s₁.setTop (entryFrame m #[.ref x, .ref y] 3)) (T5.setTop (mkF m 19 #[.val (.ref x), .val (.ref y), .val (.ref y)] [])) := (c4.trans (st5 _ (Steps.refl _))).trans (by
      refine XS.astoreN X5.here hexec rfl (hb hbytes d18) rfl rfl rfl ?_
      exact Steps.refl _)
    obtain ⟨T7, X7, q7, st7⟩ := X5.sget hexec hown (wk W (.fieldLink "java/lang/String" 38 "java/lang/String" "COMPACT_STRINGS" "Z")) s1 (fun _ _ h => by rw [hh5]; exact h) (g := (mkF m 19 #[.val (.ref x), .val (.ref y), .val (.ref y)] [])) rfl (hb hbytes d19)
    have hh7 := q7.trans hh5
    have c8 : Steps p.tables e below (s₁.setTop (entryFrame m #[.ref x, .ref y] 3)) (T7.setTop (mkF m 26 #[.val (.ref x), .val (.ref y), .val (.ref y)] [.ref x])) := (c6.trans (st7 _ (Steps.refl _))).trans (by
      refine XS.ifNo X7.here hexec rfl (hb hbytes d22) rfl (i0_eq_f hz) ?_
      refine XS.aloadN X7.here hexec rfl (hb hbytes d25) rfl rfl ?_
      exact Steps.refl _)
    obtain ⟨T9, X9, q9, st9⟩ := X7.hget hexec hown (wk W (.fieldLink "java/lang/String" 15 "java/lang/String" "coder" "B")) (hx.mv X7.warmed.alike hh7).2.2.1 (g := (mkF m 26 #[.val (.ref x), .val (.ref y), .val (.ref y)] [.ref x])) rfl (rest := []) rfl (hb hbytes d26)
    have hh9 := q9.trans hh7
    have c10 : Steps p.tables e below (s₁.setTop (entryFrame m #[.ref x, .ref y] 3)) (T9.setTop (mkF m 30 #[.val (.ref x), .val (.ref y), .val (.ref y)] [.ref y, .int cd])) := (c8.trans (st9 _ (Steps.refl _))).trans (by
      refine XS.aloadN X9.here hexec rfl (hb hbytes d29) rfl rfl ?_
      exact Steps.refl _)
    obtain ⟨T11, X11, q11, st11⟩ := X9.hget hexec hown (wk W (.fieldLink "java/lang/String" 15 "java/lang/String" "coder" "B")) (hy.mv X9.warmed.alike hh9).2.2.1 (g := (mkF m 30 #[.val (.ref x), .val (.ref y), .val (.ref y)] [.ref y, .int cd])) rfl (rest := [.int cd]) rfl (hb hbytes d30)
    have hh11 := q11.trans hh9
    have c12 : Steps p.tables e below (s₁.setTop (entryFrame m #[.ref x, .ref y] 3)) (T11.setTop (mkF m 33 #[.val (.ref x), .val (.ref y), .val (.ref y)] [.int cd', .int cd])) := c10.trans (st11 _ (Steps.refl _))
    by_cases hcd : cd = cd'
    · subst hcd
      have c13 : Steps p.tables e below (s₁.setTop (entryFrame m #[.ref x, .ref y] 3)) (T11.setTop (mkF m 37 #[.val (.ref x), .val (.ref y), .val (.ref y)] [.ref x])) := c12.trans (by
        refine XS.icmpNo X11.here hexec rfl (hb hbytes d33) rfl (ii_ne_f rfl) ?_
        refine XS.aloadN X11.here hexec rfl (hb hbytes d36) rfl rfl ?_
        exact Steps.refl _)
      obtain ⟨T14, X14, q14, st14⟩ := X11.hget hexec hown (wk W (.fieldLink "java/lang/String" 9 "java/lang/String" "value" "[B")) (hx.mv X11.warmed.alike hh11).2.1 (g := (mkF m 37 #[.val (.ref x), .val (.ref y), .val (.ref y)] [.ref x])) rfl (rest := []) rfl (hb hbytes d37)
      have hh14 := q14.trans hh11
      have c15 : Steps p.tables e below (s₁.setTop (entryFrame m #[.ref x, .ref y] 3)) (T14.setTop (mkF m 41 #[.val (.ref x), .val (.ref y), .val (.ref y)] [.ref y, .ref t])) := (c13.trans (st14 _ (Steps.refl _))).trans (by
        refine XS.aloadN X14.here hexec rfl (hb hbytes d40) rfl rfl ?_
        exact Steps.refl _)
      obtain ⟨T16, X16, q16, st16⟩ := X14.hget hexec hown (wk W (.fieldLink "java/lang/String" 9 "java/lang/String" "value" "[B")) (hy.mv X14.warmed.alike hh14).2.1 (g := (mkF m 41 #[.val (.ref x), .val (.ref y), .val (.ref y)] [.ref y, .ref t])) rfl (rest := [.ref t]) rfl (hb hbytes d41)
      have hh16 := q16.trans hh14
      have c17 : Steps p.tables e below (s₁.setTop (entryFrame m #[.ref x, .ref y] 3)) (T16.setTop (mkF m 44 #[.val (.ref x), .val (.ref y), .val (.ref y)] [.ref t', .ref t])) := c15.trans (st16 _ (Steps.refl _))
      obtain ⟨v18, T18, X18, E18, g18⟩ := X16.callS hexec (LEq.law l t V t' V') hown (wks W (staticW "java/lang/String" 541 LEq.yN)) (wk W LEq.tab) (W := 0) (Nat.le_of_ble_eq_true rfl) (Nat.le_of_ble_eq_true rfl) (Nat.le_refl _) (Nat.le_refl _) (g := (mkF m 44 #[.val (.ref x), .val (.ref y), .val (.ref y)] [.ref t', .ref t])) rfl (by rw [hml]; rfl) c17 (argsL := [.ref t, .ref t']) (rest := []) rfl rfl (by show 2 * 0 + 0 ≤ _; decide) (hb hbytes d44) (⟨rfl, hx.2.2.2.1.mv X16.warmed.alike hh16, hx.2.2.2.2.1.ty, hy.2.2.2.1.mv X16.warmed.alike hh16, hy.2.2.2.2.1.ty⟩)
      obtain ⟨v, rfl, q18, hv⟩ := E18
      have iff := Cod.eqv hx.2.2.2.2.1 hy.2.2.2.2.1 hx.2.2.2.2.2 hy.2.2.2.2.2
      rcases hv with ⟨rfl, he⟩ | ⟨rfl, he⟩
      · have c19 : Steps p.tables e below (s₁.setTop (entryFrame m #[.ref x, .ref y] 3)) (T18.setTop (mkF m 55 #[.val (.ref x), .val (.ref y), .val (.ref y)] [.int 1])) := Steps.trans g18 (by
          refine XS.ifNo X18.here hexec rfl (hb hbytes d47) rfl (i0_eq_f (by decide)) ?_
          refine iconstV X18.here hexec rfl 1 (hb hbytes d50) (by decide) ?_
          refine XS.goto X18.here hexec rfl (pc0 := 51) rfl (hb hbytes d51) (by decide) rfl ?_
          exact Steps.refl _)
        exact ⟨T18, some (.int 1), _, _, _, X18, rfl, rfl, rfl, (fun h => by cases h), ⟨1, rfl, q18.trans hh16, Or.inl ⟨rfl, iff.mp he⟩⟩, fun fs hl => c19.trans (X18.ireturnOut hexec hret rfl (Or.inr (Or.inl rfl)) (hb hbytes d55) hl)⟩
      · have c19 : Steps p.tables e below (s₁.setTop (entryFrame m #[.ref x, .ref y] 3)) (T18.setTop (mkF m 55 #[.val (.ref x), .val (.ref y), .val (.ref y)] [.int 0])) := Steps.trans g18 (by
          refine XS.ifYes X18.here hexec rfl (pc0 := 47) rfl (hb hbytes d47) rfl (i0_eq_t rfl) (by decide) rfl ?_
          refine iconstV X18.here hexec rfl 0 (hb hbytes d54) (by decide) ?_
          exact Steps.refl _)
        exact ⟨T18, some (.int 0), _, _, _, X18, rfl, rfl, rfl, (fun h => by cases h), ⟨0, rfl, q18.trans hh16, Or.inr ⟨rfl, fun q => he (iff.mpr q)⟩⟩, fun fs hl => c19.trans (X18.ireturnOut hexec hret rfl (Or.inr (Or.inl rfl)) (hb hbytes d55) hl)⟩
    · have c13 : Steps p.tables e below (s₁.setTop (entryFrame m #[.ref x, .ref y] 3)) (T11.setTop (mkF m 55 #[.val (.ref x), .val (.ref y), .val (.ref y)] [.int 0])) := c12.trans (by
        refine XS.icmpYes X11.here hexec rfl (pc0 := 33) rfl (hb hbytes d33) rfl (ii_ne_t hcd) (by decide) rfl ?_
        refine iconstV X11.here hexec rfl 0 (hb hbytes d54) (by decide) ?_
        exact Steps.refl _)
      exact ⟨T11, some (.int 0), _, _, _, X11, rfl, rfl, rfl, (fun h => by cases h), ⟨0, rfl, hh11, Or.inr ⟨rfl, Cod.dif hx.2.2.2.2.1 hy.2.2.2.2.1 hcd⟩⟩, fun fs hl => c13.trans (X11.ireturnOut hexec hret rfl (Or.inr (Or.inl rfl)) (hb hbytes d55) hl)⟩
theorem pays {l : Launch} {R : Room} {p : Program} {e : Env} {below : List Frame} {s : State} {sargs : Array Value} {len W : Nat} (x t : Addr) (V : Cell) (cd : Int32) (n : Nat) (f : Nat → Int32) (y t' : Addr) (V' : Cell) (cd' : Int32) (k : Nat) (g : Nat → Int32) (z : Int32) (htab : tab.before sargs s = true) (hfr : 2 ≤ R.frames) (hlo : W + 28 ≤ R.locals) :
    Back l R p e below s sargs yN len W (fun A₁ a₁ => A₁.cells + 0 ≤ R.cells ∧ A₁.slots + 0 ≤ R.slots ∧ P x t V cd n f y t' V' cd' k g z a₁ A₁.U) (fun A₁ _ v₁ B₁ => Says01 (SameT n f k g) v₁ A₁.U B₁.U ∧ B₁.locs = A₁.locs ++ [] ∧ B₁.cells = A₁.cells + 0 ∧ B₁.slots = A₁.slots + 0) :=
  (law l x t V cd n f y t' V' cd' k g z).pays htab hfr (by omega)
end SEq
end StrChars
namespace StrChars.Road
open Jvm Sem ClassFile Op Lib Jvm.Stand Jvm.Free Jvm.Free.XT
open Jvm.Lib.Cold (StaticIs)
/-- the words of String.equals(Object) -/
abbrev wordsEq : List Jvm.Cond := [.code SEq.yN SEq.yB 3 (some .boolean), .initialized ST, .classLink ST 10 ST, .fieldLink ST 38 ST "COMPACT_STRINGS" "Z", .fieldLink ST 15 ST "coder" "B", .fieldLink ST 9 ST "value" "[B", .methodLink ST 541 LEq.yN, .static LEq.yN, .code LEq.yN LEq.yB 3 (some .boolean), .initialized "java/lang/StringLatin1"]
theorem tabEq_of {a : Array Value} {s : State} (h : ∀ w ∈ wordsEq, w.before a s = true) : SEq.tab.before a s = true := by
  have hl : LEq.tab.before a s = true := unparts (wk h (.code LEq.yN LEq.yB 3 (some .boolean))) (wks h (.initialized LEq.yN.cls :: LEq.site))
  have q := consq hl h
  exact unparts (wk q (.code SEq.yN SEq.yB 3 (some .boolean))) (wks q (.initialized SEq.yN.cls :: SEq.site))
theorem movedEq {Z s : State} {a0 args : Array Value} (hZ : Z.Warmed39 s.vm) (hw : ∀ d ∈ wordsEq, d.before a0 Z = true) : ∀ d ∈ wordsEq, d.before args s = true := fun d hd => by
  have t : ∀ d ∈ wordsEq, (d.onTables && d.keepsFace) = true := by decide +kernel
  exact RoadKit.mv hZ (hw d hd) (t d hd)
/-- the road's facts of a String, as the laws ask it -/
theorem txt_of {Z U : State} {a0 : Array Value} {kI : Nat} (wi : (Jvm.Cond.instantiable ST kI).before a0 Z = true) (al : Z.vm.Alike U.vm) {x t : Addr} {kb : ClassId} {cs : List Int32} {cd N2 : Int32} {vs : List Value} (E : RoadKit.Exa Z U.heap x ST) (V : RoadKit.Fld Z U.heap x ST "value" "[B" (.ref t)) (C : RoadKit.Fld Z U.heap x ST "coder" "B" (.int cd)) (K : RoadKit.Arv Z U.heap t kb .byte N2 vs (.int 0)) (hc : CodA cs cd N2 vs) (hb : ∀ c ∈ cs, ¬ c < 0 ∧ ¬ (65535 : Int32) < c) (l2 : cs.length ≤ 4000) :
    ∃ A, Txt x t A cd cs.length (fun j => cs.getD j 0) U := by
  obtain ⟨A, K1, K2, K3, K4, K5, K6⟩ := K
  have hcod := hc.cod (by omega) K3 K5
  obtain ⟨D, fV, fC, hB, F1, F2, g1, g2, -, -⟩ := strObj wi al E V C
  exact ⟨A, ⟨_, hB.2.2.1, D, hB.1, rfl, by cases q : D.vm <;> first | rfl | exact absurd q (hB.2.1.2 _)⟩, Has.of hB F1 g1, Has.of hB F2 g2, ⟨K1.1, State.isArrayOf_alike al K1.2.1, K1.2.2, by rcases hcod with ⟨-, q, -⟩ | ⟨-, q, -⟩ <;> omega⟩, hcod, fun j hj => by
    have e : cs.getD j 0 = cs[j] := by simp [List.getD_eq_getElem?_getD, hj]
    show ¬ cs.getD j 0 < 0 ∧ ¬ 65535 < cs.getD j 0
    rw [e]; exact hb _ (List.getElem_mem _)⟩
theorem same_list (cs ds : List Int32) : SameT cs.length (fun j => cs.getD j 0) ds.length (fun j => ds.getD j 0) ↔ cs = ds := by
  constructor
  · rintro ⟨e, q⟩
    refine List.ext_getElem e fun j h1 h2 => ?_
    have := q j h1
    simpa [List.getD_eq_getElem?_getD, h1, h2] using this
  · rintro rfl
    exact ⟨rfl, fun _ _ => rfl⟩
/-- **equals(Object) OF TWO SUCH STRINGS**: 1 just where the chars are the same -/
theorem eqW {p : Program} {l : Launch} {e : Env} {R : Room} {s : State} {args : Array Value} {below : List Frame} {len W : Nat} {Z : State} {a0 : Array Value} {h : Heap} (hZ : Z.Warmed39 s.vm) (hw : ∀ d ∈ wordsEq, d.before a0 Z = true) {kI : Nat} (wi : (Jvm.Cond.instantiable ST kI).before a0 Z = true)
    {x t : Addr} {kb : ClassId} {cs : List Int32} {cd N2 : Int32} {vs : List Value} (E : RoadKit.Exa Z h x ST) (V : RoadKit.Fld Z h x ST "value" "[B" (.ref t)) (C : RoadKit.Fld Z h x ST "coder" "B" (.int cd)) (K : RoadKit.Arv Z h t kb .byte N2 vs (.int 0)) (hc : CodA cs cd N2 vs) (hb : ∀ c ∈ cs, ¬ c < 0 ∧ ¬ (65535 : Int32) < c) (l2 : cs.length ≤ 4000)
    {y t' : Addr} {kb' : ClassId} {ds : List Int32} {cd' N2' : Int32} {vs' : List Value} (E' : RoadKit.Exa Z h y ST) (V' : RoadKit.Fld Z h y ST "value" "[B" (.ref t')) (C' : RoadKit.Fld Z h y ST "coder" "B" (.int cd')) (K' : RoadKit.Arv Z h t' kb' .byte N2' vs' (.int 0)) (hc' : CodA ds cd' N2' vs') (hb' : ∀ c ∈ ds, ¬ c < 0 ∧ ¬ (65535 : Int32) < c) (l2' : ds.length ≤ 4000)
    {z : Int32} (S : RoadKit.Sta Z h ST "COMPACT_STRINGS" "Z" (.int z)) (hz : ¬ z = 0) (hfr : 2 ≤ R.frames) (hlo : W + 28 ≤ R.locals) :
    Back l R p e below s args (⟨"java/lang/String", "equals", "(Ljava/lang/Object;)Z"⟩ : MethodName) len W (fun P a => a = #[.ref x, .ref y] ∧ P.U.heap = h ∧ P.cells + 0 ≤ R.cells ∧ P.slots + 0 ≤ R.slots)
      (fun P _ v B => ∃ L, (((v = some (.int 1) ∧ cs = ds) ∨ (v = some (.int 0) ∧ ¬ cs = ds)) ∧ L = [] ∧ B.U.heap = h) ∧ B.locs = P.locs ++ L ∧ B.cells = P.cells + 0 ∧ B.slots = P.slots + 0) := by
  intro m meth c P g ig mk a X hg hsize hdg hW hn hp'
  obtain ⟨rfl, rfl, r1, r2⟩ := hp'
  have al : Z.vm.Alike P.U.vm := hZ.alike.trans X.warmed.alike
  obtain ⟨A, hx⟩ := txt_of wi al E V C K hc hb l2
  obtain ⟨A', hy⟩ := txt_of wi al E' V' C' K' hc' hb' l2'
  obtain ⟨v, B, X', ⟨⟨w, hv, hh, hq⟩, hl, hk, hs⟩, st⟩ := SEq.pays x t A cd cs.length (fun j => cs.getD j 0) y t' A' cd' ds.length (fun j => ds.getD j 0) z (tabEq_of (movedEq hZ hw)) hfr hlo m meth c P g ig mk _ X hg hsize hdg hW hn ⟨r1, r2, rfl, hx, hy, sta_is al S, hz⟩
  refine ⟨v, B, X', ⟨[], ⟨?_, rfl, hh⟩, hl, hk, hs⟩, st⟩
  rcases hq with ⟨rfl, q⟩ | ⟨rfl, q⟩
  · exact Or.inl ⟨hv, (same_list cs ds).mp q⟩
  · exact Or.inr ⟨hv, fun e => q ((same_list cs ds).mpr e)⟩
end StrChars.Road
namespace StrChars.Road
open Jvm Sem ClassFile Op Lib Jvm.Stand Jvm.Free Jvm.Free.XT
open Jvm.Lib.Cold (StaticIs)
/-- what backV says of its String, as the contracts of this text ask it: cs's low bytes, coder 0 -/
theorem codOf {cs : List Int32} {n : Nat} (hn : cs.length = n) (hb : ∀ c ∈ cs, ¬ 255 < c) : CodA cs 0 (Int32.ofNat n) ((cs.map lo8).map Value.int) := Or.inl ⟨rfl, by rw [hn], by simp [List.map_map, Function.comp_def], hb⟩
end StrChars.Road
end Jvm.Pilot.@@N@@
namespace Jvm.Pilot.@@N@@
open Jvm Jvm.ClassFile Sem Op Lib Jvm.Free Jvm.Stand Jvm.LawKit Jvm.RoadKit Bundle Jvm.Pilot.@@N@@.Jvm.D
section Own
variable {p : Program} {l : Launch} {e : Env} {R : Room} {s : State} {m : MethodId} {args : Array Value} {below : List Frame} {meth : Method} {c : Code} {T : State} {locs : List Loc} {cells slots : Nat} {Z : State} {a0 : Array Value} {h : Heap}
theorem wd (hw : ∀ d ∈ tables_1, d.before a0 Z = true) (k : Nat) {d : Jvm.Cond} (q : tables_1[k]? = some d) : d.before a0 Z = true := hw d (List.mem_of_getElem? q)
theorem old_sz {n0 : Nat} (O : Old Z n0 h) : n0 ≤ h.size := O.1 ▸ O.2.1
/-- what is left to show from the state t on -/
def Run (p : Program) (e : Env) (below : List Frame) (A : Outcome → State → Prop) (t : State) : Prop := ∃ u o, Steps p.tables e below t u ∧ u.status = .running ∧ Ended u below o ∧ A o u
theorem go {A : Outcome → State → Prop} {t t' : State} (st : ∀ u, Steps p.tables e below t' u → Steps p.tables e below t u) (k : Run p e below A t') : Run p e below A t := by
  obtain ⟨u, o, k1, k2⟩ := k
  exact ⟨u, o, st u k1, k2⟩
theorem goT {A : Outcome → State → Prop} {t t' : State} (st : Steps p.tables e below t t') (k : Run p e below A t') : Run p e below A t := by
  obtain ⟨u, o, k1, k2⟩ := k
  exact ⟨u, o, st.trans k1, k2⟩
theorem goTsw {A : Outcome → State → Prop} (h : At T m c below) (hx : p.tables.exec = Jvm.exec) {pc pc' len : Nat} {Ls : Array Slot} {rest : List Value} {i : Int32} {dflt low high o : Int} {offs : Array Int} (hd : decode c.code pc = .ok (.tableswitch dflt low high offs, len)) (hin : ¬ (i.toInt < low ∨ i.toInt > high)) (hoff : offs[(i.toInt - low).toNat]? = some o) (ho : 0 ≤ (pc : Int) + o) (hp : ((pc : Int) + o).toNat = pc')
    (k : Run p e below A (T.setTop (mkF m pc' Ls rest))) : Run p e below A (T.setTop (mkF m pc Ls (.int i :: rest))) := go (fun _ => XS.tswIn (g := mkF m pc Ls (.int i :: rest)) h hx rfl (pc0 := pc) rfl hd rfl hin hoff ho hp) k
theorem goTswD {A : Outcome → State → Prop} (h : At T m c below) (hx : p.tables.exec = Jvm.exec) {pc pc' len : Nat} {Ls : Array Slot} {rest : List Value} {i : Int32} {dflt low high : Int} {offs : Array Int} (hd : decode c.code pc = .ok (.tableswitch dflt low high offs, len)) (hout : i.toInt < low ∨ i.toInt > high) (ho : 0 ≤ (pc : Int) + dflt) (hp : ((pc : Int) + dflt).toNat = pc')
    (k : Run p e below A (T.setTop (mkF m pc' Ls rest))) : Run p e below A (T.setTop (mkF m pc Ls (.int i :: rest))) := go (fun _ => XS.tswOut (g := mkF m pc Ls (.int i :: rest)) h hx rfl (pc0 := pc) rfl hd rfl hout ho hp) k
def Ends (s : State) (Q : Option Value → Heap → List Loc → Prop) (k n : Nat) (o : Outcome) (U : State) : Prop := ∃ v L, o = .returned v ∧ Q v U.heap L ∧ FrameEnd s o U L k n
def Meets (l : Launch) (y : MethodName) (bytes : ByteArray) (maxL : Nat) (ret : Option FieldType) (ws : List Jvm.Cond) (rm : Room) (Z : State) (as' : Array Value) (h0 : Heap) (Q : Option Value → Heap → List Loc → Prop) (k n : Nat) : Prop :=
  MetFree l y (head1 (Jvm.Cond.code y bytes maxL ret :: ws) rm) (fun a U => a = as' ∧ Z.Warmed39 U.vm ∧ U.heap = h0) (fun _ _ _ _ _ => True) (fun _ U o U' => ∃ v L, o = .returned v ∧ Q v U'.heap L ∧ FrameEnd U o U' L k n)
theorem enter {y : MethodName} {bytes : ByteArray} {maxL : Nat} {ret : Option FieldType} {ws : List Jvm.Cond} {rm : Room} {as' : Array Value} {h0 : Heap} {Q : Option Value → Heap → List Loc → Prop} {k n : Nat} {Ls : Array Slot} (pf : plainFor y = true) (ef : ∀ m, entryFrame m as' maxL = mkF m 0 Ls [])
    (body : ∀ (p : Program) (e : Env) (s : State) (m : MethodId) (below : List Frame) (meth : Method) (c : Code) (T : State), p.tables.exec = Jvm.exec → c.code = bytes → c.maxLocals = maxL → s.vm.findClass y.cls = some m.cls → meth.name = y.name → meth.sig.returnType = ret → meth.locks = false → Z.Warmed39 s.vm → Stand p l e rm s m as' below meth c T [] 0 0 → T.heap = h0 → Run p e below (Ends s Q k n) (T.setTop (mkF m 0 Ls []))) :
    Meets l y bytes maxL ret ws rm Z as' h0 Q k n := by
  refine MetFree.of_bodySF pf hisR ?_
  intro p e s m args below meth c s₁ Bd hml0 hP hK
  obtain ⟨rfl, hZ, hh⟩ := hP
  obtain ⟨u, o, k1, k2, k3, k4⟩ := body p e s m below meth c s₁ Bd.exec Bd.bytes hml0 (findClass_of_methodNamed Bd.named) (name_of_methodNamed Bd.named Bd.method).1 Bd.returns (BodyLoose.notSynchronized Bd) hZ (Stand.of_body Bd) (by rw [← hh, Bd.state]; rfl)
  exact ⟨u, o, castTop (ef m) k1, k2, k3, k4⟩
theorem smono (X : Stand p l e R s m args below meth c T locs cells slots) {k n : Nat} (hk : cells ≤ k) (hn : slots ≤ n) : Stand p l e R s m args below meth c T locs k n :=
  ⟨X.admits, X.cas, X.clock, X.frames, X.room, X.hears, X.method, X.code, X.here, X.tail, X.warmed, X.limits, X.bytes, X.same.mono hk hn⟩
theorem retI (X : Stand p l e R s m args below meth c T locs cells slots) (hx : p.tables.exec = Jvm.exec) {pc : Nat} {Ls : Array Slot} {z : Int32} {rest : List Value} (hret : meth.sig.returnType = some .int) (hd : decode c.code pc = .ok (.ireturn, 1)) {fs : List Frame}
    (hl : ∀ (f : JFrame) (acts : List Action), f.method = m → f.locked = none → f.entered = [] → (doReturn e (T.setTop f) acts (some (.int z))).1 = T.setFrames fs) : Steps p.tables e below (T.setTop (mkF m pc Ls (.int z :: rest))) (T.setFrames fs) :=
  retOut X hx hret rfl (Or.inl ⟨rfl, Or.inl rfl, _, rfl⟩) hd hl
theorem endI (X : Stand p l e R s m args below meth c T locs cells slots) (hx : p.tables.exec = Jvm.exec) (hlk : meth.locks = false) {Q : Option Value → Heap → List Loc → Prop} {k n pc : Nat} {Ls : Array Slot} {z : Int32} {rest : List Value} (hret : meth.sig.returnType = some .int) (hd : decode c.code pc = .ok (.ireturn, 1)) (hq : Q (some (.int z)) T.heap locs) (hk : cells ≤ k) (hn : slots ≤ n) :
    Run p e below (Ends s Q k n) (T.setTop (mkF m pc Ls (.int z :: rest))) := by
  obtain ⟨fs, hr, hrun, hended, hW, hsame⟩ := X.leave (v := some (.int z)) (fun h => by rw [hret] at h; cases h) hlk
  exact ⟨_, _, retI X hx hret hd hr, hrun, hended, _, _, rfl, hq, ⟨_, rfl⟩, hW, hsame.mono hk hn⟩
theorem endN (X : Stand p l e R s m args below meth c T locs cells slots) (hx : p.tables.exec = Jvm.exec) (hlk : meth.locks = false) {Q : Option Value → Heap → List Loc → Prop} {k n pc : Nat} {Ls : Array Slot} {z : Int32} {rest : List Value} {t : FieldType} (hret : meth.sig.returnType = some t) (ht : t = .boolean ∨ t = .byte ∨ t = .char ∨ t = .short) (hd : decode c.code pc = .ok (.ireturn, 1)) (hq : Q (some (.int (nar t z))) T.heap locs) (hk : cells ≤ k) (hn : slots ≤ n) :
    Run p e below (Ends s Q k n) (T.setTop (mkF m pc Ls (.int z :: rest))) := by
  obtain ⟨fs, hr, hrun, hended, hW, hsame⟩ := X.leave (v := some (.int (nar t z))) (fun h => by rw [hret] at h; cases h) hlk
  exact ⟨_, _, retN X hx hret ht hd hr, hrun, hended, _, _, rfl, hq, ⟨_, rfl⟩, hW, hsame.mono hk hn⟩
theorem endA (X : Stand p l e R s m args below meth c T locs cells slots) (hx : p.tables.exec = Jvm.exec) (hlk : meth.locks = false) {Q : Option Value → Heap → List Loc → Prop} {k n pc : Nat} {Ls : Array Slot} {w : Value} {rest : List Value} {t : FieldType} (hret : meth.sig.returnType = some t) (ht : t.isReference = true) (hv : w.isRef = true) (hd : decode c.code pc = .ok (.areturn, 1)) (hq : Q (some w) T.heap locs) (hk : cells ≤ k) (hn : slots ≤ n) :
    Run p e below (Ends s Q k n) (T.setTop (mkF m pc Ls (w :: rest))) := by
  obtain ⟨fs, hr, hrun, hended, hW, hsame⟩ := X.leave (v := some w) (fun h => by rw [hret] at h; cases h) hlk
  have hn' : narrow t w = w := by cases w <;> first | (cases hv; done) | (cases t <;> first | rfl | (cases ht; done))
  exact ⟨_, _, retOut X hx hret hn' (Or.inr (Or.inr (Or.inr (Or.inr ⟨rfl, ht, hv⟩)))) hd hr, hrun, hended, _, _, rfl, hq, ⟨_, rfl⟩, hW, hsame.mono hk hn⟩
theorem endJ (X : Stand p l e R s m args below meth c T locs cells slots) (hx : p.tables.exec = Jvm.exec) (hlk : meth.locks = false) {Q : Option Value → Heap → List Loc → Prop} {k n pc : Nat} {Ls : Array Slot} {z : Int64} {rest : List Value} (hret : meth.sig.returnType = some .long) (hd : decode c.code pc = .ok (.lreturn, 1)) (hq : Q (some (.long z)) T.heap locs) (hk : cells ≤ k) (hn : slots ≤ n) :
    Run p e below (Ends s Q k n) (T.setTop (mkF m pc Ls (.long z :: rest))) := by
  obtain ⟨fs, hr, hrun, hended, hW, hsame⟩ := X.leave (v := some (.long z)) (fun h => by rw [hret] at h; cases h) hlk
  exact ⟨_, _, retOut X hx hret rfl (Or.inr (Or.inl ⟨rfl, rfl, _, rfl⟩)) hd hr, hrun, hended, _, _, rfl, hq, ⟨_, rfl⟩, hW, hsame.mono hk hn⟩
theorem endD (X : Stand p l e R s m args below meth c T locs cells slots) (hx : p.tables.exec = Jvm.exec) (hlk : meth.locks = false) {Q : Option Value → Heap → List Loc → Prop} {k n pc : Nat} {Ls : Array Slot} {z : UInt64} {rest : List Value} (hret : meth.sig.returnType = some .double) (hd : decode c.code pc = .ok (.dreturn, 1)) (hq : Q (some (.double z)) T.heap locs) (hk : cells ≤ k) (hn : slots ≤ n) :
    Run p e below (Ends s Q k n) (T.setTop (mkF m pc Ls (.double z :: rest))) := by
  obtain ⟨fs, hr, hrun, hended, hW, hsame⟩ := X.leave (v := some (.double z)) (fun h => by rw [hret] at h; cases h) hlk
  exact ⟨_, _, retOut X hx hret rfl (Or.inr (Or.inr (Or.inl ⟨rfl, rfl, _, rfl⟩))) hd hr, hrun, hended, _, _, rfl, hq, ⟨_, rfl⟩, hW, hsame.mono hk hn⟩
theorem endV (X : Stand p l e R s m args below meth c T locs cells slots) (hx : p.tables.exec = Jvm.exec) (hlk : meth.locks = false) {Q : Option Value → Heap → List Loc → Prop} {k n pc : Nat} {Ls : Array Slot} (hret : meth.sig.returnType = none) (hd : decode c.code pc = .ok (.return_, 1)) (hq : Q none T.heap locs) (hk : cells ≤ k) (hn : slots ≤ n) :
    Run p e below (Ends s Q k n) (T.setTop (mkF m pc Ls [])) := by
  obtain ⟨fs, hr, hrun, hended, hW, hsame⟩ := X.leave (v := none) (fun _ => rfl) hlk
  exact ⟨_, _, X.returnOut hx hret hd hr, hrun, hended, _, _, rfl, hq, ⟨_, rfl⟩, hW, hsame.mono hk hn⟩
abbrev Pay (l : Launch) (R : Room) (p : Program) (e : Env) (below : List Frame) (s : State) (args : Array Value) (y : MethodName) (len W : Nat) (as' : Array Value) (h : Heap) (Q : Option Value → Heap → List Loc → Prop) (rc rs : Nat) : Prop :=
  Back l R p e below s args y len W (fun A a => a = as' ∧ A.U.heap = h ∧ A.cells + rc ≤ R.cells ∧ A.slots + rs ≤ R.slots) (fun A _ v B => ∃ L, Q v B.U.heap L ∧ B.locs = A.locs ++ L ∧ B.cells = A.cells + rc ∧ B.slots = A.slots + rs)
theorem Pay.more {y : MethodName} {len W rc rs rs' : Nat} {as' : Array Value} {Q : Option Value → Heap → List Loc → Prop} (hK : Pay l R p e below s args y len W as' h Q rc rs) (q : rs ≤ rs') : Pay l R p e below s args y len W as' h Q rc rs' := fun m meth c A g ig mk a X hg hsz hd hW hn hp => by
  obtain ⟨v, B, X', ⟨L, q1, q2, q3, q4⟩, st⟩ := hK m meth c A g ig mk a X hg hsz hd hW hn ⟨hp.1, hp.2.1, hp.2.2.1, Nat.le_trans (Nat.add_le_add_left q _) hp.2.2.2⟩
  exact ⟨v, (B.U, B.locs, B.cells, A.slots + rs'), smono X' (Nat.le_refl _) (by rw [q4]; exact Nat.add_le_add_left q _), ⟨L, q1, q2, q3, rfl⟩, st⟩
theorem narR {v : Value} {C : String} (h : v.isRef = true) : narrow (.object C) v = v := by cases v <;> first | rfl | (cases h; done)
theorem catR {v : Value} (h : v.isRef = true) : v.category = 1 := by cases v <;> first | rfl | (cases h; done)
theorem fitR {v : Value} {C : String} (h : v.isRef = true) : fits (.object C) v = true := by cases v <;> first | rfl | (cases h; done)
theorem callSt (X : Stand p l e R s m args below meth c T locs cells slots) (hx : p.tables.exec = Jvm.exec) (hZ : Z.Warmed39 s.vm) {own : String} {index : Nat} {y : MethodName} {bytes : ByteArray} {maxL : Nat} {ret : Option FieldType} {rm : Room} {Q : Option Value → Heap → List Loc → Prop} (hown : s.vm.findClass own = some m.cls)
    (w1 : (Jvm.Cond.methodLink own index y).before a0 Z = true) (w2 : (Jvm.Cond.static y).before a0 Z = true) (w3 : (Jvm.Cond.initialized y.cls).before a0 Z = true) (w4 : (Jvm.Cond.code y bytes maxL ret).before a0 Z = true) (hy : y.cls ≠ "java/lang/invoke/MethodHandle" ∧ y.cls ≠ "java/lang/invoke/VarHandle") (eT : T.heap = h) {argsL rest : List Value}
    (hM : Meets l y bytes maxL ret [] rm Z argsL.toArray h Q rm.cells rm.slots) {W : Nat} (hf : rm.frames + 1 ≤ R.frames) (hl : W + (maxL + 11) + rm.locals ≤ R.locals) (hc : cells + rm.cells ≤ R.cells) (hn : slots + rm.slots ≤ R.slots)
    {pc : Nat} {Ls : Array Slot} {st : List Value} (hsize : Ls.size = c.maxLocals) (hlen : ∀ sig, parseMethodDescriptor y.desc = some sig → argsL.length = sig.parameters.length) (hst : st = argsL.reverse ++ rest) (hW : (rest.map fun v => v.category).sum ≤ W) (hd : decode c.code pc = .ok (.invokestatic index, 3)) {A : Outcome → State → Prop}
    (kk : ∀ (v : Option Value) (T' : State) (L : List Loc) (h' : Heap), Stand p l e R s m args below meth c T' (locs ++ L) (cells + rm.cells) (slots + rm.slots) → T'.heap = h' → Q v h' L → Run p e below A (T'.setTop (mkF m (pc + 3) Ls (v.toList ++ rest)))) : Run p e below A (T.setTop (mkF m pc Ls st)) := by
  obtain ⟨v, _, ⟨T18, L18, k18, n18⟩, -, X18, ⟨Lc18, hQ18, l18, y18, z18⟩, st18⟩ := Jvm.LawKit.callS X hx hown (mvT hZ w1) (mvT hZ w2) (mvT hZ w3) (mvT hZ w4) hy (backOf (W := W) hM hZ w4 w3 hf hl) (g := mkF m pc Ls st) rfl hsize (argsL := argsL) (rest := rest) hlen hst (by show 2 * 0 + _ ≤ _; omega) hd (fun _ _ => ⟨rfl, eT, hc, hn⟩)
  dsimp only [Pt.U, Pt.locs, Pt.cells, Pt.slots] at X18 l18 y18 z18 st18 hQ18
  subst l18 y18 z18
  exact go st18 (kk v _ _ _ X18 rfl hQ18)
theorem callVi (X : Stand p l e R s m args below meth c T locs cells slots) (hx : p.tables.exec = Jvm.exec) (hZ : Z.Warmed39 s.vm) {own C : String} {index : Nat} {y z : MethodName} {bytes : ByteArray} {maxL : Nat} {ret : Option FieldType} {rm : Room} {Q : Option Value → Heap → List Loc → Prop} (hown : s.vm.findClass own = some m.cls)
    (w1 : (Jvm.Cond.methodLink own index y).before a0 Z = true) (w2 : (Jvm.Cond.declares y).before a0 Z = true) (nf : NotFace s y) (w5 : (Jvm.Cond.selects C y z).before a0 Z = true) (w6 : (Jvm.Cond.instanceMethod z).before a0 Z = true) (w4 : (Jvm.Cond.code z bytes maxL ret).before a0 Z = true) (w3 : (Jvm.Cond.initialized z.cls).before a0 Z = true) (hy : y.cls ≠ "java/lang/invoke/MethodHandle" ∧ y.cls ≠ "java/lang/invoke/VarHandle") (eT : T.heap = h) {a : Addr} (E : Exa Z h a C) {argsL rest : List Value}
    (hM : Meets l z bytes maxL ret [] rm Z (.ref a :: argsL).toArray h Q rm.cells rm.slots) {W : Nat} (hf : rm.frames + 1 ≤ R.frames) (hl : W + (maxL + 11) + rm.locals ≤ R.locals) (hc : cells + rm.cells ≤ R.cells) (hn : slots + rm.slots ≤ R.slots)
    {pc : Nat} {Ls : Array Slot} {st : List Value} (hsize : Ls.size = c.maxLocals) (hlen : ∀ sig, parseMethodDescriptor y.desc = some sig → argsL.length = sig.parameters.length) (hst : st = argsL.reverse ++ .ref a :: rest) (hW : (rest.map fun v => v.category).sum ≤ W) (hd : decode c.code pc = .ok (.invokevirtual index, 3)) {A : Outcome → State → Prop}
    (kk : ∀ (v : Option Value) (T' : State) (L : List Loc) (h' : Heap), Stand p l e R s m args below meth c T' (locs ++ L) (cells + rm.cells) (slots + rm.slots) → T'.heap = h' → Q v h' L → Run p e below A (T'.setTop (mkF m (pc + 3) Ls (v.toList ++ rest)))) : Run p e below A (T.setTop (mkF m pc Ls st)) := by
  obtain ⟨cq, kq, qa, qb, qc⟩ := isOf hZ eT E
  obtain ⟨v, _, ⟨T18, L18, k18, n18⟩, -, X18, ⟨Lc18, hQ18, l18, y18, z18⟩, st18⟩ := X.virtualBack hx (y := y) (z := z) hown (mvT hZ w1) (mvT hZ w2) nf (mvT hZ w5) (mvT hZ w6) hy (backOf (W := W) hM hZ w4 w3 hf hl) qa qc (g := mkF m pc Ls st) rfl hsize (Steps.refl _) (argsL := argsL) (rest := rest) hlen hst (by show 2 * 0 + _ ≤ _; omega) hd (fun _ _ => ⟨rfl, eT, hc, hn⟩)
  dsimp only [Pt.U, Pt.locs, Pt.cells, Pt.slots] at X18 l18 y18 z18 st18 hQ18
  subst l18 y18 z18
  exact goT st18 (kk v _ _ _ X18 rfl hQ18)
theorem callSp (X : Stand p l e R s m args below meth c T locs cells slots) (hx : p.tables.exec = Jvm.exec) (hZ : Z.Warmed39 s.vm) {own : String} {index : Nat} {y : MethodName} (hy1 : y.name = "<init>") {bytes : ByteArray} {maxL : Nat} {rm : Room} {Q : Option Value → Heap → List Loc → Prop} (hown : s.vm.findClass own = some m.cls)
    (w1 : (Jvm.Cond.methodLink own index y).before a0 Z = true) (w6 : (Jvm.Cond.instanceMethod y).before a0 Z = true) (w4 : (Jvm.Cond.code y bytes maxL none).before a0 Z = true) (w3 : (Jvm.Cond.initialized y.cls).before a0 Z = true) (hy : y.cls ≠ "java/lang/invoke/MethodHandle" ∧ y.cls ≠ "java/lang/invoke/VarHandle") (eT : T.heap = h) {a : Addr} {argsL rest : List Value}
    (hM : Meets l y bytes maxL none [] rm Z (.ref a :: argsL).toArray h Q rm.cells rm.slots) {W : Nat} (hf : rm.frames + 1 ≤ R.frames) (hl : W + (maxL + 11) + rm.locals ≤ R.locals) (hc : cells + rm.cells ≤ R.cells) (hn : slots + rm.slots ≤ R.slots)
    {pc : Nat} {Ls : Array Slot} {st : List Value} (hsize : Ls.size = c.maxLocals) (hlen : ∀ sig, parseMethodDescriptor y.desc = some sig → argsL.length = sig.parameters.length) (hst : st = argsL.reverse ++ .ref a :: rest) (hW : (rest.map fun v => v.category).sum ≤ W) (hd : decode c.code pc = .ok (.invokespecial index, 3)) {A : Outcome → State → Prop}
    (kk : ∀ (v : Option Value) (T' : State) (L : List Loc) (h' : Heap), Stand p l e R s m args below meth c T' (locs ++ L) (cells + rm.cells) (slots + rm.slots) → T'.heap = h' → Q v h' L → Run p e below A (T'.setTop (mkF m (pc + 3) Ls (v.toList ++ rest)))) : Run p e below A (T.setTop (mkF m pc Ls st)) := by
  obtain ⟨v, _, ⟨T18, L18, k18, n18⟩, -, X18, ⟨Lc18, hQ18, l18, y18, z18⟩, st18⟩ := X.specialBack hx (y := y) hy1 hown (mvT hZ w1) (mvT hZ w6) (mvT hZ w4) hy (backOf (W := W) hM hZ w4 w3 hf hl) (g := mkF m pc Ls st) rfl hsize (Steps.refl _) (a := a) (argsL := argsL) (rest := rest) hlen hst (by show 2 * 0 + _ ≤ _; omega) hd (fun _ _ => ⟨rfl, eT, hc, hn⟩)
  dsimp only [Pt.U, Pt.locs, Pt.cells, Pt.slots] at X18 l18 y18 z18 st18 hQ18
  subst l18 y18 z18
  exact goT st18 (kk v _ _ _ X18 rfl hQ18)
theorem callSpN (X : Stand p l e R s m args below meth c T locs cells slots) (hx : p.tables.exec = Jvm.exec) (hZ : Z.Warmed39 s.vm) {own host : String} {index : Nat} {y : MethodName} (hy1 : y.name = "<init>") {bytes : ByteArray} {maxL : Nat} {rm : Room} {Q : Option Value → Heap → List Loc → Prop} (hown : s.vm.findClass own = some m.cls)
    (w1 : (Jvm.Cond.methodLinkNest own index y host).before a0 Z = true) (w6 : (Jvm.Cond.instanceMethod y).before a0 Z = true) (w4 : (Jvm.Cond.code y bytes maxL none).before a0 Z = true) (w3 : (Jvm.Cond.initialized y.cls).before a0 Z = true) (hy : y.cls ≠ "java/lang/invoke/MethodHandle" ∧ y.cls ≠ "java/lang/invoke/VarHandle") (eT : T.heap = h) {a : Addr} {argsL rest : List Value}
    (hM : Meets l y bytes maxL none [] rm Z (.ref a :: argsL).toArray h Q rm.cells rm.slots) {W : Nat} (hf : rm.frames + 1 ≤ R.frames) (hl : W + (maxL + 11) + rm.locals ≤ R.locals) (hc : cells + rm.cells ≤ R.cells) (hn : slots + rm.slots ≤ R.slots)
    {pc : Nat} {Ls : Array Slot} {st : List Value} (hsize : Ls.size = c.maxLocals) (hlen : ∀ sig, parseMethodDescriptor y.desc = some sig → argsL.length = sig.parameters.length) (hst : st = argsL.reverse ++ .ref a :: rest) (hW : (rest.map fun v => v.category).sum ≤ W) (hd : decode c.code pc = .ok (.invokespecial index, 3)) {A : Outcome → State → Prop}
    (kk : ∀ (v : Option Value) (T' : State) (L : List Loc) (h' : Heap), Stand p l e R s m args below meth c T' (locs ++ L) (cells + rm.cells) (slots + rm.slots) → T'.heap = h' → Q v h' L → Run p e below A (T'.setTop (mkF m (pc + 3) Ls (v.toList ++ rest)))) : Run p e below A (T.setTop (mkF m pc Ls st)) := by
  obtain ⟨v, _, ⟨T18, L18, k18, n18⟩, -, X18, ⟨Lc18, hQ18, l18, y18, z18⟩, st18⟩ := X.specialBackNest hx (y := y) hy1 hown (Cond.methodLinkNest_wide hZ w1 :) (mvT hZ w6) (mvT hZ w4) hy (backOf (W := W) hM hZ w4 w3 hf hl) (g := mkF m pc Ls st) rfl hsize (Steps.refl _) (a := a) (argsL := argsL) (rest := rest) hlen hst (by show 2 * 0 + _ ≤ _; omega) hd (fun _ _ => ⟨rfl, eT, hc, hn⟩)
  dsimp only [Pt.U, Pt.locs, Pt.cells, Pt.slots] at X18 l18 y18 z18 st18 hQ18
  subst l18 y18 z18
  exact goT st18 (kk v _ _ _ X18 rfl hQ18)
theorem callPr (X : Stand p l e R s m args below meth c T locs cells slots) (hx : p.tables.exec = Jvm.exec) (hZ : Z.Warmed39 s.vm) {own C : String} {index : Nat} {y : MethodName} {bytes : ByteArray} {maxL : Nat} {ret : Option FieldType} {rm : Room} {Q : Option Value → Heap → List Loc → Prop} (hown : s.vm.findClass own = some m.cls)
    (w1 : (Jvm.Cond.methodLink own index y).before a0 Z = true) (w2 : (Jvm.Cond.privateMethod y).before a0 Z = true) (w5 : (Jvm.Cond.selects y.cls y y).before a0 Z = true) (w6 : (Jvm.Cond.instanceMethod y).before a0 Z = true) (w4 : (Jvm.Cond.code y bytes maxL ret).before a0 Z = true) (w3 : (Jvm.Cond.initialized y.cls).before a0 Z = true) (hy : y.cls ≠ "java/lang/invoke/MethodHandle" ∧ y.cls ≠ "java/lang/invoke/VarHandle") (eT : T.heap = h) {a : Addr} (E : Exa Z h a C) {argsL rest : List Value}
    (hM : Meets l y bytes maxL ret [] rm Z (.ref a :: argsL).toArray h Q rm.cells rm.slots) {W : Nat} (hf : rm.frames + 1 ≤ R.frames) (hl : W + (maxL + 11) + rm.locals ≤ R.locals) (hc : cells + rm.cells ≤ R.cells) (hn : slots + rm.slots ≤ R.slots)
    {pc : Nat} {Ls : Array Slot} {st : List Value} (hsize : Ls.size = c.maxLocals) (hlen : ∀ sig, parseMethodDescriptor y.desc = some sig → argsL.length = sig.parameters.length) (hst : st = argsL.reverse ++ .ref a :: rest) (hW : (rest.map fun v => v.category).sum ≤ W) (hd : decode c.code pc = .ok (.invokevirtual index, 3)) {A : Outcome → State → Prop}
    (kk : ∀ (v : Option Value) (T' : State) (L : List Loc) (h' : Heap), Stand p l e R s m args below meth c T' (locs ++ L) (cells + rm.cells) (slots + rm.slots) → T'.heap = h' → Q v h' L → Run p e below A (T'.setTop (mkF m (pc + 3) Ls (v.toList ++ rest)))) : Run p e below A (T.setTop (mkF m pc Ls st)) := by
  obtain ⟨cl, hcl, hob⟩ := Exa.cell E
  obtain ⟨v, _, ⟨T18, L18, k18, n18⟩, -, X18, ⟨Lc18, hQ18, l18, y18, z18⟩, st18⟩ := X.privateBack hx (y := y) hown (mvT hZ w1) (mvT hZ w6) (mvT hZ w5) (Cond.privateMethod_at (mvP hZ w2 (args := #[]))) (mvT hZ w4) hy (backOf (W := W) hM hZ w4 w3 hf hl) (g := mkF m pc Ls st) rfl hsize (Steps.refl _) (a := a) (by rw [eT]; exact hcl) hob (argsL := argsL) (rest := rest) hlen hst (by show 2 * 0 + _ ≤ _; omega) hd (fun _ _ => ⟨rfl, eT, hc, hn⟩)
  dsimp only [Pt.U, Pt.locs, Pt.cells, Pt.slots] at X18 l18 y18 z18 st18 hQ18
  subst l18 y18 z18
  exact goT st18 (kk v _ _ _ X18 rfl hQ18)
theorem callIf (X : Stand p l e R s m args below meth c T locs cells slots) (hx : p.tables.exec = Jvm.exec) (hZ : Z.Warmed39 s.vm) {own C : String} {index count : Nat} {y z : MethodName} {bytes : ByteArray} {maxL : Nat} {ret : Option FieldType} {rm : Room} {Q : Option Value → Heap → List Loc → Prop} (hown : s.vm.findClass own = some m.cls)
    (w1 : (Jvm.Cond.methodLink own index y).before a0 Z = true) (w2 : (Jvm.Cond.declares y).before a0 Z = true) (w7 : (Jvm.Cond.interfaceMethod y.cls y.cls y.name y.desc).before a0 Z = true) (k7 : ((Jvm.Cond.interfaceMethod y.cls y.cls y.name y.desc).onTables && (Jvm.Cond.interfaceMethod y.cls y.cls y.name y.desc).keepsFace) = true) (w5 : (Jvm.Cond.selects C y z).before a0 Z = true) (w6 : (Jvm.Cond.instanceMethod z).before a0 Z = true) (w8 : (Jvm.Cond.publicMethod z).before a0 Z = true) (w9 : (Jvm.Cond.unhidden C y.name y.desc).before a0 Z = true) (w10 : (Jvm.Cond.castable C y.cls).before a0 Z = true)
    (w4 : (Jvm.Cond.code z bytes maxL ret).before a0 Z = true) (w3 : (Jvm.Cond.initialized z.cls).before a0 Z = true) (hy : y.cls ≠ "java/lang/invoke/MethodHandle" ∧ y.cls ≠ "java/lang/invoke/VarHandle") (eT : T.heap = h) {a : Addr} (E : Exa Z h a C) {argsL rest : List Value}
    (hM : Meets l z bytes maxL ret [] rm Z (.ref a :: argsL).toArray h Q rm.cells rm.slots) {W : Nat} (hf : rm.frames + 1 ≤ R.frames) (hl : W + (maxL + 11) + rm.locals ≤ R.locals) (hc : cells + rm.cells ≤ R.cells) (hn : slots + rm.slots ≤ R.slots)
    {pc : Nat} {Ls : Array Slot} {st : List Value} (hsize : Ls.size = c.maxLocals) (hlen : ∀ sig, parseMethodDescriptor y.desc = some sig → argsL.length = sig.parameters.length) (hst : st = argsL.reverse ++ .ref a :: rest) (hW : (rest.map fun v => v.category).sum ≤ W) (hd : decode c.code pc = .ok (.invokeinterface index count, 5)) {A : Outcome → State → Prop}
    (kk : ∀ (v : Option Value) (T' : State) (L : List Loc) (h' : Heap), Stand p l e R s m args below meth c T' (locs ++ L) (cells + rm.cells) (slots + rm.slots) → T'.heap = h' → Q v h' L → Run p e below A (T'.setTop (mkF m (pc + 5) Ls (v.toList ++ rest)))) : Run p e below A (T.setTop (mkF m pc Ls st)) := by
  obtain ⟨cq, kq, qa, qb, qc⟩ := isOf hZ eT E
  obtain ⟨v, _, ⟨T18, L18, k18, n18⟩, -, X18, ⟨Lc18, hQ18, l18, y18, z18⟩, st18⟩ := X.interfaceBack hx (xi := y) (y := z) hown (mvT hZ w1) (mvT hZ w2) (mvT hZ w7 k7) (mvT hZ w5) (mvT hZ w6) (mvT hZ w8) (mvT hZ w9) (mvT hZ w10) hy (backOf (W := W) hM hZ w4 w3 hf hl) qa qb qc (g := mkF m pc Ls st) rfl hsize (Steps.refl _) (argsL := argsL) (rest := rest) hlen hst (by show 2 * 0 + _ ≤ _; omega) hd (fun _ _ => ⟨rfl, eT, hc, hn⟩)
  dsimp only [Pt.U, Pt.locs, Pt.cells, Pt.slots] at X18 l18 y18 z18 st18 hQ18
  subst l18 y18 z18
  exact goT st18 (kk v _ _ _ X18 rfl hQ18)
theorem callViK (X : Stand p l e R s m args below meth c T locs cells slots) (hx : p.tables.exec = Jvm.exec) (hZ : Z.Warmed39 s.vm) {own C : String} {index : Nat} {y z : MethodName} {Q : Option Value → Heap → List Loc → Prop} (hown : s.vm.findClass own = some m.cls)
    (w1 : (Jvm.Cond.methodLink own index y).before a0 Z = true) (w2 : (Jvm.Cond.declares y).before a0 Z = true) (nf : NotFace s y) (w5 : (Jvm.Cond.selects C y z).before a0 Z = true) (w6 : (Jvm.Cond.instanceMethod z).before a0 Z = true) (hy : y.cls ≠ "java/lang/invoke/MethodHandle" ∧ y.cls ≠ "java/lang/invoke/VarHandle") (eT : T.heap = h) {a : Addr} (E : Exa Z h a C) {argsL rest : List Value}
    {rc rs W : Nat} (hK : Pay l R p e below s args z 3 W (.ref a :: argsL).toArray h Q rc rs) (hc : cells + rc ≤ R.cells) (hn : slots + rs ≤ R.slots)
    {pc : Nat} {Ls : Array Slot} {st : List Value} (hsize : Ls.size = c.maxLocals) (hlen : ∀ sig, parseMethodDescriptor y.desc = some sig → argsL.length = sig.parameters.length) (hst : st = argsL.reverse ++ .ref a :: rest) (hW : (rest.map fun v => v.category).sum ≤ W) (hd : decode c.code pc = .ok (.invokevirtual index, 3)) {A : Outcome → State → Prop}
    (kk : ∀ (v : Option Value) (T' : State) (L : List Loc) (h' : Heap), Stand p l e R s m args below meth c T' (locs ++ L) (cells + rc) (slots + rs) → T'.heap = h' → Q v h' L → Run p e below A (T'.setTop (mkF m (pc + 3) Ls (v.toList ++ rest)))) : Run p e below A (T.setTop (mkF m pc Ls st)) := by
  obtain ⟨cq, kq, qa, qb, qc⟩ := isOf hZ eT E
  obtain ⟨v, _, ⟨T18, L18, k18, n18⟩, -, X18, ⟨Lc18, hQ18, l18, y18, z18⟩, st18⟩ := X.virtualBack hx (y := y) (z := z) hown (mvT hZ w1) (mvT hZ w2) nf (mvT hZ w5) (mvT hZ w6) hy hK qa qc (g := mkF m pc Ls st) rfl hsize (Steps.refl _) (argsL := argsL) (rest := rest) hlen hst (by show 2 * 0 + _ ≤ _; omega) hd (fun _ _ => ⟨rfl, eT, hc, hn⟩)
  dsimp only [Pt.U, Pt.locs, Pt.cells, Pt.slots] at X18 l18 y18 z18 st18 hQ18
  subst l18 y18 z18
  exact goT st18 (kk v _ _ _ X18 rfl hQ18)
theorem callSpK (X : Stand p l e R s m args below meth c T locs cells slots) (hx : p.tables.exec = Jvm.exec) (hZ : Z.Warmed39 s.vm) {own : String} {index : Nat} {y : MethodName} (hy1 : y.name = "<init>") {bytes : ByteArray} {maxL : Nat} {Q : Option Value → Heap → List Loc → Prop} (hown : s.vm.findClass own = some m.cls)
    (w1 : (Jvm.Cond.methodLink own index y).before a0 Z = true) (w6 : (Jvm.Cond.instanceMethod y).before a0 Z = true) (w4 : (Jvm.Cond.code y bytes maxL none).before a0 Z = true) (hy : y.cls ≠ "java/lang/invoke/MethodHandle" ∧ y.cls ≠ "java/lang/invoke/VarHandle") (eT : T.heap = h) {a : Addr} {argsL rest : List Value}
    {rc rs W : Nat} (hK : Pay l R p e below s args y 3 W (.ref a :: argsL).toArray h Q rc rs) (hc : cells + rc ≤ R.cells) (hn : slots + rs ≤ R.slots)
    {pc : Nat} {Ls : Array Slot} {st : List Value} (hsize : Ls.size = c.maxLocals) (hlen : ∀ sig, parseMethodDescriptor y.desc = some sig → argsL.length = sig.parameters.length) (hst : st = argsL.reverse ++ .ref a :: rest) (hW : (rest.map fun v => v.category).sum ≤ W) (hd : decode c.code pc = .ok (.invokespecial index, 3)) {A : Outcome → State → Prop}
    (kk : ∀ (v : Option Value) (T' : State) (L : List Loc) (h' : Heap), Stand p l e R s m args below meth c T' (locs ++ L) (cells + rc) (slots + rs) → T'.heap = h' → Q v h' L → Run p e below A (T'.setTop (mkF m (pc + 3) Ls (v.toList ++ rest)))) : Run p e below A (T.setTop (mkF m pc Ls st)) := by
  obtain ⟨v, _, ⟨T18, L18, k18, n18⟩, -, X18, ⟨Lc18, hQ18, l18, y18, z18⟩, st18⟩ := X.specialBack hx (y := y) hy1 hown (mvT hZ w1) (mvT hZ w6) (mvT hZ w4) hy hK (g := mkF m pc Ls st) rfl hsize (Steps.refl _) (a := a) (argsL := argsL) (rest := rest) hlen hst (by show 2 * 0 + _ ≤ _; omega) hd (fun _ _ => ⟨rfl, eT, hc, hn⟩)
  dsimp only [Pt.U, Pt.locs, Pt.cells, Pt.slots] at X18 l18 y18 z18 st18 hQ18
  subst l18 y18 z18
  exact goT st18 (kk v _ _ _ X18 rfl hQ18)
/-- no subclass, by the words of the one's superclasses and of the other's 'instantiable' -/
theorem ns_root {O K : String} {n : Nat} (w : (Jvm.Cond.noSuperclass O).before a0 Z = true) (wk : (Jvm.Cond.instantiable K n).before a0 Z = true) (hn : O ≠ K) : NS Z O K := by
  obtain ⟨c, k, h1, h2, h3, -, -⟩ := Cond.noSuperclass_spec w
  obtain ⟨t, kt, g1, -⟩ := Cond.instantiable_spec wk
  have ne := ids_ne h1 g1 hn
  refine ⟨c, t, h1, g1, fun fuel => ?_⟩
  cases fuel with
  | zero => rfl
  | succ f => simp [Vm.isSubclassAux, ne, h2, h3]
theorem ns_no {C S K : String} {n : Nat} (w : (Jvm.Cond.superclass C S).before a0 Z = true) (wk : (Jvm.Cond.instantiable K n).before a0 Z = true) (q : NS Z C K) (hn : C ≠ K) : ∃ c t, Z.vm.findClass C = some c ∧ Z.vm.findClass K = some t ∧ Z.vm.assignable c t = false := by
  obtain ⟨c, t, h0, g0, n3⟩ := q
  obtain ⟨p, k, kp, h1, h2, h3, h4, h5, -, h7⟩ := Cond.superclass_spec h0 w
  obtain ⟨t', kt, g1, g2, g3, g4, -⟩ := Cond.instantiable_spec wk
  cases g0.symm.trans g1
  have ne := ids_ne h0 g0 hn
  have g5 : kt.isInterface = false := by
    cases hi : kt.isInterface with
    | false => rfl
    | true => simp [hi] at g4
  refine ⟨c, t, h0, g0, ?_⟩
  show Z.vm.assignableAux (255 + 1) c t = false
  simp [Vm.assignableAux, ne, h2, g2, h5, g3, g5, Vm.isSubclass, n3]
/-- a static that holds an object of one class, out of the case's words -/
theorem sta_exa {C n d K : String} (w1 : (Jvm.Cond.initialized C).before a0 Z = true) (w2 : (Jvm.Cond.laysStatic C n d).before a0 Z = true) (hx : (Jvm.Cond.exactly (Jvm.Term.static C n d) K).value a0 Z none Z [] = some true) :
    ∃ a, (Jvm.Term.static C n d).eval a0 Z none [] Z = some (.ref a) ∧ Sta Z Z.heap C n d (.ref a) ∧ Exa Z Z.heap a K := by
  obtain ⟨a, ev⟩ := exa_v hx
  exact ⟨a, ev, Sta.start ev (Or.inr ⟨w1, w2⟩), Exa.start ev hx⟩
theorem fld_int {t : Jvm.Term} {a : Addr} {C n d : String} {k : Int32} (ev : t.eval a0 Z none [] Z = some (.ref a)) (hq : (Jvm.Cond.eq (Jvm.Term.field t C n d) (Jvm.Term.int k)).value a0 Z none Z [] = some true) : Fld Z Z.heap a C n d (.int k) := by
  refine Fld.start ?_
  have e1 : (Jvm.Term.field t C n d).eval a0 Z none [] Z = Z.fieldOf? a C n d := fld_at ev
  have e2 : (Jvm.Term.int k).eval a0 Z none [] Z = some (.int k) := Term.int_eval k
  simp only [Cond.value, e1, e2] at hq
  cases hf : Z.fieldOf? a C n d with
  | none => simp [hf] at hq
  | some x => cases x <;> simp [hf] at hq ⊢; exact hq
end Own
section OwnStr
variable {p : Program} {l : Launch} {e : Env} {R : Room} {s : State} {args : Array Value} {below : List Frame} {Z : State} {a0 : Array Value} {h h' : Heap} {x t y t' a b : Addr} {kb kb' kC : ClassId} {cs ds : List Int32}
/-- a String of Latin-1 signs, its byte[] at t -/
def Str (Z : State) (h : Heap) (x t : Addr) (kb : ClassId) (cs : List Int32) : Prop := Exa Z h x "java/lang/String" ∧ Fld Z h x "java/lang/String" "value" "[B" (.ref t) ∧ Fld Z h x "java/lang/String" "coder" "B" (.int 0) ∧ Arv Z h t kb .byte (Int32.ofNat cs.length) ((cs.map fun c => c.toInt8.toInt32).map Value.int) (.int 0)
theorem Str.ext (F : Str Z h x t kb cs) (E : Ext h h') : Str Z h' x t kb cs := ⟨F.1.ext E, F.2.1.ext E, F.2.2.1.ext E, F.2.2.2.ext E⟩
theorem Str.keep {ws : List Addr} (F : Str Z h x t kb cs) (K : Keep h h' ws) (q1 : x ∉ ws) (q2 : t ∉ ws) : Str Z h' x t kb cs := ⟨F.1.keep K, F.2.1.keep K q1, F.2.2.1.keep K q1, F.2.2.2.keep K q2⟩
theorem Str.other {sl : Nat} {v : Value} (F : Str Z h x t kb cs) (W : Wr h h' a sl v) (q1 : x ≠ a) (q2 : t ≠ a) : Str Z h' x t kb cs := ⟨F.1.wr W, F.2.1.other W (Or.inl q1), F.2.2.1.other W (Or.inl q1), F.2.2.2.other W q2⟩
def In8 (cs : List Int32) : Prop := ∀ c ∈ cs, ¬ c < 0 ∧ ¬ (255 : Int32) < c
theorem In8.w (H : In8 cs) : ∀ c ∈ cs, ¬ c < 0 ∧ ¬ (65535 : Int32) < c := fun c hc => ⟨(H c hc).1, fun q => (H c hc).2 (by
  rw [Int32.lt_iff_toInt_lt] at *
  have k1 : (65535 : Int32).toInt = 65535 := by decide
  have k2 : (255 : Int32).toInt = 255 := by decide
  omega)⟩
theorem In8.nil : In8 [] := fun _ q => nomatch q
theorem In8.cons {c : Int32} (hc : ¬ c < 0 ∧ ¬ (255 : Int32) < c) (H : In8 cs) : In8 (c :: cs) := fun d hd => (List.mem_cons.mp hd).elim (fun q => q ▸ hc) (H d)
def QPure (r : Value) (h : Heap) (n0 : Nat) (v : Option Value) (h' : Heap) (L : List Loc) : Prop := v = some r ∧ Fr n0 L ∧ h' = h
theorem cod8 (H : In8 cs) : StrChars.Road.CodA cs 0 (Int32.ofNat cs.length) ((cs.map fun c => c.toInt8.toInt32).map Value.int) := StrChars.Road.codOf rfl (fun c hc => (H c hc).2)
theorem subNew : ∀ d ∈ StrChars.Road.words, d ∈ tables_1 := by decide +kernel
def QNew (Z : State) (x : Addr) (cs : List Int32) (h : Heap) (n0 : Nat) (v : Option Value) (h' : Heap) (L : List Loc) : Prop := v = none ∧ Fr n0 L ∧ Keep h h' [x] ∧ ∃ (t : Addr) (kb : ClassId), n0 ≤ t ∧ h.size ≤ t ∧ t ≠ x ∧ Str Z h' x t kb cs
theorem payNew (hZ : Z.Warmed39 s.vm) (hw : ∀ d ∈ tables_1, d.before a0 Z = true) {W n n0 : Nat} {N z : Int32} {d v0 c0 : Value} (wi : (Jvm.Cond.instantiable "java/lang/String" 4).before a0 Z = true) (O : Old Z n0 h) (gx : n0 ≤ x) (E : Exa Z h x "java/lang/String") (V : Fld Z h x "java/lang/String" "value" "[B" v0) (C : Fld Z h x "java/lang/String" "coder" "B" c0)
    (K : Arv Z h b kC .char N (cs.map Value.int) d) (S : Sta Z Z.heap "java/lang/String" "COMPACT_STRINGS" "Z" (.int z)) (hz : ¬ z = 0) (hn : cs.length = n) (hN : N = Int32.ofNat n) (l0 : 0 < n) (l2 : n ≤ 4000) (hp : In8 cs) (hfr : 4 ≤ R.frames) (hlo : W + 65 ≤ R.locals) :
    Pay l R p e below s args (⟨"java/lang/String", "<init>", "([C)V"⟩ : MethodName) 3 W #[.ref x, .ref b] h (QNew Z x cs h n0) 1 n := by
  refine Back.mono (StrChars.Road.backV (W := W) hZ (fun d hd => hw d (subNew d hd)) (kI := 4) wi (bs := cs.map fun c => c.toInt8.toInt32) (n0 := n0) gx (old_sz O) E V C K (S.ext O.2) hz hn hN l0 l2 hp rfl hfr hlo) (fun _ _ q => q) (fun P a v B _ hq => ?_)
  obtain ⟨L, ⟨q1, q2, q3, q4, q5, t, kb, q6, q7, q8, q9, q10⟩, r⟩ := hq
  subst hn hN
  exact ⟨L, ⟨q1, q2, q3, t, kb, q6, q7, q8, q4, q9, q5, q10⟩, r⟩
theorem subEq : ∀ d ∈ StrChars.Road.wordsEq, d ∈ tables_1 := by decide +kernel
theorem payEq (hZ : Z.Warmed39 s.vm) (hw : ∀ d ∈ tables_1, d.before a0 Z = true) {W n0 : Nat} {z : Int32} (wi : (Jvm.Cond.instantiable "java/lang/String" 4).before a0 Z = true) (O : Old Z n0 h) (F : Str Z h x t kb cs) (H : In8 cs) (l2 : cs.length ≤ 4000) (F' : Str Z h y t' kb' ds) (H' : In8 ds) (l2' : ds.length ≤ 4000)
    (S : Sta Z Z.heap "java/lang/String" "COMPACT_STRINGS" "Z" (.int z)) (hz : ¬ z = 0) (hfr : 2 ≤ R.frames) (hlo : W + 28 ≤ R.locals) :
    Pay l R p e below s args (⟨"java/lang/String", "equals", "(Ljava/lang/Object;)Z"⟩ : MethodName) 3 W #[.ref x, .ref y] h (QPure (.int (if cs = ds then 1 else 0)) h n0) 0 0 := by
  refine Back.mono (StrChars.Road.eqW (W := W) hZ (fun d hd => hw d (subEq d hd)) (kI := 4) wi F.1 F.2.1 F.2.2.1 F.2.2.2 (cod8 H) H.w l2 F'.1 F'.2.1 F'.2.2.1 F'.2.2.2 (cod8 H') H'.w l2' (S.ext O.2) hz hfr hlo) (fun _ _ q => q) (fun P a v B _ hq => ?_)
  obtain ⟨L, ⟨q1, q2, q3⟩, r⟩ := hq
  refine ⟨L, ⟨?_, q2 ▸ Fr.nil n0, q3⟩, r⟩
  rcases q1 with ⟨q, k⟩ | ⟨q, k⟩
  · rw [q, if_pos k]
  · rw [q, if_neg k]
end OwnStr
def chL (p q : Int32) : List Int32 := if q = 0 then [p &&& 255] else [p &&& 255, ((p.toUInt32 >>> ((8 : Int32) &&& 31).toUInt32).toInt32) &&& 255]
theorem own_m (x : Int32) : ¬ (x &&& (255 : Int32)) < 0 ∧ ¬ (255 : Int32) < (x &&& (255 : Int32)) := by
  have h := c_and x 255 (by decide)
  have k0 : (0 : Int32).toInt = 0 := by decide
  have k2 : (255 : Int32).toInt = 255 := by decide
  simp only [Int32.lt_iff_toInt_lt]; omega
theorem own_nc (x : Int32) : nar .char ((x &&& (255 : Int32)).toUInt32.toUInt16.toUInt32.toInt32) = x &&& 255 := by rw [i2c_mask]; exact i2c_mask x
theorem chL_in (p q : Int32) : In8 (chL p q) := by
  unfold chL; split
  · exact In8.cons (own_m _) In8.nil
  · exact In8.cons (own_m _) (In8.cons (own_m _) In8.nil)
theorem chL_len (p q : Int32) : (∃ a, chL p q = [a]) ∨ ∃ a b, chL p q = [a, b] := by
  unfold chL; split
  · exact Or.inl ⟨_, rfl⟩
  · exact Or.inr ⟨_, _, rfl⟩
theorem len12 {c : List Int32} (h : (∃ a, c = [a]) ∨ ∃ a b, c = [a, b]) : 0 < c.length ∧ c.length ≤ 2 := by
  rcases h with ⟨a, rfl⟩ | ⟨a, b, rfl⟩ <;> exact ⟨by simp, by simp⟩
theorem d_m3_0 : decode method_3_code 0 = .ok (.iload_n 1, 1) := by decide +kernel
theorem d_m3_1 : decode method_3_code 1 = .ok (.ifCond .ne 18, 3) := by decide +kernel
theorem d_m3_4 : decode method_3_code 4 = .ok (.iconst 1, 1) := by decide +kernel
theorem d_m3_5 : decode method_3_code 5 = .ok (.newarray .char, 2) := by decide +kernel
theorem d_m3_7 : decode method_3_code 7 = .ok (.astore_n 2, 1) := by decide +kernel
theorem d_m3_8 : decode method_3_code 8 = .ok (.aload_n 2, 1) := by decide +kernel
theorem d_m3_9 : decode method_3_code 9 = .ok (.iconst 0, 1) := by decide +kernel
theorem d_m3_10 : decode method_3_code 10 = .ok (.iload_n 0, 1) := by decide +kernel
theorem d_m3_11 : decode method_3_code 11 = .ok (.sipush 255, 3) := by decide +kernel
theorem d_m3_14 : decode method_3_code 14 = .ok (.iand, 1) := by decide +kernel
theorem d_m3_15 : decode method_3_code 15 = .ok (.i2c, 1) := by decide +kernel
theorem d_m3_16 : decode method_3_code 16 = .ok (.castore, 1) := by decide +kernel
theorem d_m3_17 : decode method_3_code 17 = .ok (.aload_n 2, 1) := by decide +kernel
theorem d_m3_18 : decode method_3_code 18 = .ok (.areturn, 1) := by decide +kernel
theorem d_m3_19 : decode method_3_code 19 = .ok (.iconst 2, 1) := by decide +kernel
theorem d_m3_20 : decode method_3_code 20 = .ok (.newarray .char, 2) := by decide +kernel
theorem d_m3_22 : decode method_3_code 22 = .ok (.astore_n 2, 1) := by decide +kernel
theorem d_m3_23 : decode method_3_code 23 = .ok (.aload_n 2, 1) := by decide +kernel
theorem d_m3_24 : decode method_3_code 24 = .ok (.iconst 0, 1) := by decide +kernel
theorem d_m3_25 : decode method_3_code 25 = .ok (.iload_n 0, 1) := by decide +kernel
theorem d_m3_26 : decode method_3_code 26 = .ok (.sipush 255, 3) := by decide +kernel
theorem d_m3_29 : decode method_3_code 29 = .ok (.iand, 1) := by decide +kernel
theorem d_m3_30 : decode method_3_code 30 = .ok (.i2c, 1) := by decide +kernel
theorem d_m3_31 : decode method_3_code 31 = .ok (.castore, 1) := by decide +kernel
theorem d_m3_32 : decode method_3_code 32 = .ok (.aload_n 2, 1) := by decide +kernel
theorem d_m3_33 : decode method_3_code 33 = .ok (.iconst 1, 1) := by decide +kernel
theorem d_m3_34 : decode method_3_code 34 = .ok (.iload_n 0, 1) := by decide +kernel
theorem d_m3_35 : decode method_3_code 35 = .ok (.bipush 8, 2) := by decide +kernel
theorem d_m3_37 : decode method_3_code 37 = .ok (.iushr, 1) := by decide +kernel
theorem d_m3_38 : decode method_3_code 38 = .ok (.sipush 255, 3) := by decide +kernel
theorem d_m3_41 : decode method_3_code 41 = .ok (.iand, 1) := by decide +kernel
theorem d_m3_42 : decode method_3_code 42 = .ok (.i2c, 1) := by decide +kernel
theorem d_m3_43 : decode method_3_code 43 = .ok (.castore, 1) := by decide +kernel
theorem d_m3_44 : decode method_3_code 44 = .ok (.aload_n 2, 1) := by decide +kernel
theorem d_m3_45 : decode method_3_code 45 = .ok (.areturn, 1) := by decide +kernel
theorem pn_0 : plainName "com/example/gridsteward/gridsteward/HolderAgreesPinLaw" = true := by first | (simp [plainName, overriddenIn]; done) | decide +kernel
def Q_rm_ch (Z : State) (p1 q1 : Int32) (h0 : Heap) (n0 : Nat) (v : Option Value) (h : Heap) (L : List Loc) : Prop := ∃ (b : Addr) (k : ClassId), v = some (.ref b) ∧ Fr n0 L ∧ Keep h0 h [] ∧ h0.size ≤ b ∧ n0 ≤ b ∧ Arv Z h b k .char (Int32.ofNat (chL p1 q1).length) ((chL p1 q1).map Value.int) (.int (0 : Int32))
set_option maxRecDepth 65536 in
set_option maxHeartbeats 40000000 in
theorem rm_ch (l : Launch) (Z : State) (a0 : Array Value) (hw : ∀ d ∈ tables_1, d.before a0 Z = true) (ws : List Jvm.Cond) (p1 q1 : Int32) (h0 : Heap) (n0 : Nat) (O0 : Old Z n0 h0)  :
    Meets l (⟨"com/example/gridsteward/gridsteward/HolderAgreesPinLaw", "chars", "(II)[C"⟩ : MethodName) method_3_code 3 (some (.array .char)) ws ({ frames := 0, cells := 1, slots := 2, locals := 0 } : Room) Z #[(.int p1), (.int q1)] h0 (Q_rm_ch Z p1 q1 h0 n0) 1 2 := by
  refine enter (Ls := #[.val (.int p1), .val (.int q1), .unset]) (plainFor_of_name pn_0) (fun m => by first | (simp [entryFrame, mkF, argsToLocals, Value.category]; done) | rfl) ?_
  intro p e s m below meth c T0 hx hby hml hown hnm hret hlk hZ X0 e0
  have N0 := Fr.nil n0
  replace hown : s.vm.findClass "com/example/gridsteward/gridsteward/HolderAgreesPinLaw" = some m.cls := hown
  show Run p e below _ (T0.setTop (mkF m 0 #[.val (.int p1), .val (.int q1), .unset] []))
  have K0 := Keep.refl h0 []
  refine go (fun _ => XS.iloadN X0.here hx rfl (hb hby d_m3_0) rfl) ?_
  show Run p e below _ (T0.setTop (mkF m 1 #[.val (.int p1), .val (.int q1), .unset] [(.int q1)]))
  by_cases c1 : q1 = 0
  · skip
    refine go (fun _ => XS.ifNo X0.here hx rfl (hb hby d_m3_1) rfl ((if0 _ _).trans (teq c1).2)) ?_
    show Run p e below _ (T0.setTop (mkF m 4 #[.val (.int p1), .val (.int q1), .unset] []))
    refine go (fun _ => XS.iconst X0.here hx rfl (hb hby d_m3_4)) ?_
    show Run p e below _ (T0.setTop (mkF m 5 #[.val (.int p1), .val (.int q1), .unset] [(.int (1 : Int32))]))
    obtain ⟨T2, h2, k2, X2, e2, E2, A2, st2⟩ := newP X0 hx hZ (wd hw 5 rfl) e0 (g := (mkF m 5 #[.val (.int p1), .val (.int q1), .unset] [(.int (1 : Int32))])) rfl (hb hby d_m3_5) rfl (by decide) (cap := 1) (by decide) (by decide) (by decide) (by decide)
    obtain ⟨b2, y2⟩ : ∃ z, z = h0.size := ⟨_, rfl⟩
    rw [← y2] at A2 st2
    have g_b2 : n0 ≤ b2 := y2.symm ▸ old_sz O0
    have sz_b2 : h0.size ≤ b2 := y2.symm ▸ K0.1
    have O0 := O0.ext E2
    have K0 := K0.ext E2
    have V_b2 : Arv Z h2 b2 k2 .char (1 : Int32) [(.int (0 : Int32))] (.int (0 : Int32)) := (Arv.new A2 (by decide)).pad (pad_rep [] (.int (0 : Int32)) 1)
    refine go st2 ?_
    show Run p e below _ (T2.setTop (mkF m 7 #[.val (.int p1), .val (.int q1), .unset] [(.ref b2)]))
    refine go (fun _ => XS.astoreN X2.here hx rfl (hb hby d_m3_7) rfl rfl (l' := #[.val (.int p1), .val (.int q1), .val (.ref b2)]) rfl) ?_
    show Run p e below _ (T2.setTop (mkF m 8 #[.val (.int p1), .val (.int q1), .val (.ref b2)] []))
    refine go (fun _ => XS.aloadN X2.here hx rfl (hb hby d_m3_8) rfl rfl) ?_
    show Run p e below _ (T2.setTop (mkF m 9 #[.val (.int p1), .val (.int q1), .val (.ref b2)] [(.ref b2)]))
    refine go (fun _ => XS.iconst X2.here hx rfl (hb hby d_m3_9)) ?_
    show Run p e below _ (T2.setTop (mkF m 10 #[.val (.int p1), .val (.int q1), .val (.ref b2)] [(.int (0 : Int32)), (.ref b2)]))
    refine go (fun _ => XS.iloadN X2.here hx rfl (hb hby d_m3_10) rfl) ?_
    show Run p e below _ (T2.setTop (mkF m 11 #[.val (.int p1), .val (.int q1), .val (.ref b2)] [(.int p1), (.int (0 : Int32)), (.ref b2)]))
    refine go (fun _ => XS.sipush X2.here hx rfl (hb hby d_m3_11)) ?_
    show Run p e below _ (T2.setTop (mkF m 14 #[.val (.int p1), .val (.int q1), .val (.ref b2)] [(.int (255 : Int32)), (.int p1), (.int (0 : Int32)), (.ref b2)]))
    refine go (fun _ => XS.iand X2.here hx rfl (hb hby d_m3_14) rfl) ?_
    show Run p e below _ (T2.setTop (mkF m 15 #[.val (.int p1), .val (.int q1), .val (.ref b2)] [(.int (p1 &&& (255 : Int32))), (.int (0 : Int32)), (.ref b2)]))
    refine go (fun _ => XS.i2c X2.here hx rfl (hb hby d_m3_15) rfl) ?_
    show Run p e below _ (T2.setTop (mkF m 16 #[.val (.int p1), .val (.int q1), .val (.ref b2)] [(.int ((p1 &&& (255 : Int32)).toUInt32.toUInt16.toUInt32.toInt32)), (.int (0 : Int32)), (.ref b2)]))
    obtain ⟨cl3, Ar3, ak3, as3, an3, ah3, ag3⟩ := id V_b2
    have hin3 := inb_of as3 (j := (0 : Int32)) ⟨by decide, by decide⟩
    obtain ⟨T3, h3, X3, e3, W3, st3⟩ := stC X2 hx hZ e2 Ar3 (j := (0 : Int32)) hin3 (g := (mkF m 16 #[.val (.int p1), .val (.int q1), .val (.ref b2)] [(.int ((p1 &&& (255 : Int32)).toUInt32.toUInt16.toUInt32.toInt32)), (.int (0 : Int32)), (.ref b2)])) rfl rfl (hb hby d_m3_16)
    have W3' : Wr _ _ _ _ (.int (p1 &&& 255)) := (own_nc p1) ▸ W3
    have O0 := O0.wr W3' g_b2
    have K0 := K0.wr W3' (Or.inr sz_b2)
    have V_b2 := (Arv.set Ar3 ak3 as3 an3 ah3 ag3 ((own_nc p1) ▸ (fits_nar_char _)) W3' 0 rfl (Nat.le_of_ble_eq_true rfl) : Arv Z h3 b2 k2 .char (1 : Int32) [(.int (p1 &&& 255))] (.int (0 : Int32)))
    have N3 := Fr.snoc X3 N0 g_b2
    refine go st3 ?_
    show Run p e below _ (T3.setTop (mkF m 17 #[.val (.int p1), .val (.int q1), .val (.ref b2)] []))
    refine go (fun _ => XS.aloadN X3.here hx rfl (hb hby d_m3_17) rfl rfl) ?_
    show Run p e below _ (T3.setTop (mkF m 18 #[.val (.int p1), .val (.int q1), .val (.ref b2)] [(.ref b2)]))
    have hl : chL p1 q1 = [(p1 &&& 255)] := if_pos c1
    exact endA X3 hx hlk (w := (.ref b2)) hret rfl rfl (hb hby d_m3_18) (by rw [e3]; refine ⟨b2, k2, rfl, N3, K0, sz_b2, g_b2, ?_⟩; rw [hl]; exact V_b2) (by decide) (by decide)
  · skip
    refine go (fun _ => XS.ifYes X0.here hx rfl (pc0 := 1) (pc' := 19) rfl (hb hby d_m3_1) rfl ((if0 _ _).trans (feq c1).2) (by decide) (by decide)) ?_
    show Run p e below _ (T0.setTop (mkF m 19 #[.val (.int p1), .val (.int q1), .unset] []))
    refine go (fun _ => XS.iconst X0.here hx rfl (hb hby d_m3_19)) ?_
    show Run p e below _ (T0.setTop (mkF m 20 #[.val (.int p1), .val (.int q1), .unset] [(.int (2 : Int32))]))
    obtain ⟨T4, h4, k4, X4, e4, E4, A4, st4⟩ := newP X0 hx hZ (wd hw 5 rfl) e0 (g := (mkF m 20 #[.val (.int p1), .val (.int q1), .unset] [(.int (2 : Int32))])) rfl (hb hby d_m3_20) rfl (by decide) (cap := 2) (by decide) (by decide) (by decide) (by decide)
    obtain ⟨b4, y4⟩ : ∃ z, z = h0.size := ⟨_, rfl⟩
    rw [← y4] at A4 st4
    have g_b4 : n0 ≤ b4 := y4.symm ▸ old_sz O0
    have sz_b4 : h0.size ≤ b4 := y4.symm ▸ K0.1
    have O0 := O0.ext E4
    have K0 := K0.ext E4
    have V_b4 : Arv Z h4 b4 k4 .char (2 : Int32) [(.int (0 : Int32)), (.int (0 : Int32))] (.int (0 : Int32)) := (Arv.new A4 (by decide)).pad (pad_rep [] (.int (0 : Int32)) 2)
    refine go st4 ?_
    show Run p e below _ (T4.setTop (mkF m 22 #[.val (.int p1), .val (.int q1), .unset] [(.ref b4)]))
    refine go (fun _ => XS.astoreN X4.here hx rfl (hb hby d_m3_22) rfl rfl (l' := #[.val (.int p1), .val (.int q1), .val (.ref b4)]) rfl) ?_
    show Run p e below _ (T4.setTop (mkF m 23 #[.val (.int p1), .val (.int q1), .val (.ref b4)] []))
    refine go (fun _ => XS.aloadN X4.here hx rfl (hb hby d_m3_23) rfl rfl) ?_
    show Run p e below _ (T4.setTop (mkF m 24 #[.val (.int p1), .val (.int q1), .val (.ref b4)] [(.ref b4)]))
    refine go (fun _ => XS.iconst X4.here hx rfl (hb hby d_m3_24)) ?_
    show Run p e below _ (T4.setTop (mkF m 25 #[.val (.int p1), .val (.int q1), .val (.ref b4)] [(.int (0 : Int32)), (.ref b4)]))
    refine go (fun _ => XS.iloadN X4.here hx rfl (hb hby d_m3_25) rfl) ?_
    show Run p e below _ (T4.setTop (mkF m 26 #[.val (.int p1), .val (.int q1), .val (.ref b4)] [(.int p1), (.int (0 : Int32)), (.ref b4)]))
    refine go (fun _ => XS.sipush X4.here hx rfl (hb hby d_m3_26)) ?_
    show Run p e below _ (T4.setTop (mkF m 29 #[.val (.int p1), .val (.int q1), .val (.ref b4)] [(.int (255 : Int32)), (.int p1), (.int (0 : Int32)), (.ref b4)]))
    refine go (fun _ => XS.iand X4.here hx rfl (hb hby d_m3_29) rfl) ?_
    show Run p e below _ (T4.setTop (mkF m 30 #[.val (.int p1), .val (.int q1), .val (.ref b4)] [(.int (p1 &&& (255 : Int32))), (.int (0 : Int32)), (.ref b4)]))
    refine go (fun _ => XS.i2c X4.here hx rfl (hb hby d_m3_30) rfl) ?_
    show Run p e below _ (T4.setTop (mkF m 31 #[.val (.int p1), .val (.int q1), .val (.ref b4)] [(.int ((p1 &&& (255 : Int32)).toUInt32.toUInt16.toUInt32.toInt32)), (.int (0 : Int32)), (.ref b4)]))
    obtain ⟨cl5, Ar5, ak5, as5, an5, ah5, ag5⟩ := id V_b4
    have hin5 := inb_of as5 (j := (0 : Int32)) ⟨by decide, by decide⟩
    obtain ⟨T5, h5, X5, e5, W5, st5⟩ := stC X4 hx hZ e4 Ar5 (j := (0 : Int32)) hin5 (g := (mkF m 31 #[.val (.int p1), .val (.int q1), .val (.ref b4)] [(.int ((p1 &&& (255 : Int32)).toUInt32.toUInt16.toUInt32.toInt32)), (.int (0 : Int32)), (.ref b4)])) rfl rfl (hb hby d_m3_31)
    have W5' : Wr _ _ _ _ (.int (p1 &&& 255)) := (own_nc p1) ▸ W5
    have O0 := O0.wr W5' g_b4
    have K0 := K0.wr W5' (Or.inr sz_b4)
    have V_b4 := (Arv.set Ar5 ak5 as5 an5 ah5 ag5 ((own_nc p1) ▸ (fits_nar_char _)) W5' 0 rfl (Nat.le_of_ble_eq_true rfl) : Arv Z h5 b4 k4 .char (2 : Int32) [(.int (p1 &&& 255)), (.int (0 : Int32))] (.int (0 : Int32)))
    have N5 := Fr.snoc X5 N0 g_b4
    refine go st5 ?_
    show Run p e below _ (T5.setTop (mkF m 32 #[.val (.int p1), .val (.int q1), .val (.ref b4)] []))
    refine go (fun _ => XS.aloadN X5.here hx rfl (hb hby d_m3_32) rfl rfl) ?_
    show Run p e below _ (T5.setTop (mkF m 33 #[.val (.int p1), .val (.int q1), .val (.ref b4)] [(.ref b4)]))
    refine go (fun _ => XS.iconst X5.here hx rfl (hb hby d_m3_33)) ?_
    show Run p e below _ (T5.setTop (mkF m 34 #[.val (.int p1), .val (.int q1), .val (.ref b4)] [(.int (1 : Int32)), (.ref b4)]))
    refine go (fun _ => XS.iloadN X5.here hx rfl (hb hby d_m3_34) rfl) ?_
    show Run p e below _ (T5.setTop (mkF m 35 #[.val (.int p1), .val (.int q1), .val (.ref b4)] [(.int p1), (.int (1 : Int32)), (.ref b4)]))
    refine go (fun _ => XS.bipush X5.here hx rfl (hb hby d_m3_35)) ?_
    show Run p e below _ (T5.setTop (mkF m 37 #[.val (.int p1), .val (.int q1), .val (.ref b4)] [(.int (8 : Int32)), (.int p1), (.int (1 : Int32)), (.ref b4)]))
    refine go (fun _ => XS.iushr X5.here hx rfl (hb hby d_m3_37) rfl) ?_
    show Run p e below _ (T5.setTop (mkF m 38 #[.val (.int p1), .val (.int q1), .val (.ref b4)] [(.int ((p1.toUInt32 >>> ((8 : Int32) &&& 31).toUInt32).toInt32)), (.int (1 : Int32)), (.ref b4)]))
    refine go (fun _ => XS.sipush X5.here hx rfl (hb hby d_m3_38)) ?_
    show Run p e below _ (T5.setTop (mkF m 41 #[.val (.int p1), .val (.int q1), .val (.ref b4)] [(.int (255 : Int32)), (.int ((p1.toUInt32 >>> ((8 : Int32) &&& 31).toUInt32).toInt32)), (.int (1 : Int32)), (.ref b4)]))
    refine go (fun _ => XS.iand X5.here hx rfl (hb hby d_m3_41) rfl) ?_
    show Run p e below _ (T5.setTop (mkF m 42 #[.val (.int p1), .val (.int q1), .val (.ref b4)] [(.int (((p1.toUInt32 >>> ((8 : Int32) &&& 31).toUInt32).toInt32) &&& (255 : Int32))), (.int (1 : Int32)), (.ref b4)]))
    refine go (fun _ => XS.i2c X5.here hx rfl (hb hby d_m3_42) rfl) ?_
    show Run p e below _ (T5.setTop (mkF m 43 #[.val (.int p1), .val (.int q1), .val (.ref b4)] [(.int ((((p1.toUInt32 >>> ((8 : Int32) &&& 31).toUInt32).toInt32) &&& (255 : Int32)).toUInt32.toUInt16.toUInt32.toInt32)), (.int (1 : Int32)), (.ref b4)]))
    obtain ⟨cl6, Ar6, ak6, as6, an6, ah6, ag6⟩ := id V_b4
    have hin6 := inb_of as6 (j := (1 : Int32)) ⟨by decide, by decide⟩
    obtain ⟨T6, h6, X6, e6, W6, st6⟩ := stC X5 hx hZ e5 Ar6 (j := (1 : Int32)) hin6 (g := (mkF m 43 #[.val (.int p1), .val (.int q1), .val (.ref b4)] [(.int ((((p1.toUInt32 >>> ((8 : Int32) &&& 31).toUInt32).toInt32) &&& (255 : Int32)).toUInt32.toUInt16.toUInt32.toInt32)), (.int (1 : Int32)), (.ref b4)])) rfl rfl (hb hby d_m3_43)
    have W6' : Wr _ _ _ _ (.int (((p1.toUInt32 >>> ((8 : Int32) &&& 31).toUInt32).toInt32) &&& 255)) := (own_nc ((p1.toUInt32 >>> ((8 : Int32) &&& 31).toUInt32).toInt32)) ▸ W6
    have O0 := O0.wr W6' g_b4
    have K0 := K0.wr W6' (Or.inr sz_b4)
    have V_b4 := (Arv.set Ar6 ak6 as6 an6 ah6 ag6 ((own_nc ((p1.toUInt32 >>> ((8 : Int32) &&& 31).toUInt32).toInt32)) ▸ (fits_nar_char _)) W6' 1 rfl (Nat.le_of_ble_eq_true rfl) : Arv Z h6 b4 k4 .char (2 : Int32) [(.int (p1 &&& 255)), (.int (((p1.toUInt32 >>> ((8 : Int32) &&& 31).toUInt32).toInt32) &&& 255))] (.int (0 : Int32)))
    have N6 := Fr.snoc X6 N5 g_b4
    refine go st6 ?_
    show Run p e below _ (T6.setTop (mkF m 44 #[.val (.int p1), .val (.int q1), .val (.ref b4)] []))
    refine go (fun _ => XS.aloadN X6.here hx rfl (hb hby d_m3_44) rfl rfl) ?_
    show Run p e below _ (T6.setTop (mkF m 45 #[.val (.int p1), .val (.int q1), .val (.ref b4)] [(.ref b4)]))
    have hl : chL p1 q1 = [(p1 &&& 255), (((p1.toUInt32 >>> ((8 : Int32) &&& 31).toUInt32).toInt32) &&& 255)] := if_neg c1
    exact endA X6 hx hlk (w := (.ref b4)) hret rfl rfl (hb hby d_m3_45) (by rw [e6]; refine ⟨b4, k4, rfl, N6, K0, sz_b4, g_b4, ?_⟩; rw [hl]; exact V_b4) (by decide) (by decide)
theorem d_m4_0 : decode method_4_code 0 = .ok (.aload_n 0, 1) := by decide +kernel
theorem d_m4_1 : decode method_4_code 1 = .ok (.arraylength, 1) := by decide +kernel
theorem d_m4_2 : decode method_4_code 2 = .ok (.aload_n 1, 1) := by decide +kernel
theorem d_m4_3 : decode method_4_code 3 = .ok (.arraylength, 1) := by decide +kernel
theorem d_m4_4 : decode method_4_code 4 = .ok (.if_icmp .eq 5, 3) := by decide +kernel
theorem d_m4_9 : decode method_4_code 9 = .ok (.aload_n 0, 1) := by decide +kernel
theorem d_m4_10 : decode method_4_code 10 = .ok (.iconst 0, 1) := by decide +kernel
theorem d_m4_11 : decode method_4_code 11 = .ok (.caload, 1) := by decide +kernel
theorem d_m4_12 : decode method_4_code 12 = .ok (.aload_n 1, 1) := by decide +kernel
theorem d_m4_13 : decode method_4_code 13 = .ok (.iconst 0, 1) := by decide +kernel
theorem d_m4_14 : decode method_4_code 14 = .ok (.caload, 1) := by decide +kernel
theorem d_m4_15 : decode method_4_code 15 = .ok (.if_icmp .eq 5, 3) := by decide +kernel
theorem d_m4_20 : decode method_4_code 20 = .ok (.aload_n 0, 1) := by decide +kernel
theorem d_m4_21 : decode method_4_code 21 = .ok (.arraylength, 1) := by decide +kernel
theorem d_m4_22 : decode method_4_code 22 = .ok (.iconst 2, 1) := by decide +kernel
theorem d_m4_23 : decode method_4_code 23 = .ok (.if_icmp .lt 12, 3) := by decide +kernel
theorem d_m4_35 : decode method_4_code 35 = .ok (.iconst 1, 1) := by decide +kernel
theorem d_m4_36 : decode method_4_code 36 = .ok (.goto 4, 3) := by decide +kernel
theorem d_m4_40 : decode method_4_code 40 = .ok (.ireturn, 1) := by decide +kernel
theorem d_m4_18 : decode method_4_code 18 = .ok (.iconst 0, 1) := by decide +kernel
theorem d_m4_19 : decode method_4_code 19 = .ok (.ireturn, 1) := by decide +kernel
theorem d_m4_7 : decode method_4_code 7 = .ok (.iconst 0, 1) := by decide +kernel
theorem d_m4_8 : decode method_4_code 8 = .ok (.ireturn, 1) := by decide +kernel
theorem d_m4_26 : decode method_4_code 26 = .ok (.aload_n 0, 1) := by decide +kernel
theorem d_m4_27 : decode method_4_code 27 = .ok (.iconst 1, 1) := by decide +kernel
theorem d_m4_28 : decode method_4_code 28 = .ok (.caload, 1) := by decide +kernel
theorem d_m4_29 : decode method_4_code 29 = .ok (.aload_n 1, 1) := by decide +kernel
theorem d_m4_30 : decode method_4_code 30 = .ok (.iconst 1, 1) := by decide +kernel
theorem d_m4_31 : decode method_4_code 31 = .ok (.caload, 1) := by decide +kernel
theorem d_m4_32 : decode method_4_code 32 = .ok (.if_icmp .ne 7, 3) := by decide +kernel
theorem d_m4_39 : decode method_4_code 39 = .ok (.iconst 0, 1) := by decide +kernel
def Q_rm_sm (a b : Addr) (ka kb : ClassId) (cs ds : List Int32) (h0 : Heap) (n0 : Nat) (v : Option Value) (h : Heap) (L : List Loc) : Prop := v = some (.int (if cs = ds then 1 else 0)) ∧ Fr n0 L ∧ h = h0
set_option maxRecDepth 65536 in
set_option maxHeartbeats 40000000 in
theorem rm_sm (l : Launch) (Z : State) (a0 : Array Value) (hw : ∀ d ∈ tables_1, d.before a0 Z = true) (ws : List Jvm.Cond) (a b : Addr) (ka kb : ClassId) (cs ds : List Int32) (h0 : Heap) (n0 : Nat) (O0 : Old Z n0 h0) (V_a : Arv Z h0 a ka .char (Int32.ofNat cs.length) (cs.map Value.int) (.int (0 : Int32))) (V_b : Arv Z h0 b kb .char (Int32.ofNat ds.length) (ds.map Value.int) (.int (0 : Int32))) (hcs : (∃ a, cs = [a]) ∨ ∃ a b, cs = [a, b]) (hds : (∃ a, ds = [a]) ∨ ∃ a b, ds = [a, b]) :
    Meets l (⟨"com/example/gridsteward/gridsteward/HolderAgreesPinLaw", "same", "([C[C)Z"⟩ : MethodName) method_4_code 2 (some .boolean) ws ({ frames := 0, cells := 0, slots := 0, locals := 0 } : Room) Z #[(.ref a), (.ref b)] h0 (Q_rm_sm a b ka kb cs ds h0 n0) 0 0 := by
  refine enter (Ls := #[.val (.ref a), .val (.ref b)]) (plainFor_of_name pn_0) (fun m => by first | (simp [entryFrame, mkF, argsToLocals, Value.category]; done) | rfl) ?_
  intro p e s m below meth c T0 hx hby hml hown hnm hret hlk hZ X0 e0
  have N0 := Fr.nil n0
  replace hown : s.vm.findClass "com/example/gridsteward/gridsteward/HolderAgreesPinLaw" = some m.cls := hown
  show Run p e below _ (T0.setTop (mkF m 0 #[.val (.ref a), .val (.ref b)] []))
  rcases hcs with ⟨c1, rfl⟩ | ⟨c1, c2, rfl⟩ <;> rcases hds with ⟨d1, rfl⟩ | ⟨d1, d2, rfl⟩
  · skip
    have V_a : Arv Z h0 a ka .char (1 : Int32) [(.int c1)] (.int (0 : Int32)) := V_a
    have V_b : Arv Z h0 b kb .char (1 : Int32) [(.int d1)] (.int (0 : Int32)) := V_b
    refine go (fun _ => XS.aloadN X0.here hx rfl (hb hby d_m4_0) rfl rfl) ?_
    show Run p e below _ (T0.setTop (mkF m 1 #[.val (.ref a), .val (.ref b)] [(.ref a)]))
    obtain ⟨cl7, Ar7, ak7, as7, an7, ah7, ag7⟩ := id V_a
    refine go (fun _ => X0.arraylength hx (by rw [e0]; exact Ar7.1) (State.isArrayOf_alike hZ.alike Ar7.2.1) (g := (mkF m 1 #[.val (.ref a), .val (.ref b)] [(.ref a)])) rfl rfl (hb hby d_m4_1) _) ?_
    rw [len_of as7 an7]
    show Run p e below _ (T0.setTop (mkF m 2 #[.val (.ref a), .val (.ref b)] [(.int (1 : Int32))]))
    refine go (fun _ => XS.aloadN X0.here hx rfl (hb hby d_m4_2) rfl rfl) ?_
    show Run p e below _ (T0.setTop (mkF m 3 #[.val (.ref a), .val (.ref b)] [(.ref b), (.int (1 : Int32))]))
    obtain ⟨cl8, Ar8, ak8, as8, an8, ah8, ag8⟩ := id V_b
    refine go (fun _ => X0.arraylength hx (by rw [e0]; exact Ar8.1) (State.isArrayOf_alike hZ.alike Ar8.2.1) (g := (mkF m 3 #[.val (.ref a), .val (.ref b)] [(.ref b), (.int (1 : Int32))])) rfl rfl (hb hby d_m4_3) _) ?_
    rw [len_of as8 an8]
    show Run p e below _ (T0.setTop (mkF m 4 #[.val (.ref a), .val (.ref b)] [(.int (1 : Int32)), (.int (1 : Int32))]))
    refine go (fun _ => XS.icmpYes X0.here hx rfl (pc0 := 4) (pc' := 9) rfl (hb hby d_m4_4) rfl (teq (by decide : (1 : Int32) = 1)).1 (by decide) (by decide)) ?_
    show Run p e below _ (T0.setTop (mkF m 9 #[.val (.ref a), .val (.ref b)] []))
    refine go (fun _ => XS.aloadN X0.here hx rfl (hb hby d_m4_9) rfl rfl) ?_
    show Run p e below _ (T0.setTop (mkF m 10 #[.val (.ref a), .val (.ref b)] [(.ref a)]))
    refine go (fun _ => XS.iconst X0.here hx rfl (hb hby d_m4_10)) ?_
    show Run p e below _ (T0.setTop (mkF m 11 #[.val (.ref a), .val (.ref b)] [(.int (0 : Int32)), (.ref a)]))
    obtain ⟨cl9, Ar9, ak9, as9, an9, ah9, ag9⟩ := id V_a
    have hin9 := inb_of as9 (j := (0 : Int32)) ⟨by decide, by decide⟩
    have hat9 := ah9.at hin9 (v := (.int c1)) rfl
    refine go (fun _ => X0.caload hx (j := (0 : Int32)) (v := (.int c1)) (by rw [e0]; exact Ar9.1) (State.isArrayOf_alike hZ.alike Ar9.2.1) Ar9.2.2 hin9 hat9 (g := (mkF m 11 #[.val (.ref a), .val (.ref b)] [(.int (0 : Int32)), (.ref a)])) rfl rfl (hb hby d_m4_11) _) ?_
    show Run p e below _ (T0.setTop (mkF m 12 #[.val (.ref a), .val (.ref b)] [(.int c1)]))
    refine go (fun _ => XS.aloadN X0.here hx rfl (hb hby d_m4_12) rfl rfl) ?_
    show Run p e below _ (T0.setTop (mkF m 13 #[.val (.ref a), .val (.ref b)] [(.ref b), (.int c1)]))
    refine go (fun _ => XS.iconst X0.here hx rfl (hb hby d_m4_13)) ?_
    show Run p e below _ (T0.setTop (mkF m 14 #[.val (.ref a), .val (.ref b)] [(.int (0 : Int32)), (.ref b), (.int c1)]))
    obtain ⟨cl10, Ar10, ak10, as10, an10, ah10, ag10⟩ := id V_b
    have hin10 := inb_of as10 (j := (0 : Int32)) ⟨by decide, by decide⟩
    have hat10 := ah10.at hin10 (v := (.int d1)) rfl
    refine go (fun _ => X0.caload hx (j := (0 : Int32)) (v := (.int d1)) (by rw [e0]; exact Ar10.1) (State.isArrayOf_alike hZ.alike Ar10.2.1) Ar10.2.2 hin10 hat10 (g := (mkF m 14 #[.val (.ref a), .val (.ref b)] [(.int (0 : Int32)), (.ref b), (.int c1)])) rfl rfl (hb hby d_m4_14) _) ?_
    show Run p e below _ (T0.setTop (mkF m 15 #[.val (.ref a), .val (.ref b)] [(.int d1), (.int c1)]))
    by_cases c11 : c1 = d1
    · skip
      refine go (fun _ => XS.icmpYes X0.here hx rfl (pc0 := 15) (pc' := 20) rfl (hb hby d_m4_15) rfl (teq c11).1 (by decide) (by decide)) ?_
      show Run p e below _ (T0.setTop (mkF m 20 #[.val (.ref a), .val (.ref b)] []))
      refine go (fun _ => XS.aloadN X0.here hx rfl (hb hby d_m4_20) rfl rfl) ?_
      show Run p e below _ (T0.setTop (mkF m 21 #[.val (.ref a), .val (.ref b)] [(.ref a)]))
      obtain ⟨cl12, Ar12, ak12, as12, an12, ah12, ag12⟩ := id V_a
      refine go (fun _ => X0.arraylength hx (by rw [e0]; exact Ar12.1) (State.isArrayOf_alike hZ.alike Ar12.2.1) (g := (mkF m 21 #[.val (.ref a), .val (.ref b)] [(.ref a)])) rfl rfl (hb hby d_m4_21) _) ?_
      rw [len_of as12 an12]
      show Run p e below _ (T0.setTop (mkF m 22 #[.val (.ref a), .val (.ref b)] [(.int (1 : Int32))]))
      refine go (fun _ => XS.iconst X0.here hx rfl (hb hby d_m4_22)) ?_
      show Run p e below _ (T0.setTop (mkF m 23 #[.val (.ref a), .val (.ref b)] [(.int (2 : Int32)), (.int (1 : Int32))]))
      refine go (fun _ => XS.icmpYes X0.here hx rfl (pc0 := 23) (pc' := 35) rfl (hb hby d_m4_23) rfl (tlt (by decide : (1 : Int32) < 2)).1 (by decide) (by decide)) ?_
      show Run p e below _ (T0.setTop (mkF m 35 #[.val (.ref a), .val (.ref b)] []))
      refine go (fun _ => XS.iconst X0.here hx rfl (hb hby d_m4_35)) ?_
      show Run p e below _ (T0.setTop (mkF m 36 #[.val (.ref a), .val (.ref b)] [(.int (1 : Int32))]))
      refine go (fun _ => XS.goto X0.here hx rfl (pc0 := 36) (pc' := 40) rfl (hb hby d_m4_36) (by decide) (by decide)) ?_
      show Run p e below _ (T0.setTop (mkF m 40 #[.val (.ref a), .val (.ref b)] [(.int (1 : Int32))]))
      exact endN X0 hx hlk (t := .boolean) hret (by simp) (hb hby d_m4_40) (⟨by simp [c11] <;> rfl, N0, e0⟩) (by decide) (by decide)
    · skip
      refine go (fun _ => XS.icmpNo X0.here hx rfl (hb hby d_m4_15) rfl (feq c11).1) ?_
      show Run p e below _ (T0.setTop (mkF m 18 #[.val (.ref a), .val (.ref b)] []))
      refine go (fun _ => XS.iconst X0.here hx rfl (hb hby d_m4_18)) ?_
      show Run p e below _ (T0.setTop (mkF m 19 #[.val (.ref a), .val (.ref b)] [(.int (0 : Int32))]))
      exact endN X0 hx hlk (t := .boolean) hret (by simp) (hb hby d_m4_19) (⟨by simp [c11] <;> rfl, N0, e0⟩) (by decide) (by decide)
  · skip
    have V_a : Arv Z h0 a ka .char (1 : Int32) [(.int c1)] (.int (0 : Int32)) := V_a
    have V_b : Arv Z h0 b kb .char (2 : Int32) [(.int d1), (.int d2)] (.int (0 : Int32)) := V_b
    refine go (fun _ => XS.aloadN X0.here hx rfl (hb hby d_m4_0) rfl rfl) ?_
    show Run p e below _ (T0.setTop (mkF m 1 #[.val (.ref a), .val (.ref b)] [(.ref a)]))
    obtain ⟨cl13, Ar13, ak13, as13, an13, ah13, ag13⟩ := id V_a
    refine go (fun _ => X0.arraylength hx (by rw [e0]; exact Ar13.1) (State.isArrayOf_alike hZ.alike Ar13.2.1) (g := (mkF m 1 #[.val (.ref a), .val (.ref b)] [(.ref a)])) rfl rfl (hb hby d_m4_1) _) ?_
    rw [len_of as13 an13]
    show Run p e below _ (T0.setTop (mkF m 2 #[.val (.ref a), .val (.ref b)] [(.int (1 : Int32))]))
    refine go (fun _ => XS.aloadN X0.here hx rfl (hb hby d_m4_2) rfl rfl) ?_
    show Run p e below _ (T0.setTop (mkF m 3 #[.val (.ref a), .val (.ref b)] [(.ref b), (.int (1 : Int32))]))
    obtain ⟨cl14, Ar14, ak14, as14, an14, ah14, ag14⟩ := id V_b
    refine go (fun _ => X0.arraylength hx (by rw [e0]; exact Ar14.1) (State.isArrayOf_alike hZ.alike Ar14.2.1) (g := (mkF m 3 #[.val (.ref a), .val (.ref b)] [(.ref b), (.int (1 : Int32))])) rfl rfl (hb hby d_m4_3) _) ?_
    rw [len_of as14 an14]
    show Run p e below _ (T0.setTop (mkF m 4 #[.val (.ref a), .val (.ref b)] [(.int (2 : Int32)), (.int (1 : Int32))]))
    refine go (fun _ => XS.icmpNo X0.here hx rfl (hb hby d_m4_4) rfl (feq (by decide : ¬ ((1 : Int32) = 2))).1) ?_
    show Run p e below _ (T0.setTop (mkF m 7 #[.val (.ref a), .val (.ref b)] []))
    refine go (fun _ => XS.iconst X0.here hx rfl (hb hby d_m4_7)) ?_
    show Run p e below _ (T0.setTop (mkF m 8 #[.val (.ref a), .val (.ref b)] [(.int (0 : Int32))]))
    exact endN X0 hx hlk (t := .boolean) hret (by simp) (hb hby d_m4_8) (⟨by simp [] <;> rfl, N0, e0⟩) (by decide) (by decide)
  · skip
    have V_a : Arv Z h0 a ka .char (2 : Int32) [(.int c1), (.int c2)] (.int (0 : Int32)) := V_a
    have V_b : Arv Z h0 b kb .char (1 : Int32) [(.int d1)] (.int (0 : Int32)) := V_b
    refine go (fun _ => XS.aloadN X0.here hx rfl (hb hby d_m4_0) rfl rfl) ?_
    show Run p e below _ (T0.setTop (mkF m 1 #[.val (.ref a), .val (.ref b)] [(.ref a)]))
    obtain ⟨cl15, Ar15, ak15, as15, an15, ah15, ag15⟩ := id V_a
    refine go (fun _ => X0.arraylength hx (by rw [e0]; exact Ar15.1) (State.isArrayOf_alike hZ.alike Ar15.2.1) (g := (mkF m 1 #[.val (.ref a), .val (.ref b)] [(.ref a)])) rfl rfl (hb hby d_m4_1) _) ?_
    rw [len_of as15 an15]
    show Run p e below _ (T0.setTop (mkF m 2 #[.val (.ref a), .val (.ref b)] [(.int (2 : Int32))]))
    refine go (fun _ => XS.aloadN X0.here hx rfl (hb hby d_m4_2) rfl rfl) ?_
    show Run p e below _ (T0.setTop (mkF m 3 #[.val (.ref a), .val (.ref b)] [(.ref b), (.int (2 : Int32))]))
    obtain ⟨cl16, Ar16, ak16, as16, an16, ah16, ag16⟩ := id V_b
    refine go (fun _ => X0.arraylength hx (by rw [e0]; exact Ar16.1) (State.isArrayOf_alike hZ.alike Ar16.2.1) (g := (mkF m 3 #[.val (.ref a), .val (.ref b)] [(.ref b), (.int (2 : Int32))])) rfl rfl (hb hby d_m4_3) _) ?_
    rw [len_of as16 an16]
    show Run p e below _ (T0.setTop (mkF m 4 #[.val (.ref a), .val (.ref b)] [(.int (1 : Int32)), (.int (2 : Int32))]))
    refine go (fun _ => XS.icmpNo X0.here hx rfl (hb hby d_m4_4) rfl (feq (by decide : ¬ ((2 : Int32) = 1))).1) ?_
    show Run p e below _ (T0.setTop (mkF m 7 #[.val (.ref a), .val (.ref b)] []))
    refine go (fun _ => XS.iconst X0.here hx rfl (hb hby d_m4_7)) ?_
    show Run p e below _ (T0.setTop (mkF m 8 #[.val (.ref a), .val (.ref b)] [(.int (0 : Int32))]))
    exact endN X0 hx hlk (t := .boolean) hret (by simp) (hb hby d_m4_8) (⟨by simp [] <;> rfl, N0, e0⟩) (by decide) (by decide)
  · skip
    have V_a : Arv Z h0 a ka .char (2 : Int32) [(.int c1), (.int c2)] (.int (0 : Int32)) := V_a
    have V_b : Arv Z h0 b kb .char (2 : Int32) [(.int d1), (.int d2)] (.int (0 : Int32)) := V_b
    refine go (fun _ => XS.aloadN X0.here hx rfl (hb hby d_m4_0) rfl rfl) ?_
    show Run p e below _ (T0.setTop (mkF m 1 #[.val (.ref a), .val (.ref b)] [(.ref a)]))
    obtain ⟨cl17, Ar17, ak17, as17, an17, ah17, ag17⟩ := id V_a
    refine go (fun _ => X0.arraylength hx (by rw [e0]; exact Ar17.1) (State.isArrayOf_alike hZ.alike Ar17.2.1) (g := (mkF m 1 #[.val (.ref a), .val (.ref b)] [(.ref a)])) rfl rfl (hb hby d_m4_1) _) ?_
    rw [len_of as17 an17]
    show Run p e below _ (T0.setTop (mkF m 2 #[.val (.ref a), .val (.ref b)] [(.int (2 : Int32))]))
    refine go (fun _ => XS.aloadN X0.here hx rfl (hb hby d_m4_2) rfl rfl) ?_
    show Run p e below _ (T0.setTop (mkF m 3 #[.val (.ref a), .val (.ref b)] [(.ref b), (.int (2 : Int32))]))
    obtain ⟨cl18, Ar18, ak18, as18, an18, ah18, ag18⟩ := id V_b
    refine go (fun _ => X0.arraylength hx (by rw [e0]; exact Ar18.1) (State.isArrayOf_alike hZ.alike Ar18.2.1) (g := (mkF m 3 #[.val (.ref a), .val (.ref b)] [(.ref b), (.int (2 : Int32))])) rfl rfl (hb hby d_m4_3) _) ?_
    rw [len_of as18 an18]
    show Run p e below _ (T0.setTop (mkF m 4 #[.val (.ref a), .val (.ref b)] [(.int (2 : Int32)), (.int (2 : Int32))]))
    refine go (fun _ => XS.icmpYes X0.here hx rfl (pc0 := 4) (pc' := 9) rfl (hb hby d_m4_4) rfl (teq (by decide : (2 : Int32) = 2)).1 (by decide) (by decide)) ?_
    show Run p e below _ (T0.setTop (mkF m 9 #[.val (.ref a), .val (.ref b)] []))
    refine go (fun _ => XS.aloadN X0.here hx rfl (hb hby d_m4_9) rfl rfl) ?_
    show Run p e below _ (T0.setTop (mkF m 10 #[.val (.ref a), .val (.ref b)] [(.ref a)]))
    refine go (fun _ => XS.iconst X0.here hx rfl (hb hby d_m4_10)) ?_
    show Run p e below _ (T0.setTop (mkF m 11 #[.val (.ref a), .val (.ref b)] [(.int (0 : Int32)), (.ref a)]))
    obtain ⟨cl19, Ar19, ak19, as19, an19, ah19, ag19⟩ := id V_a
    have hin19 := inb_of as19 (j := (0 : Int32)) ⟨by decide, by decide⟩
    have hat19 := ah19.at hin19 (v := (.int c1)) rfl
    refine go (fun _ => X0.caload hx (j := (0 : Int32)) (v := (.int c1)) (by rw [e0]; exact Ar19.1) (State.isArrayOf_alike hZ.alike Ar19.2.1) Ar19.2.2 hin19 hat19 (g := (mkF m 11 #[.val (.ref a), .val (.ref b)] [(.int (0 : Int32)), (.ref a)])) rfl rfl (hb hby d_m4_11) _) ?_
    show Run p e below _ (T0.setTop (mkF m 12 #[.val (.ref a), .val (.ref b)] [(.int c1)]))
    refine go (fun _ => XS.aloadN X0.here hx rfl (hb hby d_m4_12) rfl rfl) ?_
    show Run p e below _ (T0.setTop (mkF m 13 #[.val (.ref a), .val (.ref b)] [(.ref b), (.int c1)]))
    refine go (fun _ => XS.iconst X0.here hx rfl (hb hby d_m4_13)) ?_
    show Run p e below _ (T0.setTop (mkF m 14 #[.val (.ref a), .val (.ref b)] [(.int (0 : Int32)), (.ref b), (.int c1)]))
    obtain ⟨cl20, Ar20, ak20, as20, an20, ah20, ag20⟩ := id V_b
    have hin20 := inb_of as20 (j := (0 : Int32)) ⟨by decide, by decide⟩
    have hat20 := ah20.at hin20 (v := (.int d1)) rfl
    refine go (fun _ => X0.caload hx (j := (0 : Int32)) (v := (.int d1)) (by rw [e0]; exact Ar20.1) (State.isArrayOf_alike hZ.alike Ar20.2.1) Ar20.2.2 hin20 hat20 (g := (mkF m 14 #[.val (.ref a), .val (.ref b)] [(.int (0 : Int32)), (.ref b), (.int c1)])) rfl rfl (hb hby d_m4_14) _) ?_
    show Run p e below _ (T0.setTop (mkF m 15 #[.val (.ref a), .val (.ref b)] [(.int d1), (.int c1)]))
    by_cases c21 : c1 = d1
    · skip
      refine go (fun _ => XS.icmpYes X0.here hx rfl (pc0 := 15) (pc' := 20) rfl (hb hby d_m4_15) rfl (teq c21).1 (by decide) (by decide)) ?_
      show Run p e below _ (T0.setTop (mkF m 20 #[.val (.ref a), .val (.ref b)] []))
      refine go (fun _ => XS.aloadN X0.here hx rfl (hb hby d_m4_20) rfl rfl) ?_
      show Run p e below _ (T0.setTop (mkF m 21 #[.val (.ref a), .val (.ref b)] [(.ref a)]))
      obtain ⟨cl22, Ar22, ak22, as22, an22, ah22, ag22⟩ := id V_a
      refine go (fun _ => X0.arraylength hx (by rw [e0]; exact Ar22.1) (State.isArrayOf_alike hZ.alike Ar22.2.1) (g := (mkF m 21 #[.val (.ref a), .val (.ref b)] [(.ref a)])) rfl rfl (hb hby d_m4_21) _) ?_
      rw [len_of as22 an22]
      show Run p e below _ (T0.setTop (mkF m 22 #[.val (.ref a), .val (.ref b)] [(.int (2 : Int32))]))
      refine go (fun _ => XS.iconst X0.here hx rfl (hb hby d_m4_22)) ?_
      show Run p e below _ (T0.setTop (mkF m 23 #[.val (.ref a), .val (.ref b)] [(.int (2 : Int32)), (.int (2 : Int32))]))
      refine go (fun _ => XS.icmpNo X0.here hx rfl (hb hby d_m4_23) rfl (flt (by decide : ¬ ((2 : Int32) < 2))).1) ?_
      show Run p e below _ (T0.setTop (mkF m 26 #[.val (.ref a), .val (.ref b)] []))
      refine go (fun _ => XS.aloadN X0.here hx rfl (hb hby d_m4_26) rfl rfl) ?_
      show Run p e below _ (T0.setTop (mkF m 27 #[.val (.ref a), .val (.ref b)] [(.ref a)]))
      refine go (fun _ => XS.iconst X0.here hx rfl (hb hby d_m4_27)) ?_
      show Run p e below _ (T0.setTop (mkF m 28 #[.val (.ref a), .val (.ref b)] [(.int (1 : Int32)), (.ref a)]))
      obtain ⟨cl23, Ar23, ak23, as23, an23, ah23, ag23⟩ := id V_a
      have hin23 := inb_of as23 (j := (1 : Int32)) ⟨by decide, by decide⟩
      have hat23 := ah23.at hin23 (v := (.int c2)) rfl
      refine go (fun _ => X0.caload hx (j := (1 : Int32)) (v := (.int c2)) (by rw [e0]; exact Ar23.1) (State.isArrayOf_alike hZ.alike Ar23.2.1) Ar23.2.2 hin23 hat23 (g := (mkF m 28 #[.val (.ref a), .val (.ref b)] [(.int (1 : Int32)), (.ref a)])) rfl rfl (hb hby d_m4_28) _) ?_
      show Run p e below _ (T0.setTop (mkF m 29 #[.val (.ref a), .val (.ref b)] [(.int c2)]))
      refine go (fun _ => XS.aloadN X0.here hx rfl (hb hby d_m4_29) rfl rfl) ?_
      show Run p e below _ (T0.setTop (mkF m 30 #[.val (.ref a), .val (.ref b)] [(.ref b), (.int c2)]))
      refine go (fun _ => XS.iconst X0.here hx rfl (hb hby d_m4_30)) ?_
      show Run p e below _ (T0.setTop (mkF m 31 #[.val (.ref a), .val (.ref b)] [(.int (1 : Int32)), (.ref b), (.int c2)]))
      obtain ⟨cl24, Ar24, ak24, as24, an24, ah24, ag24⟩ := id V_b
      have hin24 := inb_of as24 (j := (1 : Int32)) ⟨by decide, by decide⟩
      have hat24 := ah24.at hin24 (v := (.int d2)) rfl
      refine go (fun _ => X0.caload hx (j := (1 : Int32)) (v := (.int d2)) (by rw [e0]; exact Ar24.1) (State.isArrayOf_alike hZ.alike Ar24.2.1) Ar24.2.2 hin24 hat24 (g := (mkF m 31 #[.val (.ref a), .val (.ref b)] [(.int (1 : Int32)), (.ref b), (.int c2)])) rfl rfl (hb hby d_m4_31) _) ?_
      show Run p e below _ (T0.setTop (mkF m 32 #[.val (.ref a), .val (.ref b)] [(.int d2), (.int c2)]))
      by_cases c25 : c2 = d2
      · skip
        refine go (fun _ => XS.icmpNo X0.here hx rfl (hb hby d_m4_32) rfl (teq c25).2) ?_
        show Run p e below _ (T0.setTop (mkF m 35 #[.val (.ref a), .val (.ref b)] []))
        refine go (fun _ => XS.iconst X0.here hx rfl (hb hby d_m4_35)) ?_
        show Run p e below _ (T0.setTop (mkF m 36 #[.val (.ref a), .val (.ref b)] [(.int (1 : Int32))]))
        refine go (fun _ => XS.goto X0.here hx rfl (pc0 := 36) (pc' := 40) rfl (hb hby d_m4_36) (by decide) (by decide)) ?_
        show Run p e below _ (T0.setTop (mkF m 40 #[.val (.ref a), .val (.ref b)] [(.int (1 : Int32))]))
        exact endN X0 hx hlk (t := .boolean) hret (by simp) (hb hby d_m4_40) (⟨by simp [c21, c25] <;> rfl, N0, e0⟩) (by decide) (by decide)
      · skip
        refine go (fun _ => XS.icmpYes X0.here hx rfl (pc0 := 32) (pc' := 39) rfl (hb hby d_m4_32) rfl (feq c25).2 (by decide) (by decide)) ?_
        show Run p e below _ (T0.setTop (mkF m 39 #[.val (.ref a), .val (.ref b)] []))
        refine go (fun _ => XS.iconst X0.here hx rfl (hb hby d_m4_39)) ?_
        show Run p e below _ (T0.setTop (mkF m 40 #[.val (.ref a), .val (.ref b)] [(.int (0 : Int32))]))
        exact endN X0 hx hlk (t := .boolean) hret (by simp) (hb hby d_m4_40) (⟨by simp [c21, c25] <;> rfl, N0, e0⟩) (by decide) (by decide)
    · skip
      refine go (fun _ => XS.icmpNo X0.here hx rfl (hb hby d_m4_15) rfl (feq c21).1) ?_
      show Run p e below _ (T0.setTop (mkF m 18 #[.val (.ref a), .val (.ref b)] []))
      refine go (fun _ => XS.iconst X0.here hx rfl (hb hby d_m4_18)) ?_
      show Run p e below _ (T0.setTop (mkF m 19 #[.val (.ref a), .val (.ref b)] [(.int (0 : Int32))]))
      exact endN X0 hx hlk (t := .boolean) hret (by simp) (hb hby d_m4_19) (⟨by simp [c21] <;> rfl, N0, e0⟩) (by decide) (by decide)
theorem d_j30_m1_0 : decode jdk_30_method_1_code 0 = .ok (.aload_n 0, 1) := by decide +kernel
theorem d_j30_m1_1 : decode jdk_30_method_1_code 1 = .ok (.invokespecial 1, 3) := by decide +kernel
theorem d_j30_m1_4 : decode jdk_30_method_1_code 4 = .ok (.return_, 1) := by decide +kernel
theorem pn_1 : plainName "java/lang/Record" = true := by first | (simp [plainName, overriddenIn]; done) | decide +kernel
def Q_rm_rec (a : Addr) (h0 : Heap) (n0 : Nat) (v : Option Value) (h : Heap) (L : List Loc) : Prop := v = none ∧ Fr n0 L ∧ h = h0
set_option maxRecDepth 65536 in
set_option maxHeartbeats 40000000 in
theorem rm_rec (l : Launch) (Z : State) (a0 : Array Value) (hw : ∀ d ∈ tables_1, d.before a0 Z = true) (ws : List Jvm.Cond) (a : Addr) (h0 : Heap) (n0 : Nat) (O0 : Old Z n0 h0)  :
    Meets l (⟨"java/lang/Record", "<init>", "()V"⟩ : MethodName) jdk_30_method_1_code 1 none ws ({ frames := 1, cells := 0, slots := 0, locals := 12 } : Room) Z #[(.ref a)] h0 (Q_rm_rec a h0 n0) 0 0 := by
  refine enter (Ls := #[.val (.ref a)]) (plainFor_of_name pn_1) (fun m => by first | (simp [entryFrame, mkF, argsToLocals, Value.category]; done) | rfl) ?_
  intro p e s m below meth c T0 hx hby hml hown hnm hret hlk hZ X0 e0
  have N0 := Fr.nil n0
  replace hown : s.vm.findClass "java/lang/Record" = some m.cls := hown
  show Run p e below _ (T0.setTop (mkF m 0 #[.val (.ref a)] []))
  refine go (fun _ => XS.aloadN X0.here hx rfl (hb hby d_j30_m1_0) rfl rfl) ?_
  show Run p e below _ (T0.setTop (mkF m 1 #[.val (.ref a)] [(.ref a)]))
  obtain ⟨T26, X26, e26, st26⟩ := initO X0 hx hZ hown (wd hw 46 rfl) (wd hw 17 rfl) (wd hw 18 rfl) e0 (g := (mkF m 1 #[.val (.ref a)] [(.ref a)])) rfl (by rw [hml]; rfl) rfl (hb hby d_j30_m1_1) (by decide) (W := 0) (by show 2 * 0 + _ ≤ _; exact Nat.le_of_eq rfl) (by decide)
  refine go st26 ?_
  show Run p e below _ (T26.setTop (mkF m 4 #[.val (.ref a)] []))
  exact endV X26 hx hlk hret (hb hby d_j30_m1_4) (⟨rfl, N0, e26⟩) (by decide) (by decide)
theorem d_p10_m1_0 : decode prog_10_method_1_code 0 = .ok (.aload_n 0, 1) := by decide +kernel
theorem d_p10_m1_1 : decode prog_10_method_1_code 1 = .ok (.invokespecial 1, 3) := by decide +kernel
theorem pd_0 : parseMethodDescriptor "()V" = some ⟨[], none⟩ := by decide +kernel
theorem d_p10_m1_4 : decode prog_10_method_1_code 4 = .ok (.aload_n 0, 1) := by decide +kernel
theorem d_p10_m1_5 : decode prog_10_method_1_code 5 = .ok (.aload_n 1, 1) := by decide +kernel
theorem d_p10_m1_6 : decode prog_10_method_1_code 6 = .ok (.putfield 7, 3) := by decide +kernel
theorem d_p10_m1_9 : decode prog_10_method_1_code 9 = .ok (.aload_n 0, 1) := by decide +kernel
theorem d_p10_m1_10 : decode prog_10_method_1_code 10 = .ok (.aload_n 2, 1) := by decide +kernel
theorem d_p10_m1_11 : decode prog_10_method_1_code 11 = .ok (.putfield 13, 3) := by decide +kernel
theorem d_p10_m1_14 : decode prog_10_method_1_code 14 = .ok (.aload_n 0, 1) := by decide +kernel
theorem d_p10_m1_15 : decode prog_10_method_1_code 15 = .ok (.aload_n 3, 1) := by decide +kernel
theorem d_p10_m1_16 : decode prog_10_method_1_code 16 = .ok (.putfield 16, 3) := by decide +kernel
theorem d_p10_m1_19 : decode prog_10_method_1_code 19 = .ok (.return_, 1) := by decide +kernel
theorem pn_2 : plainName "com/example/gridsteward/gridsteward/Holder" = true := by first | (simp [plainName, overriddenIn]; done) | decide +kernel
def Q_rm_ho (Z : State) (a : Addr) (v1 v2 v3 : Value) (h0 : Heap) (n0 : Nat) (v : Option Value) (h : Heap) (L : List Loc) : Prop := v = none ∧ Fr n0 L ∧ Keep h0 h [a] ∧ Exa Z h a "com/example/gridsteward/gridsteward/Holder" ∧ Fld Z h a "com/example/gridsteward/gridsteward/Holder" "subject" "Ljava/lang/String;" v1 ∧ Fld Z h a "com/example/gridsteward/gridsteward/Holder" "issuer" "Ljava/lang/String;" v2 ∧ Fld Z h a "com/example/gridsteward/gridsteward/Holder" "issuerKey" "Ljava/lang/String;" v3
set_option maxRecDepth 65536 in
set_option maxHeartbeats 40000000 in
theorem rm_ho (l : Launch) (Z : State) (a0 : Array Value) (hw : ∀ d ∈ tables_1, d.before a0 Z = true) (ws : List Jvm.Cond) (a : Addr) (v1 v2 v3 : Value) (h0 : Heap) (n0 : Nat) (O0 : Old Z n0 h0) (E_a : Exa Z h0 a "com/example/gridsteward/gridsteward/Holder") (F_subject_a : Fld Z h0 a "com/example/gridsteward/gridsteward/Holder" "subject" "Ljava/lang/String;" .null) (F_issuer_a : Fld Z h0 a "com/example/gridsteward/gridsteward/Holder" "issuer" "Ljava/lang/String;" .null) (F_issuerKey_a : Fld Z h0 a "com/example/gridsteward/gridsteward/Holder" "issuerKey" "Ljava/lang/String;" .null) (g_a : n0 ≤ a) (r1 : v1.isRef = true) (r2 : v2.isRef = true) (r3 : v3.isRef = true) :
    Meets l (⟨"com/example/gridsteward/gridsteward/Holder", "<init>", "(Ljava/lang/String;Ljava/lang/String;Ljava/lang/String;)V"⟩ : MethodName) prog_10_method_1_code 4 none ws ({ frames := 2, cells := 0, slots := 0, locals := 24 } : Room) Z #[(.ref a), v1, v2, v3] h0 (Q_rm_ho Z a v1 v2 v3 h0 n0) 0 0 := by
  refine enter (Ls := #[.val (.ref a), .val v1, .val v2, .val v3]) (plainFor_of_name pn_2) (fun m => by rcases ref_cases r1 with rfl | ⟨_, rfl⟩ <;> rcases ref_cases r2 with rfl | ⟨_, rfl⟩ <;> rcases ref_cases r3 with rfl | ⟨_, rfl⟩ <;> rfl) ?_
  intro p e s m below meth c T0 hx hby hml hown hnm hret hlk hZ X0 e0
  have N0 := Fr.nil n0
  replace hown : s.vm.findClass "com/example/gridsteward/gridsteward/Holder" = some m.cls := hown
  show Run p e below _ (T0.setTop (mkF m 0 #[.val (.ref a), .val v1, .val v2, .val v3] []))
  have K0 := Keep.refl h0 [a]
  refine go (fun _ => XS.aloadN X0.here hx rfl (hb hby d_p10_m1_0) rfl rfl) ?_
  show Run p e below _ (T0.setTop (mkF m 1 #[.val (.ref a), .val v1, .val v2, .val v3] [(.ref a)]))
  refine callSp X0 hx hZ rfl hown (wd hw 41 rfl) (wd hw 42 rfl) (wd hw 45 rfl) (wd hw 44 rfl) (by decide) e0 (a := a) (argsL := []) (rest := []) (rm_rec l Z a0 hw [] a h0 n0 O0) (W := 0) (by decide) (by decide) (by decide) (by decide) (by rw [hml]; rfl) (lenOf pd_0 rfl) rfl (Nat.le_of_eq rfl) (hb hby d_p10_m1_1) ?_
  intro v27 T27 L27 h27 X27 e27 q27
  obtain ⟨rfl, n27, k27⟩ := q27
  have e27 := e27.trans k27
  have N27 := Fr.app N0 n27
  show Run p e below _ (T27.setTop (mkF m 4 #[.val (.ref a), .val v1, .val v2, .val v3] []))
  refine go (fun _ => XS.aloadN X27.here hx rfl (hb hby d_p10_m1_4) rfl rfl) ?_
  show Run p e below _ (T27.setTop (mkF m 5 #[.val (.ref a), .val v1, .val v2, .val v3] [(.ref a)]))
  refine go (fun _ => XS.aloadN X27.here hx rfl (hb hby d_p10_m1_5) rfl r1) ?_
  show Run p e below _ (T27.setTop (mkF m 6 #[.val (.ref a), .val v1, .val v2, .val v3] [v1, (.ref a)]))
  obtain ⟨T28, h28, X28, e28, W28, st28⟩ := putF X27 hx hZ hown (host := "") (Or.inl (wd hw 47 rfl)) Via.refl e27 F_subject_a E_a (Or.inr ⟨(wd hw 48 rfl), rfl, hnm⟩) (wd hw 36 rfl) (ty := (.object "java/lang/String")) (by decide) (narR r1) (fitR r1) (g := (mkF m 6 #[.val (.ref a), .val v1, .val v2, .val v3] [v1, (.ref a)])) rfl rfl (hb hby d_p10_m1_6)
  have O0 := O0.wr W28 g_a
  have E_a := E_a.wr W28
  have F_subject_a := F_subject_a.same W28
  have F_issuer_a := F_issuer_a.other W28 (Or.inr (slot_ne (Or.inr (wd hw 50 rfl)) (Or.inr (wd hw 48 rfl)) (by decide) (t := (.object "java/lang/String")) (t' := (.object "java/lang/String")) (by decide) (by decide)))
  have F_issuerKey_a := F_issuerKey_a.other W28 (Or.inr (slot_ne (Or.inr (wd hw 52 rfl)) (Or.inr (wd hw 48 rfl)) (by decide) (t := (.object "java/lang/String")) (t' := (.object "java/lang/String")) (by decide) (by decide)))
  have K0 := K0.wr W28 (Or.inl (by simp))
  have N28 := Fr.snoc X28 N27 g_a
  refine go st28 ?_
  show Run p e below _ (T28.setTop (mkF m 9 #[.val (.ref a), .val v1, .val v2, .val v3] []))
  refine go (fun _ => XS.aloadN X28.here hx rfl (hb hby d_p10_m1_9) rfl rfl) ?_
  show Run p e below _ (T28.setTop (mkF m 10 #[.val (.ref a), .val v1, .val v2, .val v3] [(.ref a)]))
  refine go (fun _ => XS.aloadN X28.here hx rfl (hb hby d_p10_m1_10) rfl r2) ?_
  show Run p e below _ (T28.setTop (mkF m 11 #[.val (.ref a), .val v1, .val v2, .val v3] [v2, (.ref a)]))
  obtain ⟨T29, h29, X29, e29, W29, st29⟩ := putF X28 hx hZ hown (host := "") (Or.inl (wd hw 49 rfl)) Via.refl e28 F_issuer_a E_a (Or.inr ⟨(wd hw 50 rfl), rfl, hnm⟩) (wd hw 36 rfl) (ty := (.object "java/lang/String")) (by decide) (narR r2) (fitR r2) (g := (mkF m 11 #[.val (.ref a), .val v1, .val v2, .val v3] [v2, (.ref a)])) rfl rfl (hb hby d_p10_m1_11)
  have O0 := O0.wr W29 g_a
  have E_a := E_a.wr W29
  have F_subject_a := F_subject_a.other W29 (Or.inr (slot_ne (Or.inr (wd hw 48 rfl)) (Or.inr (wd hw 50 rfl)) (by decide) (t := (.object "java/lang/String")) (t' := (.object "java/lang/String")) (by decide) (by decide)))
  have F_issuer_a := F_issuer_a.same W29
  have F_issuerKey_a := F_issuerKey_a.other W29 (Or.inr (slot_ne (Or.inr (wd hw 52 rfl)) (Or.inr (wd hw 50 rfl)) (by decide) (t := (.object "java/lang/String")) (t' := (.object "java/lang/String")) (by decide) (by decide)))
  have K0 := K0.wr W29 (Or.inl (by simp))
  have N29 := Fr.snoc X29 N28 g_a
  refine go st29 ?_
  show Run p e below _ (T29.setTop (mkF m 14 #[.val (.ref a), .val v1, .val v2, .val v3] []))
  refine go (fun _ => XS.aloadN X29.here hx rfl (hb hby d_p10_m1_14) rfl rfl) ?_
  show Run p e below _ (T29.setTop (mkF m 15 #[.val (.ref a), .val v1, .val v2, .val v3] [(.ref a)]))
  refine go (fun _ => XS.aloadN X29.here hx rfl (hb hby d_p10_m1_15) rfl r3) ?_
  show Run p e below _ (T29.setTop (mkF m 16 #[.val (.ref a), .val v1, .val v2, .val v3] [v3, (.ref a)]))
  obtain ⟨T30, h30, X30, e30, W30, st30⟩ := putF X29 hx hZ hown (host := "") (Or.inl (wd hw 51 rfl)) Via.refl e29 F_issuerKey_a E_a (Or.inr ⟨(wd hw 52 rfl), rfl, hnm⟩) (wd hw 36 rfl) (ty := (.object "java/lang/String")) (by decide) (narR r3) (fitR r3) (g := (mkF m 16 #[.val (.ref a), .val v1, .val v2, .val v3] [v3, (.ref a)])) rfl rfl (hb hby d_p10_m1_16)
  have O0 := O0.wr W30 g_a
  have E_a := E_a.wr W30
  have F_subject_a := F_subject_a.other W30 (Or.inr (slot_ne (Or.inr (wd hw 48 rfl)) (Or.inr (wd hw 52 rfl)) (by decide) (t := (.object "java/lang/String")) (t' := (.object "java/lang/String")) (by decide) (by decide)))
  have F_issuer_a := F_issuer_a.other W30 (Or.inr (slot_ne (Or.inr (wd hw 50 rfl)) (Or.inr (wd hw 52 rfl)) (by decide) (t := (.object "java/lang/String")) (t' := (.object "java/lang/String")) (by decide) (by decide)))
  have F_issuerKey_a := F_issuerKey_a.same W30
  have K0 := K0.wr W30 (Or.inl (by simp))
  have N30 := Fr.snoc X30 N29 g_a
  refine go st30 ?_
  show Run p e below _ (T30.setTop (mkF m 19 #[.val (.ref a), .val v1, .val v2, .val v3] []))
  exact endV X30 hx hlk hret (hb hby d_p10_m1_19) (by rw [e30]; exact ⟨rfl, N30, K0, E_a, F_subject_a, F_issuer_a, F_issuerKey_a⟩) (by decide) (by decide)
/-- null, or a String that is known -/
def OS (Z : State) (h : Heap) (v : Value) (o : Option (List Int32)) : Prop := (v = .null ∧ o = none) ∨ ∃ (x t : Addr) (kb : ClassId) (cs : List Int32), v = .ref x ∧ o = some cs ∧ Str Z h x t kb cs ∧ In8 cs ∧ cs.length ≤ 4000
theorem OS.isRef {Z : State} {h : Heap} {v : Value} {o : Option (List Int32)} (H : OS Z h v o) : v.isRef = true := by rcases H with ⟨rfl, -⟩ | ⟨x, t, kb, cs, rfl, -⟩ <;> rfl
def uoe : Option (List Int32) → Option (List Int32) → Int32
  | some c, some d => if c = d then 1 else 0
  | _, _ => 1
theorem d_p10_m7_0 : decode prog_10_method_7_code 0 = .ok (.aload_n 0, 1) := by decide +kernel
theorem d_p10_m7_1 : decode prog_10_method_7_code 1 = .ok (.ifnull 15, 3) := by decide +kernel
theorem d_p10_m7_4 : decode prog_10_method_7_code 4 = .ok (.aload_n 1, 1) := by decide +kernel
theorem d_p10_m7_5 : decode prog_10_method_7_code 5 = .ok (.ifnull 11, 3) := by decide +kernel
theorem d_p10_m7_8 : decode prog_10_method_7_code 8 = .ok (.aload_n 0, 1) := by decide +kernel
theorem d_p10_m7_9 : decode prog_10_method_7_code 9 = .ok (.aload_n 1, 1) := by decide +kernel
theorem d_p10_m7_10 : decode prog_10_method_7_code 10 = .ok (.invokevirtual 55, 3) := by decide +kernel
theorem pd_1 : parseMethodDescriptor "(Ljava/lang/Object;)Z" = some ⟨[(.object "java/lang/Object")], some .boolean⟩ := by decide +kernel
theorem d_p10_m7_13 : decode prog_10_method_7_code 13 = .ok (.ifCond .eq 7, 3) := by decide +kernel
theorem d_p10_m7_20 : decode prog_10_method_7_code 20 = .ok (.iconst 0, 1) := by decide +kernel
theorem d_p10_m7_21 : decode prog_10_method_7_code 21 = .ok (.ireturn, 1) := by decide +kernel
theorem d_p10_m7_16 : decode prog_10_method_7_code 16 = .ok (.iconst 1, 1) := by decide +kernel
theorem d_p10_m7_17 : decode prog_10_method_7_code 17 = .ok (.goto 4, 3) := by decide +kernel
def Q_rm_urr (zc : Int32) (x1 t1 : Addr) (kb1 : ClassId) (c1 : List Int32) (x2 t2 : Addr) (kb2 : ClassId) (c2 : List Int32) (h0 : Heap) (n0 : Nat) (v : Option Value) (h : Heap) (L : List Loc) : Prop := v = some (.int (if c1 = c2 then 1 else 0)) ∧ Fr n0 L ∧ h = h0
set_option maxRecDepth 65536 in
set_option maxHeartbeats 40000000 in
theorem rm_urr (l : Launch) (Z : State) (a0 : Array Value) (hw : ∀ d ∈ tables_1, d.before a0 Z = true) (ws : List Jvm.Cond) (zc : Int32) (x1 t1 : Addr) (kb1 : ClassId) (c1 : List Int32) (x2 t2 : Addr) (kb2 : ClassId) (c2 : List Int32) (h0 : Heap) (n0 : Nat) (O0 : Old Z n0 h0) (S_COMPACT_STRINGS : Sta Z Z.heap "java/lang/String" "COMPACT_STRINGS" "Z" (.int zc)) (hzc : ¬ zc = 0) (T_x1 : Str Z h0 x1 t1 kb1 c1) (T_x2 : Str Z h0 x2 t2 kb2 c2) (Hx1 : In8 c1) (l1 : c1.length ≤ 4000) (Hx2 : In8 c2) (l2 : c2.length ≤ 4000) :
    Meets l (⟨"com/example/gridsteward/gridsteward/Holder", "unknownOrEqual", "(Ljava/lang/String;Ljava/lang/String;)Z"⟩ : MethodName) prog_10_method_7_code 2 (some .boolean) ws ({ frames := 2, cells := 0, slots := 0, locals := 28 } : Room) Z #[(.ref x1), (.ref x2)] h0 (Q_rm_urr zc x1 t1 kb1 c1 x2 t2 kb2 c2 h0 n0) 0 0 := by
  refine enter (Ls := #[.val (.ref x1), .val (.ref x2)]) (plainFor_of_name pn_2) (fun m => by first | (simp [entryFrame, mkF, argsToLocals, Value.category]; done) | rfl) ?_
  intro p e s m below meth c T0 hx hby hml hown hnm hret hlk hZ X0 e0
  have N0 := Fr.nil n0
  replace hown : s.vm.findClass "com/example/gridsteward/gridsteward/Holder" = some m.cls := hown
  show Run p e below _ (T0.setTop (mkF m 0 #[.val (.ref x1), .val (.ref x2)] []))
  refine go (fun _ => XS.aloadN X0.here hx rfl (hb hby d_p10_m7_0) rfl rfl) ?_
  show Run p e below _ (T0.setTop (mkF m 1 #[.val (.ref x1), .val (.ref x2)] [(.ref x1)]))
  refine go (fun _ => XS.ifnullNo X0.here hx rfl (hb hby d_p10_m7_1) rfl) ?_
  show Run p e below _ (T0.setTop (mkF m 4 #[.val (.ref x1), .val (.ref x2)] []))
  refine go (fun _ => XS.aloadN X0.here hx rfl (hb hby d_p10_m7_4) rfl rfl) ?_
  show Run p e below _ (T0.setTop (mkF m 5 #[.val (.ref x1), .val (.ref x2)] [(.ref x2)]))
  refine go (fun _ => XS.ifnullNo X0.here hx rfl (hb hby d_p10_m7_5) rfl) ?_
  show Run p e below _ (T0.setTop (mkF m 8 #[.val (.ref x1), .val (.ref x2)] []))
  refine go (fun _ => XS.aloadN X0.here hx rfl (hb hby d_p10_m7_8) rfl rfl) ?_
  show Run p e below _ (T0.setTop (mkF m 9 #[.val (.ref x1), .val (.ref x2)] [(.ref x1)]))
  refine go (fun _ => XS.aloadN X0.here hx rfl (hb hby d_p10_m7_9) rfl rfl) ?_
  show Run p e below _ (T0.setTop (mkF m 10 #[.val (.ref x1), .val (.ref x2)] [(.ref x2), (.ref x1)]))
  refine callViK X0 hx hZ hown (wd hw 61 rfl) (wd hw 62 rfl) (notFace_of_selects (args := #[]) (mvT hZ (wd hw 64 rfl))) (wd hw 64 rfl) (wd hw 63 rfl) (by decide) e0 T_x1.1 (argsL := [(.ref x2)]) (rest := []) (W := 0) (payEq (n0 := n0) hZ hw (wd hw 7 rfl) O0 T_x1 Hx1 l1 T_x2 Hx2 l2 S_COMPACT_STRINGS hzc (by decide) (by decide)) (by decide) (by decide) (by rw [hml]; rfl) (lenOf pd_1 rfl) rfl (Nat.le_of_eq rfl) (hb hby d_p10_m7_10) ?_
  intro v31 T31 L31 h31 X31 e31 q31
  obtain ⟨rv, n31, k31⟩ := q31
  replace rv : v31 = some (.int (if c1 = c2 then (1 : Int32) else 0)) := rv
  subst rv
  have e31 := e31.trans k31
  have N31 := Fr.app N0 n31
  show Run p e below _ (T31.setTop (mkF m 13 #[.val (.ref x1), .val (.ref x2)] [(.int (if c1 = c2 then (1 : Int32) else 0))]))
  by_cases c32 : (if c1 = c2 then (1 : Int32) else 0) = 0
  · skip
    refine go (fun _ => XS.ifYes X31.here hx rfl (pc0 := 13) (pc' := 20) rfl (hb hby d_p10_m7_13) rfl ((if0 _ _).trans (teq c32).1) (by decide) (by decide)) ?_
    show Run p e below _ (T31.setTop (mkF m 20 #[.val (.ref x1), .val (.ref x2)] []))
    refine go (fun _ => XS.iconst X31.here hx rfl (hb hby d_p10_m7_20)) ?_
    show Run p e below _ (T31.setTop (mkF m 21 #[.val (.ref x1), .val (.ref x2)] [(.int (0 : Int32))]))
    exact endN X31 hx hlk (t := .boolean) hret (by simp) (hb hby d_p10_m7_21) (⟨by by_cases q : c1 = c2 <;> simp_all <;> rfl, N31, e31⟩) (by decide) (by decide)
  · skip
    refine go (fun _ => XS.ifNo X31.here hx rfl (hb hby d_p10_m7_13) rfl ((if0 _ _).trans (feq c32).1)) ?_
    show Run p e below _ (T31.setTop (mkF m 16 #[.val (.ref x1), .val (.ref x2)] []))
    refine go (fun _ => XS.iconst X31.here hx rfl (hb hby d_p10_m7_16)) ?_
    show Run p e below _ (T31.setTop (mkF m 17 #[.val (.ref x1), .val (.ref x2)] [(.int (1 : Int32))]))
    refine go (fun _ => XS.goto X31.here hx rfl (pc0 := 17) (pc' := 21) rfl (hb hby d_p10_m7_17) (by decide) (by decide)) ?_
    show Run p e below _ (T31.setTop (mkF m 21 #[.val (.ref x1), .val (.ref x2)] [(.int (1 : Int32))]))
    exact endN X31 hx hlk (t := .boolean) hret (by simp) (hb hby d_p10_m7_21) (⟨by by_cases q : c1 = c2 <;> simp_all <;> rfl, N31, e31⟩) (by decide) (by decide)
def Q_rm_unn (zc : Int32) (h0 : Heap) (n0 : Nat) (v : Option Value) (h : Heap) (L : List Loc) : Prop := v = some (.int 1) ∧ Fr n0 L ∧ h = h0
set_option maxRecDepth 65536 in
set_option maxHeartbeats 40000000 in
theorem rm_unn (l : Launch) (Z : State) (a0 : Array Value) (hw : ∀ d ∈ tables_1, d.before a0 Z = true) (ws : List Jvm.Cond) (zc : Int32) (h0 : Heap) (n0 : Nat) (O0 : Old Z n0 h0) (S_COMPACT_STRINGS : Sta Z Z.heap "java/lang/String" "COMPACT_STRINGS" "Z" (.int zc)) (hzc : ¬ zc = 0) :
    Meets l (⟨"com/example/gridsteward/gridsteward/Holder", "unknownOrEqual", "(Ljava/lang/String;Ljava/lang/String;)Z"⟩ : MethodName) prog_10_method_7_code 2 (some .boolean) ws ({ frames := 2, cells := 0, slots := 0, locals := 28 } : Room) Z #[.null, .null] h0 (Q_rm_unn zc h0 n0) 0 0 := by
  refine enter (Ls := #[.val .null, .val .null]) (plainFor_of_name pn_2) (fun m => by first | (simp [entryFrame, mkF, argsToLocals, Value.category]; done) | rfl) ?_
  intro p e s m below meth c T0 hx hby hml hown hnm hret hlk hZ X0 e0
  have N0 := Fr.nil n0
  replace hown : s.vm.findClass "com/example/gridsteward/gridsteward/Holder" = some m.cls := hown
  show Run p e below _ (T0.setTop (mkF m 0 #[.val .null, .val .null] []))
  refine go (fun _ => XS.aloadN X0.here hx rfl (hb hby d_p10_m7_0) rfl rfl) ?_
  show Run p e below _ (T0.setTop (mkF m 1 #[.val .null, .val .null] [.null]))
  refine go (fun _ => XS.ifnullYes X0.here hx rfl (pc0 := 1) (pc' := 16) rfl (hb hby d_p10_m7_1) rfl (by decide) (by decide)) ?_
  show Run p e below _ (T0.setTop (mkF m 16 #[.val .null, .val .null] []))
  refine go (fun _ => XS.iconst X0.here hx rfl (hb hby d_p10_m7_16)) ?_
  show Run p e below _ (T0.setTop (mkF m 17 #[.val .null, .val .null] [(.int (1 : Int32))]))
  refine go (fun _ => XS.goto X0.here hx rfl (pc0 := 17) (pc' := 21) rfl (hb hby d_p10_m7_17) (by decide) (by decide)) ?_
  show Run p e below _ (T0.setTop (mkF m 21 #[.val .null, .val .null] [(.int (1 : Int32))]))
  exact endN X0 hx hlk (t := .boolean) hret (by simp) (hb hby d_p10_m7_21) (⟨rfl, N0, e0⟩) (by decide) (by decide)
def Q_rm_unr (zc : Int32) (x2 t2 : Addr) (kb2 : ClassId) (c2 : List Int32) (h0 : Heap) (n0 : Nat) (v : Option Value) (h : Heap) (L : List Loc) : Prop := v = some (.int 1) ∧ Fr n0 L ∧ h = h0
set_option maxRecDepth 65536 in
set_option maxHeartbeats 40000000 in
theorem rm_unr (l : Launch) (Z : State) (a0 : Array Value) (hw : ∀ d ∈ tables_1, d.before a0 Z = true) (ws : List Jvm.Cond) (zc : Int32) (x2 t2 : Addr) (kb2 : ClassId) (c2 : List Int32) (h0 : Heap) (n0 : Nat) (O0 : Old Z n0 h0) (S_COMPACT_STRINGS : Sta Z Z.heap "java/lang/String" "COMPACT_STRINGS" "Z" (.int zc)) (hzc : ¬ zc = 0) (T_x2 : Str Z h0 x2 t2 kb2 c2) (Hx2 : In8 c2) (l2 : c2.length ≤ 4000) :
    Meets l (⟨"com/example/gridsteward/gridsteward/Holder", "unknownOrEqual", "(Ljava/lang/String;Ljava/lang/String;)Z"⟩ : MethodName) prog_10_method_7_code 2 (some .boolean) ws ({ frames := 2, cells := 0, slots := 0, locals := 28 } : Room) Z #[.null, (.ref x2)] h0 (Q_rm_unr zc x2 t2 kb2 c2 h0 n0) 0 0 := by
  refine enter (Ls := #[.val .null, .val (.ref x2)]) (plainFor_of_name pn_2) (fun m => by first | (simp [entryFrame, mkF, argsToLocals, Value.category]; done) | rfl) ?_
  intro p e s m below meth c T0 hx hby hml hown hnm hret hlk hZ X0 e0
  have N0 := Fr.nil n0
  replace hown : s.vm.findClass "com/example/gridsteward/gridsteward/Holder" = some m.cls := hown
  show Run p e below _ (T0.setTop (mkF m 0 #[.val .null, .val (.ref x2)] []))
  refine go (fun _ => XS.aloadN X0.here hx rfl (hb hby d_p10_m7_0) rfl rfl) ?_
  show Run p e below _ (T0.setTop (mkF m 1 #[.val .null, .val (.ref x2)] [.null]))
  refine go (fun _ => XS.ifnullYes X0.here hx rfl (pc0 := 1) (pc' := 16) rfl (hb hby d_p10_m7_1) rfl (by decide) (by decide)) ?_
  show Run p e below _ (T0.setTop (mkF m 16 #[.val .null, .val (.ref x2)] []))
  refine go (fun _ => XS.iconst X0.here hx rfl (hb hby d_p10_m7_16)) ?_
  show Run p e below _ (T0.setTop (mkF m 17 #[.val .null, .val (.ref x2)] [(.int (1 : Int32))]))
  refine go (fun _ => XS.goto X0.here hx rfl (pc0 := 17) (pc' := 21) rfl (hb hby d_p10_m7_17) (by decide) (by decide)) ?_
  show Run p e below _ (T0.setTop (mkF m 21 #[.val .null, .val (.ref x2)] [(.int (1 : Int32))]))
  exact endN X0 hx hlk (t := .boolean) hret (by simp) (hb hby d_p10_m7_21) (⟨rfl, N0, e0⟩) (by decide) (by decide)
def Q_rm_urn (zc : Int32) (x1 t1 : Addr) (kb1 : ClassId) (c1 : List Int32) (h0 : Heap) (n0 : Nat) (v : Option Value) (h : Heap) (L : List Loc) : Prop := v = some (.int 1) ∧ Fr n0 L ∧ h = h0
set_option maxRecDepth 65536 in
set_option maxHeartbeats 40000000 in
theorem rm_urn (l : Launch) (Z : State) (a0 : Array Value) (hw : ∀ d ∈ tables_1, d.before a0 Z = true) (ws : List Jvm.Cond) (zc : Int32) (x1 t1 : Addr) (kb1 : ClassId) (c1 : List Int32) (h0 : Heap) (n0 : Nat) (O0 : Old Z n0 h0) (S_COMPACT_STRINGS : Sta Z Z.heap "java/lang/String" "COMPACT_STRINGS" "Z" (.int zc)) (hzc : ¬ zc = 0) (T_x1 : Str Z h0 x1 t1 kb1 c1) (Hx1 : In8 c1) (l1 : c1.length ≤ 4000) :
    Meets l (⟨"com/example/gridsteward/gridsteward/Holder", "unknownOrEqual", "(Ljava/lang/String;Ljava/lang/String;)Z"⟩ : MethodName) prog_10_method_7_code 2 (some .boolean) ws ({ frames := 2, cells := 0, slots := 0, locals := 28 } : Room) Z #[(.ref x1), .null] h0 (Q_rm_urn zc x1 t1 kb1 c1 h0 n0) 0 0 := by
  refine enter (Ls := #[.val (.ref x1), .val .null]) (plainFor_of_name pn_2) (fun m => by first | (simp [entryFrame, mkF, argsToLocals, Value.category]; done) | rfl) ?_
  intro p e s m below meth c T0 hx hby hml hown hnm hret hlk hZ X0 e0
  have N0 := Fr.nil n0
  replace hown : s.vm.findClass "com/example/gridsteward/gridsteward/Holder" = some m.cls := hown
  show Run p e below _ (T0.setTop (mkF m 0 #[.val (.ref x1), .val .null] []))
  refine go (fun _ => XS.aloadN X0.here hx rfl (hb hby d_p10_m7_0) rfl rfl) ?_
  show Run p e below _ (T0.setTop (mkF m 1 #[.val (.ref x1), .val .null] [(.ref x1)]))
  refine go (fun _ => XS.ifnullNo X0.here hx rfl (hb hby d_p10_m7_1) rfl) ?_
  show Run p e below _ (T0.setTop (mkF m 4 #[.val (.ref x1), .val .null] []))
  refine go (fun _ => XS.aloadN X0.here hx rfl (hb hby d_p10_m7_4) rfl rfl) ?_
  show Run p e below _ (T0.setTop (mkF m 5 #[.val (.ref x1), .val .null] [.null]))
  refine go (fun _ => XS.ifnullYes X0.here hx rfl (pc0 := 5) (pc' := 16) rfl (hb hby d_p10_m7_5) rfl (by decide) (by decide)) ?_
  show Run p e below _ (T0.setTop (mkF m 16 #[.val (.ref x1), .val .null] []))
  refine go (fun _ => XS.iconst X0.here hx rfl (hb hby d_p10_m7_16)) ?_
  show Run p e below _ (T0.setTop (mkF m 17 #[.val (.ref x1), .val .null] [(.int (1 : Int32))]))
  refine go (fun _ => XS.goto X0.here hx rfl (pc0 := 17) (pc' := 21) rfl (hb hby d_p10_m7_17) (by decide) (by decide)) ?_
  show Run p e below _ (T0.setTop (mkF m 21 #[.val (.ref x1), .val .null] [(.int (1 : Int32))]))
  exact endN X0 hx hlk (t := .boolean) hret (by simp) (hb hby d_p10_m7_21) (⟨rfl, N0, e0⟩) (by decide) (by decide)
theorem rm_u (l : Launch) (Z : State) (a0 : Array Value) (hw : ∀ d ∈ tables_1, d.before a0 Z = true) (ws : List Jvm.Cond) (zc : Int32) (v1 v2 : Value) (o1 o2 : Option (List Int32)) (h0 : Heap) (n0 : Nat) (O0 : Old Z n0 h0) (S_COMPACT_STRINGS : Sta Z Z.heap "java/lang/String" "COMPACT_STRINGS" "Z" (.int zc)) (hzc : ¬ zc = 0) (H1 : OS Z h0 v1 o1) (H2 : OS Z h0 v2 o2) :
    Meets l (⟨"com/example/gridsteward/gridsteward/Holder", "unknownOrEqual", "(Ljava/lang/String;Ljava/lang/String;)Z"⟩ : MethodName) prog_10_method_7_code 2 (some .boolean) ws ({ frames := 2, cells := 0, slots := 0, locals := 28 } : Room) Z #[v1, v2] h0 (QPure (.int (uoe o1 o2)) h0 n0) 0 0 := by
  rcases H1 with ⟨rfl, rfl⟩ | ⟨x1, t1, kb1, c1, rfl, rfl, T1, I1, L1⟩ <;> rcases H2 with ⟨rfl, rfl⟩ | ⟨x2, t2, kb2, c2, rfl, rfl, T2, I2, L2⟩
  · exact rm_unn l Z a0 hw ws zc h0 n0 O0 S_COMPACT_STRINGS hzc
  · exact rm_unr l Z a0 hw ws zc x2 t2 kb2 c2 h0 n0 O0 S_COMPACT_STRINGS hzc T2 I2 L2
  · exact rm_urn l Z a0 hw ws zc x1 t1 kb1 c1 h0 n0 O0 S_COMPACT_STRINGS hzc T1 I1 L1
  · exact rm_urr l Z a0 hw ws zc x1 t1 kb1 c1 x2 t2 kb2 c2 h0 n0 O0 S_COMPACT_STRINGS hzc T1 T2 I1 L1 I2 L2
theorem OS.keep0 {Z : State} {h h' : Heap} {v : Value} {o : Option (List Int32)} (H : OS Z h v o) (K : Keep h h' []) : OS Z h' v o := by
  rcases H with q | ⟨x, t, kb, cs, e1, e2, T, r⟩
  · exact Or.inl q
  · exact Or.inr ⟨x, t, kb, cs, e1, e2, T.keep K nin0 nin0, r⟩
def agV (c d : List Int32) (o1 o2 o3 o4 : Option (List Int32)) : Int32 := if c = d then (if uoe o1 o2 = 1 then (if uoe o3 o4 = 1 then 1 else 0) else 0) else 0
theorem uoe01 (a b : Option (List Int32)) : uoe a b = 0 ∨ uoe a b = 1 := by
  rcases a with _ | a
  · exact Or.inr rfl
  rcases b with _ | b
  · exact Or.inr rfl
  · by_cases q : a = b
    · exact Or.inr (if_pos q)
    · exact Or.inl (if_neg q)
theorem d_p10_m4_0 : decode prog_10_method_4_code 0 = .ok (.aload_n 0, 1) := by decide +kernel
theorem d_p10_m4_1 : decode prog_10_method_4_code 1 = .ok (.getfield 7, 3) := by decide +kernel
theorem d_p10_m4_4 : decode prog_10_method_4_code 4 = .ok (.aload_n 1, 1) := by decide +kernel
theorem d_p10_m4_5 : decode prog_10_method_4_code 5 = .ok (.getfield 7, 3) := by decide +kernel
theorem d_p10_m4_8 : decode prog_10_method_4_code 8 = .ok (.invokevirtual 55, 3) := by decide +kernel
theorem d_p10_m4_11 : decode prog_10_method_4_code 11 = .ok (.ifCond .eq 35, 3) := by decide +kernel
theorem d_p10_m4_46 : decode prog_10_method_4_code 46 = .ok (.iconst 0, 1) := by decide +kernel
theorem d_p10_m4_47 : decode prog_10_method_4_code 47 = .ok (.ireturn, 1) := by decide +kernel
theorem d_p10_m4_14 : decode prog_10_method_4_code 14 = .ok (.aload_n 0, 1) := by decide +kernel
theorem d_p10_m4_15 : decode prog_10_method_4_code 15 = .ok (.getfield 13, 3) := by decide +kernel
theorem d_p10_m4_18 : decode prog_10_method_4_code 18 = .ok (.aload_n 1, 1) := by decide +kernel
theorem d_p10_m4_19 : decode prog_10_method_4_code 19 = .ok (.getfield 13, 3) := by decide +kernel
theorem d_p10_m4_22 : decode prog_10_method_4_code 22 = .ok (.invokestatic 61, 3) := by decide +kernel
theorem pd_2 : parseMethodDescriptor "(Ljava/lang/String;Ljava/lang/String;)Z" = some ⟨[(.object "java/lang/String"), (.object "java/lang/String")], some .boolean⟩ := by decide +kernel
theorem d_p10_m4_25 : decode prog_10_method_4_code 25 = .ok (.ifCond .eq 21, 3) := by decide +kernel
theorem d_p10_m4_28 : decode prog_10_method_4_code 28 = .ok (.aload_n 0, 1) := by decide +kernel
theorem d_p10_m4_29 : decode prog_10_method_4_code 29 = .ok (.getfield 16, 3) := by decide +kernel
theorem d_p10_m4_32 : decode prog_10_method_4_code 32 = .ok (.aload_n 1, 1) := by decide +kernel
theorem d_p10_m4_33 : decode prog_10_method_4_code 33 = .ok (.getfield 16, 3) := by decide +kernel
theorem d_p10_m4_36 : decode prog_10_method_4_code 36 = .ok (.invokestatic 61, 3) := by decide +kernel
theorem d_p10_m4_39 : decode prog_10_method_4_code 39 = .ok (.ifCond .eq 7, 3) := by decide +kernel
theorem d_p10_m4_42 : decode prog_10_method_4_code 42 = .ok (.iconst 1, 1) := by decide +kernel
theorem d_p10_m4_43 : decode prog_10_method_4_code 43 = .ok (.goto 4, 3) := by decide +kernel
def Q_rm_ag (zc : Int32) (a b x1 t1 x2 t2 : Addr) (kb1 kb2 : ClassId) (c1 c2 : List Int32) (i1 i2 k1 k2 : Value) (oi1 oi2 ok1 ok2 : Option (List Int32)) (h0 : Heap) (n0 : Nat) (v : Option Value) (h : Heap) (L : List Loc) : Prop := v = some (.int (agV c1 c2 oi1 oi2 ok1 ok2)) ∧ Fr n0 L ∧ h = h0
set_option maxRecDepth 65536 in
set_option maxHeartbeats 40000000 in
theorem rm_ag (l : Launch) (Z : State) (a0 : Array Value) (hw : ∀ d ∈ tables_1, d.before a0 Z = true) (ws : List Jvm.Cond) (zc : Int32) (a b x1 t1 x2 t2 : Addr) (kb1 kb2 : ClassId) (c1 c2 : List Int32) (i1 i2 k1 k2 : Value) (oi1 oi2 ok1 ok2 : Option (List Int32)) (h0 : Heap) (n0 : Nat) (O0 : Old Z n0 h0) (S_COMPACT_STRINGS : Sta Z Z.heap "java/lang/String" "COMPACT_STRINGS" "Z" (.int zc)) (hzc : ¬ zc = 0) (E_a : Exa Z h0 a "com/example/gridsteward/gridsteward/Holder") (F_subject_a : Fld Z h0 a "com/example/gridsteward/gridsteward/Holder" "subject" "Ljava/lang/String;" (.ref x1)) (F_issuer_a : Fld Z h0 a "com/example/gridsteward/gridsteward/Holder" "issuer" "Ljava/lang/String;" i1) (F_issuerKey_a : Fld Z h0 a "com/example/gridsteward/gridsteward/Holder" "issuerKey" "Ljava/lang/String;" k1) (E_b : Exa Z h0 b "com/example/gridsteward/gridsteward/Holder") (F_subject_b : Fld Z h0 b "com/example/gridsteward/gridsteward/Holder" "subject" "Ljava/lang/String;" (.ref x2)) (F_issuer_b : Fld Z h0 b "com/example/gridsteward/gridsteward/Holder" "issuer" "Ljava/lang/String;" i2) (F_issuerKey_b : Fld Z h0 b "com/example/gridsteward/gridsteward/Holder" "issuerKey" "Ljava/lang/String;" k2) (T_x1 : Str Z h0 x1 t1 kb1 c1) (T_x2 : Str Z h0 x2 t2 kb2 c2) (Hx1 : In8 c1) (l1 : c1.length ≤ 4000) (Hx2 : In8 c2) (l2 : c2.length ≤ 4000) (Hi1 : OS Z h0 i1 oi1) (Hi2 : OS Z h0 i2 oi2) (Hk1 : OS Z h0 k1 ok1) (Hk2 : OS Z h0 k2 ok2) :
    Meets l (⟨"com/example/gridsteward/gridsteward/Holder", "agrees", "(Lcom/example/gridsteward/gridsteward/Holder;)Z"⟩ : MethodName) prog_10_method_4_code 2 (some .boolean) ws ({ frames := 3, cells := 0, slots := 0, locals := 41 } : Room) Z #[(.ref a), (.ref b)] h0 (Q_rm_ag zc a b x1 t1 x2 t2 kb1 kb2 c1 c2 i1 i2 k1 k2 oi1 oi2 ok1 ok2 h0 n0) 0 0 := by
  refine enter (Ls := #[.val (.ref a), .val (.ref b)]) (plainFor_of_name pn_2) (fun m => by first | (simp [entryFrame, mkF, argsToLocals, Value.category]; done) | rfl) ?_
  intro p e s m below meth c T0 hx hby hml hown hnm hret hlk hZ X0 e0
  have N0 := Fr.nil n0
  replace hown : s.vm.findClass "com/example/gridsteward/gridsteward/Holder" = some m.cls := hown
  show Run p e below _ (T0.setTop (mkF m 0 #[.val (.ref a), .val (.ref b)] []))
  refine go (fun _ => XS.aloadN X0.here hx rfl (hb hby d_p10_m4_0) rfl rfl) ?_
  show Run p e below _ (T0.setTop (mkF m 1 #[.val (.ref a), .val (.ref b)] [(.ref a)]))
  obtain ⟨T33, X33, e33, st33⟩ := getF X0 hx hZ hown (host := "") (Or.inl (wd hw 47 rfl)) Via.refl e0 F_subject_a (g := (mkF m 1 #[.val (.ref a), .val (.ref b)] [(.ref a)])) rfl rfl (hb hby d_p10_m4_1)
  refine go st33 ?_
  show Run p e below _ (T33.setTop (mkF m 4 #[.val (.ref a), .val (.ref b)] [(.ref x1)]))
  refine go (fun _ => XS.aloadN X33.here hx rfl (hb hby d_p10_m4_4) rfl rfl) ?_
  show Run p e below _ (T33.setTop (mkF m 5 #[.val (.ref a), .val (.ref b)] [(.ref b), (.ref x1)]))
  obtain ⟨T34, X34, e34, st34⟩ := getF X33 hx hZ hown (host := "") (Or.inl (wd hw 47 rfl)) Via.refl e33 F_subject_b (g := (mkF m 5 #[.val (.ref a), .val (.ref b)] [(.ref b), (.ref x1)])) rfl rfl (hb hby d_p10_m4_5)
  refine go st34 ?_
  show Run p e below _ (T34.setTop (mkF m 8 #[.val (.ref a), .val (.ref b)] [(.ref x2), (.ref x1)]))
  refine callViK X34 hx hZ hown (wd hw 61 rfl) (wd hw 62 rfl) (notFace_of_selects (args := #[]) (mvT hZ (wd hw 64 rfl))) (wd hw 64 rfl) (wd hw 63 rfl) (by decide) e34 T_x1.1 (argsL := [(.ref x2)]) (rest := []) (W := 0) (payEq (n0 := n0) hZ hw (wd hw 7 rfl) O0 T_x1 Hx1 l1 T_x2 Hx2 l2 S_COMPACT_STRINGS hzc (by decide) (by decide)) (by decide) (by decide) (by rw [hml]; rfl) (lenOf pd_1 rfl) rfl (Nat.le_of_eq rfl) (hb hby d_p10_m4_8) ?_
  intro v35 T35 L35 h35 X35 e35 q35
  obtain ⟨rv, n35, k35⟩ := q35
  replace rv : v35 = some (.int (if c1 = c2 then (1 : Int32) else 0)) := rv
  subst rv
  have e35 := e35.trans k35
  have N35 := Fr.app N0 n35
  show Run p e below _ (T35.setTop (mkF m 11 #[.val (.ref a), .val (.ref b)] [(.int (if c1 = c2 then (1 : Int32) else 0))]))
  by_cases c36 : (if c1 = c2 then (1 : Int32) else 0) = 0
  · skip
    refine go (fun _ => XS.ifYes X35.here hx rfl (pc0 := 11) (pc' := 46) rfl (hb hby d_p10_m4_11) rfl ((if0 _ _).trans (teq c36).1) (by decide) (by decide)) ?_
    show Run p e below _ (T35.setTop (mkF m 46 #[.val (.ref a), .val (.ref b)] []))
    refine go (fun _ => XS.iconst X35.here hx rfl (hb hby d_p10_m4_46)) ?_
    show Run p e below _ (T35.setTop (mkF m 47 #[.val (.ref a), .val (.ref b)] [(.int (0 : Int32))]))
    have u1 := uoe01 oi1 oi2
    have u2 := uoe01 ok1 ok2
    exact endN X35 hx hlk (t := .boolean) hret (by simp) (hb hby d_p10_m4_47) (⟨by unfold agV; by_cases q : c1 = c2 <;> rcases u1 with u1 | u1 <;> rcases u2 with u2 | u2 <;> simp_all <;> rfl, N35, e35⟩) (by decide) (by decide)
  · skip
    refine go (fun _ => XS.ifNo X35.here hx rfl (hb hby d_p10_m4_11) rfl ((if0 _ _).trans (feq c36).1)) ?_
    show Run p e below _ (T35.setTop (mkF m 14 #[.val (.ref a), .val (.ref b)] []))
    refine go (fun _ => XS.aloadN X35.here hx rfl (hb hby d_p10_m4_14) rfl rfl) ?_
    show Run p e below _ (T35.setTop (mkF m 15 #[.val (.ref a), .val (.ref b)] [(.ref a)]))
    obtain ⟨T37, X37, e37, st37⟩ := getF X35 hx hZ hown (host := "") (Or.inl (wd hw 49 rfl)) Via.refl e35 F_issuer_a (g := (mkF m 15 #[.val (.ref a), .val (.ref b)] [(.ref a)])) rfl rfl (hb hby d_p10_m4_15)
    refine go st37 ?_
    show Run p e below _ (T37.setTop (mkF m 18 #[.val (.ref a), .val (.ref b)] [i1]))
    refine go (fun _ => XS.aloadN X37.here hx rfl (hb hby d_p10_m4_18) rfl rfl) ?_
    show Run p e below _ (T37.setTop (mkF m 19 #[.val (.ref a), .val (.ref b)] [(.ref b), i1]))
    obtain ⟨T38, X38, e38, st38⟩ := getF X37 hx hZ hown (host := "") (Or.inl (wd hw 49 rfl)) Via.refl e37 F_issuer_b (g := (mkF m 19 #[.val (.ref a), .val (.ref b)] [(.ref b), i1])) rfl rfl (hb hby d_p10_m4_19)
    refine go st38 ?_
    show Run p e below _ (T38.setTop (mkF m 22 #[.val (.ref a), .val (.ref b)] [i2, i1]))
    refine callSt X38 hx hZ hown (wd hw 71 rfl) (wd hw 72 rfl) (wd hw 37 rfl) (wd hw 73 rfl) (by decide) e38 (argsL := [i1, i2]) (rest := []) (rm_u l Z a0 hw [] zc i1 i2 oi1 oi2 h0 n0 O0 S_COMPACT_STRINGS hzc Hi1 Hi2) (W := 0) (by decide) (by decide) (by decide) (by decide) (by rw [hml]; rfl) (lenOf pd_2 rfl) rfl (Nat.le_of_eq rfl) (hb hby d_p10_m4_22) ?_
    intro v39 T39 L39 h39 X39 e39 q39
    obtain ⟨rv, n39, k39⟩ := q39
    replace rv : v39 = some (.int (uoe oi1 oi2)) := rv
    subst rv
    have e39 := e39.trans k39
    have N39 := Fr.app N35 n39
    show Run p e below _ (T39.setTop (mkF m 25 #[.val (.ref a), .val (.ref b)] [(.int (uoe oi1 oi2))]))
    by_cases c40 : (uoe oi1 oi2) = 0
    · skip
      refine go (fun _ => XS.ifYes X39.here hx rfl (pc0 := 25) (pc' := 46) rfl (hb hby d_p10_m4_25) rfl ((if0 _ _).trans (teq c40).1) (by decide) (by decide)) ?_
      show Run p e below _ (T39.setTop (mkF m 46 #[.val (.ref a), .val (.ref b)] []))
      refine go (fun _ => XS.iconst X39.here hx rfl (hb hby d_p10_m4_46)) ?_
      show Run p e below _ (T39.setTop (mkF m 47 #[.val (.ref a), .val (.ref b)] [(.int (0 : Int32))]))
      have u1 := uoe01 oi1 oi2
      have u2 := uoe01 ok1 ok2
      exact endN X39 hx hlk (t := .boolean) hret (by simp) (hb hby d_p10_m4_47) (⟨by unfold agV; by_cases q : c1 = c2 <;> rcases u1 with u1 | u1 <;> rcases u2 with u2 | u2 <;> simp_all <;> rfl, N39, e39⟩) (by decide) (by decide)
    · skip
      refine go (fun _ => XS.ifNo X39.here hx rfl (hb hby d_p10_m4_25) rfl ((if0 _ _).trans (feq c40).1)) ?_
      show Run p e below _ (T39.setTop (mkF m 28 #[.val (.ref a), .val (.ref b)] []))
      refine go (fun _ => XS.aloadN X39.here hx rfl (hb hby d_p10_m4_28) rfl rfl) ?_
      show Run p e below _ (T39.setTop (mkF m 29 #[.val (.ref a), .val (.ref b)] [(.ref a)]))
      obtain ⟨T41, X41, e41, st41⟩ := getF X39 hx hZ hown (host := "") (Or.inl (wd hw 51 rfl)) Via.refl e39 F_issuerKey_a (g := (mkF m 29 #[.val (.ref a), .val (.ref b)] [(.ref a)])) rfl rfl (hb hby d_p10_m4_29)
      refine go st41 ?_
      show Run p e below _ (T41.setTop (mkF m 32 #[.val (.ref a), .val (.ref b)] [k1]))
      refine go (fun _ => XS.aloadN X41.here hx rfl (hb hby d_p10_m4_32) rfl rfl) ?_
      show Run p e below _ (T41.setTop (mkF m 33 #[.val (.ref a), .val (.ref b)] [(.ref b), k1]))
      obtain ⟨T42, X42, e42, st42⟩ := getF X41 hx hZ hown (host := "") (Or.inl (wd hw 51 rfl)) Via.refl e41 F_issuerKey_b (g := (mkF m 33 #[.val (.ref a), .val (.ref b)] [(.ref b), k1])) rfl rfl (hb hby d_p10_m4_33)
      refine go st42 ?_
      show Run p e below _ (T42.setTop (mkF m 36 #[.val (.ref a), .val (.ref b)] [k2, k1]))
      refine callSt X42 hx hZ hown (wd hw 71 rfl) (wd hw 72 rfl) (wd hw 37 rfl) (wd hw 73 rfl) (by decide) e42 (argsL := [k1, k2]) (rest := []) (rm_u l Z a0 hw [] zc k1 k2 ok1 ok2 h0 n0 O0 S_COMPACT_STRINGS hzc Hk1 Hk2) (W := 0) (by decide) (by decide) (by decide) (by decide) (by rw [hml]; rfl) (lenOf pd_2 rfl) rfl (Nat.le_of_eq rfl) (hb hby d_p10_m4_36) ?_
      intro v43 T43 L43 h43 X43 e43 q43
      obtain ⟨rv, n43, k43⟩ := q43
      replace rv : v43 = some (.int (uoe ok1 ok2)) := rv
      subst rv
      have e43 := e43.trans k43
      have N43 := Fr.app N39 n43
      show Run p e below _ (T43.setTop (mkF m 39 #[.val (.ref a), .val (.ref b)] [(.int (uoe ok1 ok2))]))
      by_cases c44 : (uoe ok1 ok2) = 0
      · skip
        refine go (fun _ => XS.ifYes X43.here hx rfl (pc0 := 39) (pc' := 46) rfl (hb hby d_p10_m4_39) rfl ((if0 _ _).trans (teq c44).1) (by decide) (by decide)) ?_
        show Run p e below _ (T43.setTop (mkF m 46 #[.val (.ref a), .val (.ref b)] []))
        refine go (fun _ => XS.iconst X43.here hx rfl (hb hby d_p10_m4_46)) ?_
        show Run p e below _ (T43.setTop (mkF m 47 #[.val (.ref a), .val (.ref b)] [(.int (0 : Int32))]))
        have u1 := uoe01 oi1 oi2
        have u2 := uoe01 ok1 ok2
        exact endN X43 hx hlk (t := .boolean) hret (by simp) (hb hby d_p10_m4_47) (⟨by unfold agV; by_cases q : c1 = c2 <;> rcases u1 with u1 | u1 <;> rcases u2 with u2 | u2 <;> simp_all <;> rfl, N43, e43⟩) (by decide) (by decide)
      · skip
        refine go (fun _ => XS.ifNo X43.here hx rfl (hb hby d_p10_m4_39) rfl ((if0 _ _).trans (feq c44).1)) ?_
        show Run p e below _ (T43.setTop (mkF m 42 #[.val (.ref a), .val (.ref b)] []))
        refine go (fun _ => XS.iconst X43.here hx rfl (hb hby d_p10_m4_42)) ?_
        show Run p e below _ (T43.setTop (mkF m 43 #[.val (.ref a), .val (.ref b)] [(.int (1 : Int32))]))
        refine go (fun _ => XS.goto X43.here hx rfl (pc0 := 43) (pc' := 47) rfl (hb hby d_p10_m4_43) (by decide) (by decide)) ?_
        show Run p e below _ (T43.setTop (mkF m 47 #[.val (.ref a), .val (.ref b)] [(.int (1 : Int32))]))
        have u1 := uoe01 oi1 oi2
        have u2 := uoe01 ok1 ok2
        exact endN X43 hx hlk (t := .boolean) hret (by simp) (hb hby d_p10_m4_47) (⟨by unfold agV; by_cases q : c1 = c2 <;> rcases u1 with u1 | u1 <;> rcases u2 with u2 | u2 <;> simp_all <;> rfl, N43, e43⟩) (by decide) (by decide)
theorem pd_3 : parseMethodDescriptor "(II)[C" = some ⟨[.int, .int], some (.array .char)⟩ := by decide +kernel
theorem pd_4 : parseMethodDescriptor "([C)V" = some ⟨[(.array .char)], none⟩ := by decide +kernel
theorem pd_5 : parseMethodDescriptor "(Ljava/lang/String;Ljava/lang/String;Ljava/lang/String;)V" = some ⟨[(.object "java/lang/String"), (.object "java/lang/String"), (.object "java/lang/String")], none⟩ := by decide +kernel
theorem pd_6 : parseMethodDescriptor "(Lcom/example/gridsteward/gridsteward/Holder;)Z" = some ⟨[(.object "com/example/gridsteward/gridsteward/Holder")], some .boolean⟩ := by decide +kernel
theorem pd_7 : parseMethodDescriptor "([C[C)Z" = some ⟨[(.array .char), (.array .char)], some .boolean⟩ := by decide +kernel
def Q_rmlaw (p0 p1 p2 p3 zc : Int32) (h0 : Heap) (n0 : Nat) (v : Option Value) (h : Heap) (L : List Loc) : Prop := v = some (.int 1) ∧ Fr n0 L
set_option maxRecDepth 65536 in
set_option maxHeartbeats 40000000 in
theorem rmlaw (l : Launch) (Z : State) (a0 : Array Value) (hw : ∀ d ∈ tables_1, d.before a0 Z = true) (ws : List Jvm.Cond) (p0 p1 p2 p3 zc : Int32) (h0 : Heap) (n0 : Nat) (O0 : Old Z n0 h0) (S_COMPACT_STRINGS : Sta Z Z.heap "java/lang/String" "COMPACT_STRINGS" "Z" (.int zc)) (hzc : ¬ zc = 0) :
    Meets l x code maxLocals ret ws room_1 Z #[(.int p0), (.int p1), (.int p2), (.int p3)] h0 (Q_rmlaw p0 p1 p2 p3 zc h0 n0) 48 192 := by
  refine enter (Ls := #[.val (.int p0), .val (.int p1), .val (.int p2), .val (.int p3), .unset, .unset, .unset, .unset, .unset, .unset, .unset, .unset, .unset, .unset, .unset, .unset, .unset, .unset, .unset, .unset, .unset, .unset, .unset, .unset, .unset, .unset, .unset]) (plainFor_of_name pn_0) (fun m => by first | (simp [entryFrame, mkF, argsToLocals, Value.category, maxLocals]; done) | rfl) ?_
  intro p e s m below meth c T0 hx hby hml hown hnm hret hlk hZ X0 e0
  have N0 := Fr.nil n0
  replace hown : s.vm.findClass "com/example/gridsteward/gridsteward/HolderAgreesPinLaw" = some m.cls := hown
  show Run p e below _ (T0.setTop (mkF m 0 #[.val (.int p0), .val (.int p1), .val (.int p2), .val (.int p3), .unset, .unset, .unset, .unset, .unset, .unset, .unset, .unset, .unset, .unset, .unset, .unset, .unset, .unset, .unset, .unset, .unset, .unset, .unset, .unset, .unset, .unset, .unset] []))
  refine go (fun _ => XS.iloadN X0.here hx rfl (hb hby at_0) rfl) ?_
  show Run p e below _ (T0.setTop (mkF m 1 #[.val (.int p0), .val (.int p1), .val (.int p2), .val (.int p3), .unset, .unset, .unset, .unset, .unset, .unset, .unset, .unset, .unset, .unset, .unset, .unset, .unset, .unset, .unset, .unset, .unset, .unset, .unset, .unset, .unset, .unset, .unset] [(.int p0)]))
  refine go (fun _ => X0.ldcI hx hown (mvT hZ (wd hw 0 rfl)) rfl (hb hby at_1)) ?_
  show Run p e below _ (T0.setTop (mkF m 3 #[.val (.int p0), .val (.int p1), .val (.int p2), .val (.int p3), .unset, .unset, .unset, .unset, .unset, .unset, .unset, .unset, .unset, .unset, .unset, .unset, .unset, .unset, .unset, .unset, .unset, .unset, .unset, .unset, .unset, .unset, .unset] [(.int (65535 : Int32)), (.int p0)]))
  refine go (fun _ => XS.iand X0.here hx rfl (hb hby at_3) rfl) ?_
  show Run p e below _ (T0.setTop (mkF m 4 #[.val (.int p0), .val (.int p1), .val (.int p2), .val (.int p3), .unset, .unset, .unset, .unset, .unset, .unset, .unset, .unset, .unset, .unset, .unset, .unset, .unset, .unset, .unset, .unset, .unset, .unset, .unset, .unset, .unset, .unset, .unset] [(.int (p0 &&& (65535 : Int32)))]))
  refine go (fun _ => XS.istore X0.here hx rfl (hb hby at_4) rfl (l' := #[.val (.int p0), .val (.int p1), .val (.int p2), .val (.int p3), .val (.int (p0 &&& (65535 : Int32))), .unset, .unset, .unset, .unset, .unset, .unset, .unset, .unset, .unset, .unset, .unset, .unset, .unset, .unset, .unset, .unset, .unset, .unset, .unset, .unset, .unset, .unset]) rfl) ?_
  show Run p e below _ (T0.setTop (mkF m 6 #[.val (.int p0), .val (.int p1), .val (.int p2), .val (.int p3), .val (.int (p0 &&& (65535 : Int32))), .unset, .unset, .unset, .unset, .unset, .unset, .unset, .unset, .unset, .unset, .unset, .unset, .unset, .unset, .unset, .unset, .unset, .unset, .unset, .unset, .unset, .unset] []))
  refine go (fun _ => XS.iloadN X0.here hx rfl (hb hby at_6) rfl) ?_
  show Run p e below _ (T0.setTop (mkF m 7 #[.val (.int p0), .val (.int p1), .val (.int p2), .val (.int p3), .val (.int (p0 &&& (65535 : Int32))), .unset, .unset, .unset, .unset, .unset, .unset, .unset, .unset, .unset, .unset, .unset, .unset, .unset, .unset, .unset, .unset, .unset, .unset, .unset, .unset, .unset, .unset] [(.int p3)]))
  refine go (fun _ => XS.iconst X0.here hx rfl (hb hby at_7)) ?_
  show Run p e below _ (T0.setTop (mkF m 8 #[.val (.int p0), .val (.int p1), .val (.int p2), .val (.int p3), .val (.int (p0 &&& (65535 : Int32))), .unset, .unset, .unset, .unset, .unset, .unset, .unset, .unset, .unset, .unset, .unset, .unset, .unset, .unset, .unset, .unset, .unset, .unset, .unset, .unset, .unset, .unset] [(.int (2 : Int32)), (.int p3)]))
  refine go (fun _ => XS.iushr X0.here hx rfl (hb hby at_8) rfl) ?_
  show Run p e below _ (T0.setTop (mkF m 9 #[.val (.int p0), .val (.int p1), .val (.int p2), .val (.int p3), .val (.int (p0 &&& (65535 : Int32))), .unset, .unset, .unset, .unset, .unset, .unset, .unset, .unset, .unset, .unset, .unset, .unset, .unset, .unset, .unset, .unset, .unset, .unset, .unset, .unset, .unset, .unset] [(.int ((p3.toUInt32 >>> ((2 : Int32) &&& 31).toUInt32).toInt32))]))
  refine go (fun _ => XS.iconst X0.here hx rfl (hb hby at_9)) ?_
  show Run p e below _ (T0.setTop (mkF m 10 #[.val (.int p0), .val (.int p1), .val (.int p2), .val (.int p3), .val (.int (p0 &&& (65535 : Int32))), .unset, .unset, .unset, .unset, .unset, .unset, .unset, .unset, .unset, .unset, .unset, .unset, .unset, .unset, .unset, .unset, .unset, .unset, .unset, .unset, .unset, .unset] [(.int (1 : Int32)), (.int ((p3.toUInt32 >>> ((2 : Int32) &&& 31).toUInt32).toInt32))]))
  refine go (fun _ => XS.iand X0.here hx rfl (hb hby at_10) rfl) ?_
  show Run p e below _ (T0.setTop (mkF m 11 #[.val (.int p0), .val (.int p1), .val (.int p2), .val (.int p3), .val (.int (p0 &&& (65535 : Int32))), .unset, .unset, .unset, .unset, .unset, .unset, .unset, .unset, .unset, .unset, .unset, .unset, .unset, .unset, .unset, .unset, .unset, .unset, .unset, .unset, .unset, .unset] [(.int (((p3.toUInt32 >>> ((2 : Int32) &&& 31).toUInt32).toInt32) &&& (1 : Int32)))]))
  have J26 : ∀ (T45 : State) (L45 : List Loc) (X45 : Stand p l e room_1 s m #[(.int p0), (.int p1), (.int p2), (.int p3)] below meth c T45 L45 0 0) (e45 : T45.heap = h0) (N45 : Fr n0 L45) (vs : Int32)  , Run p e below (Ends s (Q_rmlaw p0 p1 p2 p3 zc h0 n0) 48 192) (T45.setTop (mkF m 26 #[.val (.int p0), .val (.int p1), .val (.int p2), .val (.int p3), .val (.int (p0 &&& (65535 : Int32))), .unset, .unset, .unset, .unset, .unset, .unset, .unset, .unset, .unset, .unset, .unset, .unset, .unset, .unset, .unset, .unset, .unset, .unset, .unset, .unset, .unset, .unset] [(.int vs)])) := by
    intro T45 L45 X45 e45 N45 vs  
    refine go (fun _ => XS.istore X45.here hx rfl (hb hby at_26) rfl (l' := #[.val (.int p0), .val (.int p1), .val (.int p2), .val (.int p3), .val (.int (p0 &&& (65535 : Int32))), .val (.int vs), .unset, .unset, .unset, .unset, .unset, .unset, .unset, .unset, .unset, .unset, .unset, .unset, .unset, .unset, .unset, .unset, .unset, .unset, .unset, .unset, .unset]) rfl) ?_
    show Run p e below _ (T45.setTop (mkF m 28 #[.val (.int p0), .val (.int p1), .val (.int p2), .val (.int p3), .val (.int (p0 &&& (65535 : Int32))), .val (.int vs), .unset, .unset, .unset, .unset, .unset, .unset, .unset, .unset, .unset, .unset, .unset, .unset, .unset, .unset, .unset, .unset, .unset, .unset, .unset, .unset, .unset] []))
    refine go (fun _ => XS.iload X45.here hx rfl (hb hby at_28) rfl) ?_
    show Run p e below _ (T45.setTop (mkF m 30 #[.val (.int p0), .val (.int p1), .val (.int p2), .val (.int p3), .val (.int (p0 &&& (65535 : Int32))), .val (.int vs), .unset, .unset, .unset, .unset, .unset, .unset, .unset, .unset, .unset, .unset, .unset, .unset, .unset, .unset, .unset, .unset, .unset, .unset, .unset, .unset, .unset] [(.int (p0 &&& (65535 : Int32)))]))
    refine go (fun _ => XS.iloadN X45.here hx rfl (hb hby at_30) rfl) ?_
    show Run p e below _ (T45.setTop (mkF m 31 #[.val (.int p0), .val (.int p1), .val (.int p2), .val (.int p3), .val (.int (p0 &&& (65535 : Int32))), .val (.int vs), .unset, .unset, .unset, .unset, .unset, .unset, .unset, .unset, .unset, .unset, .unset, .unset, .unset, .unset, .unset, .unset, .unset, .unset, .unset, .unset, .unset] [(.int p3), (.int (p0 &&& (65535 : Int32)))]))
    refine go (fun _ => XS.iconst X45.here hx rfl (hb hby at_31)) ?_
    show Run p e below _ (T45.setTop (mkF m 32 #[.val (.int p0), .val (.int p1), .val (.int p2), .val (.int p3), .val (.int (p0 &&& (65535 : Int32))), .val (.int vs), .unset, .unset, .unset, .unset, .unset, .unset, .unset, .unset, .unset, .unset, .unset, .unset, .unset, .unset, .unset, .unset, .unset, .unset, .unset, .unset, .unset] [(.int (1 : Int32)), (.int p3), (.int (p0 &&& (65535 : Int32)))]))
    refine go (fun _ => XS.iand X45.here hx rfl (hb hby at_32) rfl) ?_
    show Run p e below _ (T45.setTop (mkF m 33 #[.val (.int p0), .val (.int p1), .val (.int p2), .val (.int p3), .val (.int (p0 &&& (65535 : Int32))), .val (.int vs), .unset, .unset, .unset, .unset, .unset, .unset, .unset, .unset, .unset, .unset, .unset, .unset, .unset, .unset, .unset, .unset, .unset, .unset, .unset, .unset, .unset] [(.int (p3 &&& (1 : Int32))), (.int (p0 &&& (65535 : Int32)))]))
    refine callSt X45 hx hZ hown (wd hw 1 rfl) (wd hw 2 rfl) (wd hw 3 rfl) (wd hw 4 rfl) (by decide) e45 (argsL := [(.int (p0 &&& (65535 : Int32))), (.int (p3 &&& (1 : Int32)))]) (rest := []) (rm_ch l Z a0 hw [] (p0 &&& (65535 : Int32)) (p3 &&& (1 : Int32)) h0 n0 O0) (W := 0) (by decide) (by decide) (by decide) (by decide) (by rw [hml]; rfl) (lenOf pd_3 rfl) rfl (Nat.le_of_eq rfl) (hb hby at_33) ?_
    intro v46 T46 L46 h46 X46 e46 q46
    obtain ⟨b46, k46, rfl, n46, K46, sb46, g_b46, V_b46⟩ := q46
    have O0 := O0.keep K46 all0
    obtain ⟨c46, hc46⟩ : ∃ c, c = chL (p0 &&& (65535 : Int32)) (p3 &&& (1 : Int32)) := ⟨_, rfl⟩
    rw [← hc46] at V_b46
    have I46 : In8 c46 := hc46 ▸ chL_in _ _
    have M46 : (∃ a, c46 = [a]) ∨ ∃ a b, c46 = [a, b] := hc46 ▸ chL_len _ _
    have N46 := Fr.app N45 n46
    show Run p e below _ (T46.setTop (mkF m 36 #[.val (.int p0), .val (.int p1), .val (.int p2), .val (.int p3), .val (.int (p0 &&& (65535 : Int32))), .val (.int vs), .unset, .unset, .unset, .unset, .unset, .unset, .unset, .unset, .unset, .unset, .unset, .unset, .unset, .unset, .unset, .unset, .unset, .unset, .unset, .unset, .unset] [(.ref b46)]))
    refine go (fun _ => XS.astore X46.here hx rfl (hb hby at_36) rfl rfl (l' := #[.val (.int p0), .val (.int p1), .val (.int p2), .val (.int p3), .val (.int (p0 &&& (65535 : Int32))), .val (.int vs), .val (.ref b46), .unset, .unset, .unset, .unset, .unset, .unset, .unset, .unset, .unset, .unset, .unset, .unset, .unset, .unset, .unset, .unset, .unset, .unset, .unset, .unset]) rfl) ?_
    show Run p e below _ (T46.setTop (mkF m 38 #[.val (.int p0), .val (.int p1), .val (.int p2), .val (.int p3), .val (.int (p0 &&& (65535 : Int32))), .val (.int vs), .val (.ref b46), .unset, .unset, .unset, .unset, .unset, .unset, .unset, .unset, .unset, .unset, .unset, .unset, .unset, .unset, .unset, .unset, .unset, .unset, .unset, .unset] []))
    refine go (fun _ => XS.iload X46.here hx rfl (hb hby at_38) rfl) ?_
    show Run p e below _ (T46.setTop (mkF m 40 #[.val (.int p0), .val (.int p1), .val (.int p2), .val (.int p3), .val (.int (p0 &&& (65535 : Int32))), .val (.int vs), .val (.ref b46), .unset, .unset, .unset, .unset, .unset, .unset, .unset, .unset, .unset, .unset, .unset, .unset, .unset, .unset, .unset, .unset, .unset, .unset, .unset, .unset] [(.int vs)]))
    refine go (fun _ => XS.iloadN X46.here hx rfl (hb hby at_40) rfl) ?_
    show Run p e below _ (T46.setTop (mkF m 41 #[.val (.int p0), .val (.int p1), .val (.int p2), .val (.int p3), .val (.int (p0 &&& (65535 : Int32))), .val (.int vs), .val (.ref b46), .unset, .unset, .unset, .unset, .unset, .unset, .unset, .unset, .unset, .unset, .unset, .unset, .unset, .unset, .unset, .unset, .unset, .unset, .unset, .unset] [(.int p3), (.int vs)]))
    refine go (fun _ => XS.iconst X46.here hx rfl (hb hby at_41)) ?_
    show Run p e below _ (T46.setTop (mkF m 42 #[.val (.int p0), .val (.int p1), .val (.int p2), .val (.int p3), .val (.int (p0 &&& (65535 : Int32))), .val (.int vs), .val (.ref b46), .unset, .unset, .unset, .unset, .unset, .unset, .unset, .unset, .unset, .unset, .unset, .unset, .unset, .unset, .unset, .unset, .unset, .unset, .unset, .unset] [(.int (1 : Int32)), (.int p3), (.int vs)]))
    refine go (fun _ => XS.iushr X46.here hx rfl (hb hby at_42) rfl) ?_
    show Run p e below _ (T46.setTop (mkF m 43 #[.val (.int p0), .val (.int p1), .val (.int p2), .val (.int p3), .val (.int (p0 &&& (65535 : Int32))), .val (.int vs), .val (.ref b46), .unset, .unset, .unset, .unset, .unset, .unset, .unset, .unset, .unset, .unset, .unset, .unset, .unset, .unset, .unset, .unset, .unset, .unset, .unset, .unset] [(.int ((p3.toUInt32 >>> ((1 : Int32) &&& 31).toUInt32).toInt32)), (.int vs)]))
    refine go (fun _ => XS.iconst X46.here hx rfl (hb hby at_43)) ?_
    show Run p e below _ (T46.setTop (mkF m 44 #[.val (.int p0), .val (.int p1), .val (.int p2), .val (.int p3), .val (.int (p0 &&& (65535 : Int32))), .val (.int vs), .val (.ref b46), .unset, .unset, .unset, .unset, .unset, .unset, .unset, .unset, .unset, .unset, .unset, .unset, .unset, .unset, .unset, .unset, .unset, .unset, .unset, .unset] [(.int (1 : Int32)), (.int ((p3.toUInt32 >>> ((1 : Int32) &&& 31).toUInt32).toInt32)), (.int vs)]))
    refine go (fun _ => XS.iand X46.here hx rfl (hb hby at_44) rfl) ?_
    show Run p e below _ (T46.setTop (mkF m 45 #[.val (.int p0), .val (.int p1), .val (.int p2), .val (.int p3), .val (.int (p0 &&& (65535 : Int32))), .val (.int vs), .val (.ref b46), .unset, .unset, .unset, .unset, .unset, .unset, .unset, .unset, .unset, .unset, .unset, .unset, .unset, .unset, .unset, .unset, .unset, .unset, .unset, .unset] [(.int (((p3.toUInt32 >>> ((1 : Int32) &&& 31).toUInt32).toInt32) &&& (1 : Int32))), (.int vs)]))
    refine callSt X46 hx hZ hown (wd hw 1 rfl) (wd hw 2 rfl) (wd hw 3 rfl) (wd hw 4 rfl) (by decide) e46 (argsL := [(.int vs), (.int (((p3.toUInt32 >>> ((1 : Int32) &&& 31).toUInt32).toInt32) &&& (1 : Int32)))]) (rest := []) (rm_ch l Z a0 hw [] vs (((p3.toUInt32 >>> ((1 : Int32) &&& 31).toUInt32).toInt32) &&& (1 : Int32)) h46 n0 O0) (W := 0) (by decide) (by decide) (by decide) (by decide) (by rw [hml]; rfl) (lenOf pd_3 rfl) rfl (Nat.le_of_eq rfl) (hb hby at_45) ?_
    intro v47 T47 L47 h47 X47 e47 q47
    obtain ⟨b47, k47, rfl, n47, K47, sb47, g_b47, V_b47⟩ := q47
    have ne_b46_b47 : b46 ≠ b47 := Nat.ne_of_lt (Nat.lt_of_lt_of_le V_b46.lt sb47)
    have O0 := O0.keep K47 all0
    have V_b46 := V_b46.keep K47 nin0
    obtain ⟨c47, hc47⟩ : ∃ c, c = chL vs (((p3.toUInt32 >>> ((1 : Int32) &&& 31).toUInt32).toInt32) &&& (1 : Int32)) := ⟨_, rfl⟩
    rw [← hc47] at V_b47
    have I47 : In8 c47 := hc47 ▸ chL_in _ _
    have M47 : (∃ a, c47 = [a]) ∨ ∃ a b, c47 = [a, b] := hc47 ▸ chL_len _ _
    have N47 := Fr.app N46 n47
    show Run p e below _ (T47.setTop (mkF m 48 #[.val (.int p0), .val (.int p1), .val (.int p2), .val (.int p3), .val (.int (p0 &&& (65535 : Int32))), .val (.int vs), .val (.ref b46), .unset, .unset, .unset, .unset, .unset, .unset, .unset, .unset, .unset, .unset, .unset, .unset, .unset, .unset, .unset, .unset, .unset, .unset, .unset, .unset] [(.ref b47)]))
    refine go (fun _ => XS.astore X47.here hx rfl (hb hby at_48) rfl rfl (l' := #[.val (.int p0), .val (.int p1), .val (.int p2), .val (.int p3), .val (.int (p0 &&& (65535 : Int32))), .val (.int vs), .val (.ref b46), .val (.ref b47), .unset, .unset, .unset, .unset, .unset, .unset, .unset, .unset, .unset, .unset, .unset, .unset, .unset, .unset, .unset, .unset, .unset, .unset, .unset]) rfl) ?_
    show Run p e below _ (T47.setTop (mkF m 50 #[.val (.int p0), .val (.int p1), .val (.int p2), .val (.int p3), .val (.int (p0 &&& (65535 : Int32))), .val (.int vs), .val (.ref b46), .val (.ref b47), .unset, .unset, .unset, .unset, .unset, .unset, .unset, .unset, .unset, .unset, .unset, .unset, .unset, .unset, .unset, .unset, .unset, .unset, .unset] []))
    refine go (fun _ => XS.iloadN X47.here hx rfl (hb hby at_50) rfl) ?_
    show Run p e below _ (T47.setTop (mkF m 51 #[.val (.int p0), .val (.int p1), .val (.int p2), .val (.int p3), .val (.int (p0 &&& (65535 : Int32))), .val (.int vs), .val (.ref b46), .val (.ref b47), .unset, .unset, .unset, .unset, .unset, .unset, .unset, .unset, .unset, .unset, .unset, .unset, .unset, .unset, .unset, .unset, .unset, .unset, .unset] [(.int p1)]))
    refine go (fun _ => X47.ldcI hx hown (mvT hZ (wd hw 0 rfl)) rfl (hb hby at_51)) ?_
    show Run p e below _ (T47.setTop (mkF m 53 #[.val (.int p0), .val (.int p1), .val (.int p2), .val (.int p3), .val (.int (p0 &&& (65535 : Int32))), .val (.int vs), .val (.ref b46), .val (.ref b47), .unset, .unset, .unset, .unset, .unset, .unset, .unset, .unset, .unset, .unset, .unset, .unset, .unset, .unset, .unset, .unset, .unset, .unset, .unset] [(.int (65535 : Int32)), (.int p1)]))
    refine go (fun _ => XS.iand X47.here hx rfl (hb hby at_53) rfl) ?_
    show Run p e below _ (T47.setTop (mkF m 54 #[.val (.int p0), .val (.int p1), .val (.int p2), .val (.int p3), .val (.int (p0 &&& (65535 : Int32))), .val (.int vs), .val (.ref b46), .val (.ref b47), .unset, .unset, .unset, .unset, .unset, .unset, .unset, .unset, .unset, .unset, .unset, .unset, .unset, .unset, .unset, .unset, .unset, .unset, .unset] [(.int (p1 &&& (65535 : Int32)))]))
    refine go (fun _ => XS.istore X47.here hx rfl (hb hby at_54) rfl (l' := #[.val (.int p0), .val (.int p1), .val (.int p2), .val (.int p3), .val (.int (p0 &&& (65535 : Int32))), .val (.int vs), .val (.ref b46), .val (.ref b47), .val (.int (p1 &&& (65535 : Int32))), .unset, .unset, .unset, .unset, .unset, .unset, .unset, .unset, .unset, .unset, .unset, .unset, .unset, .unset, .unset, .unset, .unset, .unset]) rfl) ?_
    show Run p e below _ (T47.setTop (mkF m 56 #[.val (.int p0), .val (.int p1), .val (.int p2), .val (.int p3), .val (.int (p0 &&& (65535 : Int32))), .val (.int vs), .val (.ref b46), .val (.ref b47), .val (.int (p1 &&& (65535 : Int32))), .unset, .unset, .unset, .unset, .unset, .unset, .unset, .unset, .unset, .unset, .unset, .unset, .unset, .unset, .unset, .unset, .unset, .unset] []))
    refine go (fun _ => XS.iloadN X47.here hx rfl (hb hby at_56) rfl) ?_
    show Run p e below _ (T47.setTop (mkF m 57 #[.val (.int p0), .val (.int p1), .val (.int p2), .val (.int p3), .val (.int (p0 &&& (65535 : Int32))), .val (.int vs), .val (.ref b46), .val (.ref b47), .val (.int (p1 &&& (65535 : Int32))), .unset, .unset, .unset, .unset, .unset, .unset, .unset, .unset, .unset, .unset, .unset, .unset, .unset, .unset, .unset, .unset, .unset, .unset] [(.int p3)]))
    refine go (fun _ => XS.iconst X47.here hx rfl (hb hby at_57)) ?_
    show Run p e below _ (T47.setTop (mkF m 58 #[.val (.int p0), .val (.int p1), .val (.int p2), .val (.int p3), .val (.int (p0 &&& (65535 : Int32))), .val (.int vs), .val (.ref b46), .val (.ref b47), .val (.int (p1 &&& (65535 : Int32))), .unset, .unset, .unset, .unset, .unset, .unset, .unset, .unset, .unset, .unset, .unset, .unset, .unset, .unset, .unset, .unset, .unset, .unset] [(.int (5 : Int32)), (.int p3)]))
    refine go (fun _ => XS.iushr X47.here hx rfl (hb hby at_58) rfl) ?_
    show Run p e below _ (T47.setTop (mkF m 59 #[.val (.int p0), .val (.int p1), .val (.int p2), .val (.int p3), .val (.int (p0 &&& (65535 : Int32))), .val (.int vs), .val (.ref b46), .val (.ref b47), .val (.int (p1 &&& (65535 : Int32))), .unset, .unset, .unset, .unset, .unset, .unset, .unset, .unset, .unset, .unset, .unset, .unset, .unset, .unset, .unset, .unset, .unset, .unset] [(.int ((p3.toUInt32 >>> ((5 : Int32) &&& 31).toUInt32).toInt32))]))
    refine go (fun _ => XS.iconst X47.here hx rfl (hb hby at_59)) ?_
    show Run p e below _ (T47.setTop (mkF m 60 #[.val (.int p0), .val (.int p1), .val (.int p2), .val (.int p3), .val (.int (p0 &&& (65535 : Int32))), .val (.int vs), .val (.ref b46), .val (.ref b47), .val (.int (p1 &&& (65535 : Int32))), .unset, .unset, .unset, .unset, .unset, .unset, .unset, .unset, .unset, .unset, .unset, .unset, .unset, .unset, .unset, .unset, .unset, .unset] [(.int (1 : Int32)), (.int ((p3.toUInt32 >>> ((5 : Int32) &&& 31).toUInt32).toInt32))]))
    refine go (fun _ => XS.iand X47.here hx rfl (hb hby at_60) rfl) ?_
    show Run p e below _ (T47.setTop (mkF m 61 #[.val (.int p0), .val (.int p1), .val (.int p2), .val (.int p3), .val (.int (p0 &&& (65535 : Int32))), .val (.int vs), .val (.ref b46), .val (.ref b47), .val (.int (p1 &&& (65535 : Int32))), .unset, .unset, .unset, .unset, .unset, .unset, .unset, .unset, .unset, .unset, .unset, .unset, .unset, .unset, .unset, .unset, .unset, .unset] [(.int (((p3.toUInt32 >>> ((5 : Int32) &&& 31).toUInt32).toInt32) &&& (1 : Int32)))]))
    have J76 : ∀ (T48 : State) (L48 : List Loc) (X48 : Stand p l e room_1 s m #[(.int p0), (.int p1), (.int p2), (.int p3)] below meth c T48 L48 2 4) (e48 : T48.heap = h47) (N48 : Fr n0 L48) (vi : Int32)  , Run p e below (Ends s (Q_rmlaw p0 p1 p2 p3 zc h0 n0) 48 192) (T48.setTop (mkF m 76 #[.val (.int p0), .val (.int p1), .val (.int p2), .val (.int p3), .val (.int (p0 &&& (65535 : Int32))), .val (.int vs), .val (.ref b46), .val (.ref b47), .val (.int (p1 &&& (65535 : Int32))), .unset, .unset, .unset, .unset, .unset, .unset, .unset, .unset, .unset, .unset, .unset, .unset, .unset, .unset, .unset, .unset, .unset, .unset] [(.int vi)])) := by
      intro T48 L48 X48 e48 N48 vi  
      refine go (fun _ => XS.istore X48.here hx rfl (hb hby at_76) rfl (l' := #[.val (.int p0), .val (.int p1), .val (.int p2), .val (.int p3), .val (.int (p0 &&& (65535 : Int32))), .val (.int vs), .val (.ref b46), .val (.ref b47), .val (.int (p1 &&& (65535 : Int32))), .val (.int vi), .unset, .unset, .unset, .unset, .unset, .unset, .unset, .unset, .unset, .unset, .unset, .unset, .unset, .unset, .unset, .unset, .unset]) rfl) ?_
      show Run p e below _ (T48.setTop (mkF m 78 #[.val (.int p0), .val (.int p1), .val (.int p2), .val (.int p3), .val (.int (p0 &&& (65535 : Int32))), .val (.int vs), .val (.ref b46), .val (.ref b47), .val (.int (p1 &&& (65535 : Int32))), .val (.int vi), .unset, .unset, .unset, .unset, .unset, .unset, .unset, .unset, .unset, .unset, .unset, .unset, .unset, .unset, .unset, .unset, .unset] []))
      refine go (fun _ => XS.iload X48.here hx rfl (hb hby at_78) rfl) ?_
      show Run p e below _ (T48.setTop (mkF m 80 #[.val (.int p0), .val (.int p1), .val (.int p2), .val (.int p3), .val (.int (p0 &&& (65535 : Int32))), .val (.int vs), .val (.ref b46), .val (.ref b47), .val (.int (p1 &&& (65535 : Int32))), .val (.int vi), .unset, .unset, .unset, .unset, .unset, .unset, .unset, .unset, .unset, .unset, .unset, .unset, .unset, .unset, .unset, .unset, .unset] [(.int (p1 &&& (65535 : Int32)))]))
      refine go (fun _ => XS.iloadN X48.here hx rfl (hb hby at_80) rfl) ?_
      show Run p e below _ (T48.setTop (mkF m 81 #[.val (.int p0), .val (.int p1), .val (.int p2), .val (.int p3), .val (.int (p0 &&& (65535 : Int32))), .val (.int vs), .val (.ref b46), .val (.ref b47), .val (.int (p1 &&& (65535 : Int32))), .val (.int vi), .unset, .unset, .unset, .unset, .unset, .unset, .unset, .unset, .unset, .unset, .unset, .unset, .unset, .unset, .unset, .unset, .unset] [(.int p3), (.int (p1 &&& (65535 : Int32)))]))
      refine go (fun _ => XS.iconst X48.here hx rfl (hb hby at_81)) ?_
      show Run p e below _ (T48.setTop (mkF m 82 #[.val (.int p0), .val (.int p1), .val (.int p2), .val (.int p3), .val (.int (p0 &&& (65535 : Int32))), .val (.int vs), .val (.ref b46), .val (.ref b47), .val (.int (p1 &&& (65535 : Int32))), .val (.int vi), .unset, .unset, .unset, .unset, .unset, .unset, .unset, .unset, .unset, .unset, .unset, .unset, .unset, .unset, .unset, .unset, .unset] [(.int (3 : Int32)), (.int p3), (.int (p1 &&& (65535 : Int32)))]))
      refine go (fun _ => XS.iushr X48.here hx rfl (hb hby at_82) rfl) ?_
      show Run p e below _ (T48.setTop (mkF m 83 #[.val (.int p0), .val (.int p1), .val (.int p2), .val (.int p3), .val (.int (p0 &&& (65535 : Int32))), .val (.int vs), .val (.ref b46), .val (.ref b47), .val (.int (p1 &&& (65535 : Int32))), .val (.int vi), .unset, .unset, .unset, .unset, .unset, .unset, .unset, .unset, .unset, .unset, .unset, .unset, .unset, .unset, .unset, .unset, .unset] [(.int ((p3.toUInt32 >>> ((3 : Int32) &&& 31).toUInt32).toInt32)), (.int (p1 &&& (65535 : Int32)))]))
      refine go (fun _ => XS.iconst X48.here hx rfl (hb hby at_83)) ?_
      show Run p e below _ (T48.setTop (mkF m 84 #[.val (.int p0), .val (.int p1), .val (.int p2), .val (.int p3), .val (.int (p0 &&& (65535 : Int32))), .val (.int vs), .val (.ref b46), .val (.ref b47), .val (.int (p1 &&& (65535 : Int32))), .val (.int vi), .unset, .unset, .unset, .unset, .unset, .unset, .unset, .unset, .unset, .unset, .unset, .unset, .unset, .unset, .unset, .unset, .unset] [(.int (1 : Int32)), (.int ((p3.toUInt32 >>> ((3 : Int32) &&& 31).toUInt32).toInt32)), (.int (p1 &&& (65535 : Int32)))]))
      refine go (fun _ => XS.iand X48.here hx rfl (hb hby at_84) rfl) ?_
      show Run p e below _ (T48.setTop (mkF m 85 #[.val (.int p0), .val (.int p1), .val (.int p2), .val (.int p3), .val (.int (p0 &&& (65535 : Int32))), .val (.int vs), .val (.ref b46), .val (.ref b47), .val (.int (p1 &&& (65535 : Int32))), .val (.int vi), .unset, .unset, .unset, .unset, .unset, .unset, .unset, .unset, .unset, .unset, .unset, .unset, .unset, .unset, .unset, .unset, .unset] [(.int (((p3.toUInt32 >>> ((3 : Int32) &&& 31).toUInt32).toInt32) &&& (1 : Int32))), (.int (p1 &&& (65535 : Int32)))]))
      refine callSt X48 hx hZ hown (wd hw 1 rfl) (wd hw 2 rfl) (wd hw 3 rfl) (wd hw 4 rfl) (by decide) e48 (argsL := [(.int (p1 &&& (65535 : Int32))), (.int (((p3.toUInt32 >>> ((3 : Int32) &&& 31).toUInt32).toInt32) &&& (1 : Int32)))]) (rest := []) (rm_ch l Z a0 hw [] (p1 &&& (65535 : Int32)) (((p3.toUInt32 >>> ((3 : Int32) &&& 31).toUInt32).toInt32) &&& (1 : Int32)) h47 n0 O0) (W := 0) (by decide) (by decide) (by decide) (by decide) (by rw [hml]; rfl) (lenOf pd_3 rfl) rfl (Nat.le_of_eq rfl) (hb hby at_85) ?_
      intro v49 T49 L49 h49 X49 e49 q49
      obtain ⟨b49, k49, rfl, n49, K49, sb49, g_b49, V_b49⟩ := q49
      have ne_b46_b49 : b46 ≠ b49 := Nat.ne_of_lt (Nat.lt_of_lt_of_le V_b46.lt sb49)
      have ne_b47_b49 : b47 ≠ b49 := Nat.ne_of_lt (Nat.lt_of_lt_of_le V_b47.lt sb49)
      have O0 := O0.keep K49 all0
      have V_b46 := V_b46.keep K49 nin0
      have V_b47 := V_b47.keep K49 nin0
      obtain ⟨c49, hc49⟩ : ∃ c, c = chL (p1 &&& (65535 : Int32)) (((p3.toUInt32 >>> ((3 : Int32) &&& 31).toUInt32).toInt32) &&& (1 : Int32)) := ⟨_, rfl⟩
      rw [← hc49] at V_b49
      have I49 : In8 c49 := hc49 ▸ chL_in _ _
      have M49 : (∃ a, c49 = [a]) ∨ ∃ a b, c49 = [a, b] := hc49 ▸ chL_len _ _
      have N49 := Fr.app N48 n49
      show Run p e below _ (T49.setTop (mkF m 88 #[.val (.int p0), .val (.int p1), .val (.int p2), .val (.int p3), .val (.int (p0 &&& (65535 : Int32))), .val (.int vs), .val (.ref b46), .val (.ref b47), .val (.int (p1 &&& (65535 : Int32))), .val (.int vi), .unset, .unset, .unset, .unset, .unset, .unset, .unset, .unset, .unset, .unset, .unset, .unset, .unset, .unset, .unset, .unset, .unset] [(.ref b49)]))
      refine go (fun _ => XS.astore X49.here hx rfl (hb hby at_88) rfl rfl (l' := #[.val (.int p0), .val (.int p1), .val (.int p2), .val (.int p3), .val (.int (p0 &&& (65535 : Int32))), .val (.int vs), .val (.ref b46), .val (.ref b47), .val (.int (p1 &&& (65535 : Int32))), .val (.int vi), .val (.ref b49), .unset, .unset, .unset, .unset, .unset, .unset, .unset, .unset, .unset, .unset, .unset, .unset, .unset, .unset, .unset, .unset]) rfl) ?_
      show Run p e below _ (T49.setTop (mkF m 90 #[.val (.int p0), .val (.int p1), .val (.int p2), .val (.int p3), .val (.int (p0 &&& (65535 : Int32))), .val (.int vs), .val (.ref b46), .val (.ref b47), .val (.int (p1 &&& (65535 : Int32))), .val (.int vi), .val (.ref b49), .unset, .unset, .unset, .unset, .unset, .unset, .unset, .unset, .unset, .unset, .unset, .unset, .unset, .unset, .unset, .unset] []))
      refine go (fun _ => XS.iload X49.here hx rfl (hb hby at_90) rfl) ?_
      show Run p e below _ (T49.setTop (mkF m 92 #[.val (.int p0), .val (.int p1), .val (.int p2), .val (.int p3), .val (.int (p0 &&& (65535 : Int32))), .val (.int vs), .val (.ref b46), .val (.ref b47), .val (.int (p1 &&& (65535 : Int32))), .val (.int vi), .val (.ref b49), .unset, .unset, .unset, .unset, .unset, .unset, .unset, .unset, .unset, .unset, .unset, .unset, .unset, .unset, .unset, .unset] [(.int vi)]))
      refine go (fun _ => XS.iloadN X49.here hx rfl (hb hby at_92) rfl) ?_
      show Run p e below _ (T49.setTop (mkF m 93 #[.val (.int p0), .val (.int p1), .val (.int p2), .val (.int p3), .val (.int (p0 &&& (65535 : Int32))), .val (.int vs), .val (.ref b46), .val (.ref b47), .val (.int (p1 &&& (65535 : Int32))), .val (.int vi), .val (.ref b49), .unset, .unset, .unset, .unset, .unset, .unset, .unset, .unset, .unset, .unset, .unset, .unset, .unset, .unset, .unset, .unset] [(.int p3), (.int vi)]))
      refine go (fun _ => XS.iconst X49.here hx rfl (hb hby at_93)) ?_
      show Run p e below _ (T49.setTop (mkF m 94 #[.val (.int p0), .val (.int p1), .val (.int p2), .val (.int p3), .val (.int (p0 &&& (65535 : Int32))), .val (.int vs), .val (.ref b46), .val (.ref b47), .val (.int (p1 &&& (65535 : Int32))), .val (.int vi), .val (.ref b49), .unset, .unset, .unset, .unset, .unset, .unset, .unset, .unset, .unset, .unset, .unset, .unset, .unset, .unset, .unset, .unset] [(.int (4 : Int32)), (.int p3), (.int vi)]))
      refine go (fun _ => XS.iushr X49.here hx rfl (hb hby at_94) rfl) ?_
      show Run p e below _ (T49.setTop (mkF m 95 #[.val (.int p0), .val (.int p1), .val (.int p2), .val (.int p3), .val (.int (p0 &&& (65535 : Int32))), .val (.int vs), .val (.ref b46), .val (.ref b47), .val (.int (p1 &&& (65535 : Int32))), .val (.int vi), .val (.ref b49), .unset, .unset, .unset, .unset, .unset, .unset, .unset, .unset, .unset, .unset, .unset, .unset, .unset, .unset, .unset, .unset] [(.int ((p3.toUInt32 >>> ((4 : Int32) &&& 31).toUInt32).toInt32)), (.int vi)]))
      refine go (fun _ => XS.iconst X49.here hx rfl (hb hby at_95)) ?_
      show Run p e below _ (T49.setTop (mkF m 96 #[.val (.int p0), .val (.int p1), .val (.int p2), .val (.int p3), .val (.int (p0 &&& (65535 : Int32))), .val (.int vs), .val (.ref b46), .val (.ref b47), .val (.int (p1 &&& (65535 : Int32))), .val (.int vi), .val (.ref b49), .unset, .unset, .unset, .unset, .unset, .unset, .unset, .unset, .unset, .unset, .unset, .unset, .unset, .unset, .unset, .unset] [(.int (1 : Int32)), (.int ((p3.toUInt32 >>> ((4 : Int32) &&& 31).toUInt32).toInt32)), (.int vi)]))
      refine go (fun _ => XS.iand X49.here hx rfl (hb hby at_96) rfl) ?_
      show Run p e below _ (T49.setTop (mkF m 97 #[.val (.int p0), .val (.int p1), .val (.int p2), .val (.int p3), .val (.int (p0 &&& (65535 : Int32))), .val (.int vs), .val (.ref b46), .val (.ref b47), .val (.int (p1 &&& (65535 : Int32))), .val (.int vi), .val (.ref b49), .unset, .unset, .unset, .unset, .unset, .unset, .unset, .unset, .unset, .unset, .unset, .unset, .unset, .unset, .unset, .unset] [(.int (((p3.toUInt32 >>> ((4 : Int32) &&& 31).toUInt32).toInt32) &&& (1 : Int32))), (.int vi)]))
      refine callSt X49 hx hZ hown (wd hw 1 rfl) (wd hw 2 rfl) (wd hw 3 rfl) (wd hw 4 rfl) (by decide) e49 (argsL := [(.int vi), (.int (((p3.toUInt32 >>> ((4 : Int32) &&& 31).toUInt32).toInt32) &&& (1 : Int32)))]) (rest := []) (rm_ch l Z a0 hw [] vi (((p3.toUInt32 >>> ((4 : Int32) &&& 31).toUInt32).toInt32) &&& (1 : Int32)) h49 n0 O0) (W := 0) (by decide) (by decide) (by decide) (by decide) (by rw [hml]; rfl) (lenOf pd_3 rfl) rfl (Nat.le_of_eq rfl) (hb hby at_97) ?_
      intro v50 T50 L50 h50 X50 e50 q50
      obtain ⟨b50, k50, rfl, n50, K50, sb50, g_b50, V_b50⟩ := q50
      have ne_b46_b50 : b46 ≠ b50 := Nat.ne_of_lt (Nat.lt_of_lt_of_le V_b46.lt sb50)
      have ne_b47_b50 : b47 ≠ b50 := Nat.ne_of_lt (Nat.lt_of_lt_of_le V_b47.lt sb50)
      have ne_b49_b50 : b49 ≠ b50 := Nat.ne_of_lt (Nat.lt_of_lt_of_le V_b49.lt sb50)
      have O0 := O0.keep K50 all0
      have V_b46 := V_b46.keep K50 nin0
      have V_b47 := V_b47.keep K50 nin0
      have V_b49 := V_b49.keep K50 nin0
      obtain ⟨c50, hc50⟩ : ∃ c, c = chL vi (((p3.toUInt32 >>> ((4 : Int32) &&& 31).toUInt32).toInt32) &&& (1 : Int32)) := ⟨_, rfl⟩
      rw [← hc50] at V_b50
      have I50 : In8 c50 := hc50 ▸ chL_in _ _
      have M50 : (∃ a, c50 = [a]) ∨ ∃ a b, c50 = [a, b] := hc50 ▸ chL_len _ _
      have N50 := Fr.app N49 n50
      show Run p e below _ (T50.setTop (mkF m 100 #[.val (.int p0), .val (.int p1), .val (.int p2), .val (.int p3), .val (.int (p0 &&& (65535 : Int32))), .val (.int vs), .val (.ref b46), .val (.ref b47), .val (.int (p1 &&& (65535 : Int32))), .val (.int vi), .val (.ref b49), .unset, .unset, .unset, .unset, .unset, .unset, .unset, .unset, .unset, .unset, .unset, .unset, .unset, .unset, .unset, .unset] [(.ref b50)]))
      refine go (fun _ => XS.astore X50.here hx rfl (hb hby at_100) rfl rfl (l' := #[.val (.int p0), .val (.int p1), .val (.int p2), .val (.int p3), .val (.int (p0 &&& (65535 : Int32))), .val (.int vs), .val (.ref b46), .val (.ref b47), .val (.int (p1 &&& (65535 : Int32))), .val (.int vi), .val (.ref b49), .val (.ref b50), .unset, .unset, .unset, .unset, .unset, .unset, .unset, .unset, .unset, .unset, .unset, .unset, .unset, .unset, .unset]) rfl) ?_
      show Run p e below _ (T50.setTop (mkF m 102 #[.val (.int p0), .val (.int p1), .val (.int p2), .val (.int p3), .val (.int (p0 &&& (65535 : Int32))), .val (.int vs), .val (.ref b46), .val (.ref b47), .val (.int (p1 &&& (65535 : Int32))), .val (.int vi), .val (.ref b49), .val (.ref b50), .unset, .unset, .unset, .unset, .unset, .unset, .unset, .unset, .unset, .unset, .unset, .unset, .unset, .unset, .unset] []))
      refine go (fun _ => XS.iloadN X50.here hx rfl (hb hby at_102) rfl) ?_
      show Run p e below _ (T50.setTop (mkF m 103 #[.val (.int p0), .val (.int p1), .val (.int p2), .val (.int p3), .val (.int (p0 &&& (65535 : Int32))), .val (.int vs), .val (.ref b46), .val (.ref b47), .val (.int (p1 &&& (65535 : Int32))), .val (.int vi), .val (.ref b49), .val (.ref b50), .unset, .unset, .unset, .unset, .unset, .unset, .unset, .unset, .unset, .unset, .unset, .unset, .unset, .unset, .unset] [(.int p3)]))
      refine go (fun _ => XS.bipush X50.here hx rfl (hb hby at_103)) ?_
      show Run p e below _ (T50.setTop (mkF m 105 #[.val (.int p0), .val (.int p1), .val (.int p2), .val (.int p3), .val (.int (p0 &&& (65535 : Int32))), .val (.int vs), .val (.ref b46), .val (.ref b47), .val (.int (p1 &&& (65535 : Int32))), .val (.int vi), .val (.ref b49), .val (.ref b50), .unset, .unset, .unset, .unset, .unset, .unset, .unset, .unset, .unset, .unset, .unset, .unset, .unset, .unset, .unset] [(.int (6 : Int32)), (.int p3)]))
      refine go (fun _ => XS.iushr X50.here hx rfl (hb hby at_105) rfl) ?_
      show Run p e below _ (T50.setTop (mkF m 106 #[.val (.int p0), .val (.int p1), .val (.int p2), .val (.int p3), .val (.int (p0 &&& (65535 : Int32))), .val (.int vs), .val (.ref b46), .val (.ref b47), .val (.int (p1 &&& (65535 : Int32))), .val (.int vi), .val (.ref b49), .val (.ref b50), .unset, .unset, .unset, .unset, .unset, .unset, .unset, .unset, .unset, .unset, .unset, .unset, .unset, .unset, .unset] [(.int ((p3.toUInt32 >>> ((6 : Int32) &&& 31).toUInt32).toInt32))]))
      refine go (fun _ => XS.iconst X50.here hx rfl (hb hby at_106)) ?_
      show Run p e below _ (T50.setTop (mkF m 107 #[.val (.int p0), .val (.int p1), .val (.int p2), .val (.int p3), .val (.int (p0 &&& (65535 : Int32))), .val (.int vs), .val (.ref b46), .val (.ref b47), .val (.int (p1 &&& (65535 : Int32))), .val (.int vi), .val (.ref b49), .val (.ref b50), .unset, .unset, .unset, .unset, .unset, .unset, .unset, .unset, .unset, .unset, .unset, .unset, .unset, .unset, .unset] [(.int (1 : Int32)), (.int ((p3.toUInt32 >>> ((6 : Int32) &&& 31).toUInt32).toInt32))]))
      refine go (fun _ => XS.iand X50.here hx rfl (hb hby at_107) rfl) ?_
      show Run p e below _ (T50.setTop (mkF m 108 #[.val (.int p0), .val (.int p1), .val (.int p2), .val (.int p3), .val (.int (p0 &&& (65535 : Int32))), .val (.int vs), .val (.ref b46), .val (.ref b47), .val (.int (p1 &&& (65535 : Int32))), .val (.int vi), .val (.ref b49), .val (.ref b50), .unset, .unset, .unset, .unset, .unset, .unset, .unset, .unset, .unset, .unset, .unset, .unset, .unset, .unset, .unset] [(.int (((p3.toUInt32 >>> ((6 : Int32) &&& 31).toUInt32).toInt32) &&& (1 : Int32)))]))
      have J116 : ∀ (T51 : State) (L51 : List Loc) (X51 : Stand p l e room_1 s m #[(.int p0), (.int p1), (.int p2), (.int p3)] below meth c T51 L51 4 8) (e51 : T51.heap = h50) (N51 : Fr n0 L51) (f12 : Int32)  , Run p e below (Ends s (Q_rmlaw p0 p1 p2 p3 zc h0 n0) 48 192) (T51.setTop (mkF m 116 #[.val (.int p0), .val (.int p1), .val (.int p2), .val (.int p3), .val (.int (p0 &&& (65535 : Int32))), .val (.int vs), .val (.ref b46), .val (.ref b47), .val (.int (p1 &&& (65535 : Int32))), .val (.int vi), .val (.ref b49), .val (.ref b50), .unset, .unset, .unset, .unset, .unset, .unset, .unset, .unset, .unset, .unset, .unset, .unset, .unset, .unset, .unset] [(.int f12)])) := by
        intro T51 L51 X51 e51 N51 f12  
        refine go (fun _ => XS.istore X51.here hx rfl (hb hby at_116) rfl (l' := #[.val (.int p0), .val (.int p1), .val (.int p2), .val (.int p3), .val (.int (p0 &&& (65535 : Int32))), .val (.int vs), .val (.ref b46), .val (.ref b47), .val (.int (p1 &&& (65535 : Int32))), .val (.int vi), .val (.ref b49), .val (.ref b50), .val (.int f12), .unset, .unset, .unset, .unset, .unset, .unset, .unset, .unset, .unset, .unset, .unset, .unset, .unset, .unset]) rfl) ?_
        show Run p e below _ (T51.setTop (mkF m 118 #[.val (.int p0), .val (.int p1), .val (.int p2), .val (.int p3), .val (.int (p0 &&& (65535 : Int32))), .val (.int vs), .val (.ref b46), .val (.ref b47), .val (.int (p1 &&& (65535 : Int32))), .val (.int vi), .val (.ref b49), .val (.ref b50), .val (.int f12), .unset, .unset, .unset, .unset, .unset, .unset, .unset, .unset, .unset, .unset, .unset, .unset, .unset, .unset] []))
        refine go (fun _ => XS.iloadN X51.here hx rfl (hb hby at_118) rfl) ?_
        show Run p e below _ (T51.setTop (mkF m 119 #[.val (.int p0), .val (.int p1), .val (.int p2), .val (.int p3), .val (.int (p0 &&& (65535 : Int32))), .val (.int vs), .val (.ref b46), .val (.ref b47), .val (.int (p1 &&& (65535 : Int32))), .val (.int vi), .val (.ref b49), .val (.ref b50), .val (.int f12), .unset, .unset, .unset, .unset, .unset, .unset, .unset, .unset, .unset, .unset, .unset, .unset, .unset, .unset] [(.int p3)]))
        refine go (fun _ => XS.bipush X51.here hx rfl (hb hby at_119)) ?_
        show Run p e below _ (T51.setTop (mkF m 121 #[.val (.int p0), .val (.int p1), .val (.int p2), .val (.int p3), .val (.int (p0 &&& (65535 : Int32))), .val (.int vs), .val (.ref b46), .val (.ref b47), .val (.int (p1 &&& (65535 : Int32))), .val (.int vi), .val (.ref b49), .val (.ref b50), .val (.int f12), .unset, .unset, .unset, .unset, .unset, .unset, .unset, .unset, .unset, .unset, .unset, .unset, .unset, .unset] [(.int (7 : Int32)), (.int p3)]))
        refine go (fun _ => XS.iushr X51.here hx rfl (hb hby at_121) rfl) ?_
        show Run p e below _ (T51.setTop (mkF m 122 #[.val (.int p0), .val (.int p1), .val (.int p2), .val (.int p3), .val (.int (p0 &&& (65535 : Int32))), .val (.int vs), .val (.ref b46), .val (.ref b47), .val (.int (p1 &&& (65535 : Int32))), .val (.int vi), .val (.ref b49), .val (.ref b50), .val (.int f12), .unset, .unset, .unset, .unset, .unset, .unset, .unset, .unset, .unset, .unset, .unset, .unset, .unset, .unset] [(.int ((p3.toUInt32 >>> ((7 : Int32) &&& 31).toUInt32).toInt32))]))
        refine go (fun _ => XS.iconst X51.here hx rfl (hb hby at_122)) ?_
        show Run p e below _ (T51.setTop (mkF m 123 #[.val (.int p0), .val (.int p1), .val (.int p2), .val (.int p3), .val (.int (p0 &&& (65535 : Int32))), .val (.int vs), .val (.ref b46), .val (.ref b47), .val (.int (p1 &&& (65535 : Int32))), .val (.int vi), .val (.ref b49), .val (.ref b50), .val (.int f12), .unset, .unset, .unset, .unset, .unset, .unset, .unset, .unset, .unset, .unset, .unset, .unset, .unset, .unset] [(.int (1 : Int32)), (.int ((p3.toUInt32 >>> ((7 : Int32) &&& 31).toUInt32).toInt32))]))
        refine go (fun _ => XS.iand X51.here hx rfl (hb hby at_123) rfl) ?_
        show Run p e below _ (T51.setTop (mkF m 124 #[.val (.int p0), .val (.int p1), .val (.int p2), .val (.int p3), .val (.int (p0 &&& (65535 : Int32))), .val (.int vs), .val (.ref b46), .val (.ref b47), .val (.int (p1 &&& (65535 : Int32))), .val (.int vi), .val (.ref b49), .val (.ref b50), .val (.int f12), .unset, .unset, .unset, .unset, .unset, .unset, .unset, .unset, .unset, .unset, .unset, .unset, .unset, .unset] [(.int (((p3.toUInt32 >>> ((7 : Int32) &&& 31).toUInt32).toInt32) &&& (1 : Int32)))]))
        have J132 : ∀ (T52 : State) (L52 : List Loc) (X52 : Stand p l e room_1 s m #[(.int p0), (.int p1), (.int p2), (.int p3)] below meth c T52 L52 4 8) (e52 : T52.heap = h50) (N52 : Fr n0 L52) (f13 : Int32)  , Run p e below (Ends s (Q_rmlaw p0 p1 p2 p3 zc h0 n0) 48 192) (T52.setTop (mkF m 132 #[.val (.int p0), .val (.int p1), .val (.int p2), .val (.int p3), .val (.int (p0 &&& (65535 : Int32))), .val (.int vs), .val (.ref b46), .val (.ref b47), .val (.int (p1 &&& (65535 : Int32))), .val (.int vi), .val (.ref b49), .val (.ref b50), .val (.int f12), .unset, .unset, .unset, .unset, .unset, .unset, .unset, .unset, .unset, .unset, .unset, .unset, .unset, .unset] [(.int f13)])) := by
          intro T52 L52 X52 e52 N52 f13  
          refine go (fun _ => XS.istore X52.here hx rfl (hb hby at_132) rfl (l' := #[.val (.int p0), .val (.int p1), .val (.int p2), .val (.int p3), .val (.int (p0 &&& (65535 : Int32))), .val (.int vs), .val (.ref b46), .val (.ref b47), .val (.int (p1 &&& (65535 : Int32))), .val (.int vi), .val (.ref b49), .val (.ref b50), .val (.int f12), .val (.int f13), .unset, .unset, .unset, .unset, .unset, .unset, .unset, .unset, .unset, .unset, .unset, .unset, .unset]) rfl) ?_
          show Run p e below _ (T52.setTop (mkF m 134 #[.val (.int p0), .val (.int p1), .val (.int p2), .val (.int p3), .val (.int (p0 &&& (65535 : Int32))), .val (.int vs), .val (.ref b46), .val (.ref b47), .val (.int (p1 &&& (65535 : Int32))), .val (.int vi), .val (.ref b49), .val (.ref b50), .val (.int f12), .val (.int f13), .unset, .unset, .unset, .unset, .unset, .unset, .unset, .unset, .unset, .unset, .unset, .unset, .unset] []))
          refine go (fun _ => XS.iloadN X52.here hx rfl (hb hby at_134) rfl) ?_
          show Run p e below _ (T52.setTop (mkF m 135 #[.val (.int p0), .val (.int p1), .val (.int p2), .val (.int p3), .val (.int (p0 &&& (65535 : Int32))), .val (.int vs), .val (.ref b46), .val (.ref b47), .val (.int (p1 &&& (65535 : Int32))), .val (.int vi), .val (.ref b49), .val (.ref b50), .val (.int f12), .val (.int f13), .unset, .unset, .unset, .unset, .unset, .unset, .unset, .unset, .unset, .unset, .unset, .unset, .unset] [(.int p2)]))
          refine go (fun _ => X52.ldcI hx hown (mvT hZ (wd hw 0 rfl)) rfl (hb hby at_135)) ?_
          show Run p e below _ (T52.setTop (mkF m 137 #[.val (.int p0), .val (.int p1), .val (.int p2), .val (.int p3), .val (.int (p0 &&& (65535 : Int32))), .val (.int vs), .val (.ref b46), .val (.ref b47), .val (.int (p1 &&& (65535 : Int32))), .val (.int vi), .val (.ref b49), .val (.ref b50), .val (.int f12), .val (.int f13), .unset, .unset, .unset, .unset, .unset, .unset, .unset, .unset, .unset, .unset, .unset, .unset, .unset] [(.int (65535 : Int32)), (.int p2)]))
          refine go (fun _ => XS.iand X52.here hx rfl (hb hby at_137) rfl) ?_
          show Run p e below _ (T52.setTop (mkF m 138 #[.val (.int p0), .val (.int p1), .val (.int p2), .val (.int p3), .val (.int (p0 &&& (65535 : Int32))), .val (.int vs), .val (.ref b46), .val (.ref b47), .val (.int (p1 &&& (65535 : Int32))), .val (.int vi), .val (.ref b49), .val (.ref b50), .val (.int f12), .val (.int f13), .unset, .unset, .unset, .unset, .unset, .unset, .unset, .unset, .unset, .unset, .unset, .unset, .unset] [(.int (p2 &&& (65535 : Int32)))]))
          refine go (fun _ => XS.istore X52.here hx rfl (hb hby at_138) rfl (l' := #[.val (.int p0), .val (.int p1), .val (.int p2), .val (.int p3), .val (.int (p0 &&& (65535 : Int32))), .val (.int vs), .val (.ref b46), .val (.ref b47), .val (.int (p1 &&& (65535 : Int32))), .val (.int vi), .val (.ref b49), .val (.ref b50), .val (.int f12), .val (.int f13), .val (.int (p2 &&& (65535 : Int32))), .unset, .unset, .unset, .unset, .unset, .unset, .unset, .unset, .unset, .unset, .unset, .unset]) rfl) ?_
          show Run p e below _ (T52.setTop (mkF m 140 #[.val (.int p0), .val (.int p1), .val (.int p2), .val (.int p3), .val (.int (p0 &&& (65535 : Int32))), .val (.int vs), .val (.ref b46), .val (.ref b47), .val (.int (p1 &&& (65535 : Int32))), .val (.int vi), .val (.ref b49), .val (.ref b50), .val (.int f12), .val (.int f13), .val (.int (p2 &&& (65535 : Int32))), .unset, .unset, .unset, .unset, .unset, .unset, .unset, .unset, .unset, .unset, .unset, .unset] []))
          refine go (fun _ => XS.iloadN X52.here hx rfl (hb hby at_140) rfl) ?_
          show Run p e below _ (T52.setTop (mkF m 141 #[.val (.int p0), .val (.int p1), .val (.int p2), .val (.int p3), .val (.int (p0 &&& (65535 : Int32))), .val (.int vs), .val (.ref b46), .val (.ref b47), .val (.int (p1 &&& (65535 : Int32))), .val (.int vi), .val (.ref b49), .val (.ref b50), .val (.int f12), .val (.int f13), .val (.int (p2 &&& (65535 : Int32))), .unset, .unset, .unset, .unset, .unset, .unset, .unset, .unset, .unset, .unset, .unset, .unset] [(.int p3)]))
          refine go (fun _ => XS.bipush X52.here hx rfl (hb hby at_141)) ?_
          show Run p e below _ (T52.setTop (mkF m 143 #[.val (.int p0), .val (.int p1), .val (.int p2), .val (.int p3), .val (.int (p0 &&& (65535 : Int32))), .val (.int vs), .val (.ref b46), .val (.ref b47), .val (.int (p1 &&& (65535 : Int32))), .val (.int vi), .val (.ref b49), .val (.ref b50), .val (.int f12), .val (.int f13), .val (.int (p2 &&& (65535 : Int32))), .unset, .unset, .unset, .unset, .unset, .unset, .unset, .unset, .unset, .unset, .unset, .unset] [(.int (10 : Int32)), (.int p3)]))
          refine go (fun _ => XS.iushr X52.here hx rfl (hb hby at_143) rfl) ?_
          show Run p e below _ (T52.setTop (mkF m 144 #[.val (.int p0), .val (.int p1), .val (.int p2), .val (.int p3), .val (.int (p0 &&& (65535 : Int32))), .val (.int vs), .val (.ref b46), .val (.ref b47), .val (.int (p1 &&& (65535 : Int32))), .val (.int vi), .val (.ref b49), .val (.ref b50), .val (.int f12), .val (.int f13), .val (.int (p2 &&& (65535 : Int32))), .unset, .unset, .unset, .unset, .unset, .unset, .unset, .unset, .unset, .unset, .unset, .unset] [(.int ((p3.toUInt32 >>> ((10 : Int32) &&& 31).toUInt32).toInt32))]))
          refine go (fun _ => XS.iconst X52.here hx rfl (hb hby at_144)) ?_
          show Run p e below _ (T52.setTop (mkF m 145 #[.val (.int p0), .val (.int p1), .val (.int p2), .val (.int p3), .val (.int (p0 &&& (65535 : Int32))), .val (.int vs), .val (.ref b46), .val (.ref b47), .val (.int (p1 &&& (65535 : Int32))), .val (.int vi), .val (.ref b49), .val (.ref b50), .val (.int f12), .val (.int f13), .val (.int (p2 &&& (65535 : Int32))), .unset, .unset, .unset, .unset, .unset, .unset, .unset, .unset, .unset, .unset, .unset, .unset] [(.int (1 : Int32)), (.int ((p3.toUInt32 >>> ((10 : Int32) &&& 31).toUInt32).toInt32))]))
          refine go (fun _ => XS.iand X52.here hx rfl (hb hby at_145) rfl) ?_
          show Run p e below _ (T52.setTop (mkF m 146 #[.val (.int p0), .val (.int p1), .val (.int p2), .val (.int p3), .val (.int (p0 &&& (65535 : Int32))), .val (.int vs), .val (.ref b46), .val (.ref b47), .val (.int (p1 &&& (65535 : Int32))), .val (.int vi), .val (.ref b49), .val (.ref b50), .val (.int f12), .val (.int f13), .val (.int (p2 &&& (65535 : Int32))), .unset, .unset, .unset, .unset, .unset, .unset, .unset, .unset, .unset, .unset, .unset, .unset] [(.int (((p3.toUInt32 >>> ((10 : Int32) &&& 31).toUInt32).toInt32) &&& (1 : Int32)))]))
          have J161 : ∀ (T53 : State) (L53 : List Loc) (X53 : Stand p l e room_1 s m #[(.int p0), (.int p1), (.int p2), (.int p3)] below meth c T53 L53 4 8) (e53 : T53.heap = h50) (N53 : Fr n0 L53) (vk : Int32)  , Run p e below (Ends s (Q_rmlaw p0 p1 p2 p3 zc h0 n0) 48 192) (T53.setTop (mkF m 161 #[.val (.int p0), .val (.int p1), .val (.int p2), .val (.int p3), .val (.int (p0 &&& (65535 : Int32))), .val (.int vs), .val (.ref b46), .val (.ref b47), .val (.int (p1 &&& (65535 : Int32))), .val (.int vi), .val (.ref b49), .val (.ref b50), .val (.int f12), .val (.int f13), .val (.int (p2 &&& (65535 : Int32))), .unset, .unset, .unset, .unset, .unset, .unset, .unset, .unset, .unset, .unset, .unset, .unset] [(.int vk)])) := by
            intro T53 L53 X53 e53 N53 vk  
            refine go (fun _ => XS.istore X53.here hx rfl (hb hby at_161) rfl (l' := #[.val (.int p0), .val (.int p1), .val (.int p2), .val (.int p3), .val (.int (p0 &&& (65535 : Int32))), .val (.int vs), .val (.ref b46), .val (.ref b47), .val (.int (p1 &&& (65535 : Int32))), .val (.int vi), .val (.ref b49), .val (.ref b50), .val (.int f12), .val (.int f13), .val (.int (p2 &&& (65535 : Int32))), .val (.int vk), .unset, .unset, .unset, .unset, .unset, .unset, .unset, .unset, .unset, .unset, .unset]) rfl) ?_
            show Run p e below _ (T53.setTop (mkF m 163 #[.val (.int p0), .val (.int p1), .val (.int p2), .val (.int p3), .val (.int (p0 &&& (65535 : Int32))), .val (.int vs), .val (.ref b46), .val (.ref b47), .val (.int (p1 &&& (65535 : Int32))), .val (.int vi), .val (.ref b49), .val (.ref b50), .val (.int f12), .val (.int f13), .val (.int (p2 &&& (65535 : Int32))), .val (.int vk), .unset, .unset, .unset, .unset, .unset, .unset, .unset, .unset, .unset, .unset, .unset] []))
            refine go (fun _ => XS.iload X53.here hx rfl (hb hby at_163) rfl) ?_
            show Run p e below _ (T53.setTop (mkF m 165 #[.val (.int p0), .val (.int p1), .val (.int p2), .val (.int p3), .val (.int (p0 &&& (65535 : Int32))), .val (.int vs), .val (.ref b46), .val (.ref b47), .val (.int (p1 &&& (65535 : Int32))), .val (.int vi), .val (.ref b49), .val (.ref b50), .val (.int f12), .val (.int f13), .val (.int (p2 &&& (65535 : Int32))), .val (.int vk), .unset, .unset, .unset, .unset, .unset, .unset, .unset, .unset, .unset, .unset, .unset] [(.int (p2 &&& (65535 : Int32)))]))
            refine go (fun _ => XS.iloadN X53.here hx rfl (hb hby at_165) rfl) ?_
            show Run p e below _ (T53.setTop (mkF m 166 #[.val (.int p0), .val (.int p1), .val (.int p2), .val (.int p3), .val (.int (p0 &&& (65535 : Int32))), .val (.int vs), .val (.ref b46), .val (.ref b47), .val (.int (p1 &&& (65535 : Int32))), .val (.int vi), .val (.ref b49), .val (.ref b50), .val (.int f12), .val (.int f13), .val (.int (p2 &&& (65535 : Int32))), .val (.int vk), .unset, .unset, .unset, .unset, .unset, .unset, .unset, .unset, .unset, .unset, .unset] [(.int p3), (.int (p2 &&& (65535 : Int32)))]))
            refine go (fun _ => XS.bipush X53.here hx rfl (hb hby at_166)) ?_
            show Run p e below _ (T53.setTop (mkF m 168 #[.val (.int p0), .val (.int p1), .val (.int p2), .val (.int p3), .val (.int (p0 &&& (65535 : Int32))), .val (.int vs), .val (.ref b46), .val (.ref b47), .val (.int (p1 &&& (65535 : Int32))), .val (.int vi), .val (.ref b49), .val (.ref b50), .val (.int f12), .val (.int f13), .val (.int (p2 &&& (65535 : Int32))), .val (.int vk), .unset, .unset, .unset, .unset, .unset, .unset, .unset, .unset, .unset, .unset, .unset] [(.int (8 : Int32)), (.int p3), (.int (p2 &&& (65535 : Int32)))]))
            refine go (fun _ => XS.iushr X53.here hx rfl (hb hby at_168) rfl) ?_
            show Run p e below _ (T53.setTop (mkF m 169 #[.val (.int p0), .val (.int p1), .val (.int p2), .val (.int p3), .val (.int (p0 &&& (65535 : Int32))), .val (.int vs), .val (.ref b46), .val (.ref b47), .val (.int (p1 &&& (65535 : Int32))), .val (.int vi), .val (.ref b49), .val (.ref b50), .val (.int f12), .val (.int f13), .val (.int (p2 &&& (65535 : Int32))), .val (.int vk), .unset, .unset, .unset, .unset, .unset, .unset, .unset, .unset, .unset, .unset, .unset] [(.int ((p3.toUInt32 >>> ((8 : Int32) &&& 31).toUInt32).toInt32)), (.int (p2 &&& (65535 : Int32)))]))
            refine go (fun _ => XS.iconst X53.here hx rfl (hb hby at_169)) ?_
            show Run p e below _ (T53.setTop (mkF m 170 #[.val (.int p0), .val (.int p1), .val (.int p2), .val (.int p3), .val (.int (p0 &&& (65535 : Int32))), .val (.int vs), .val (.ref b46), .val (.ref b47), .val (.int (p1 &&& (65535 : Int32))), .val (.int vi), .val (.ref b49), .val (.ref b50), .val (.int f12), .val (.int f13), .val (.int (p2 &&& (65535 : Int32))), .val (.int vk), .unset, .unset, .unset, .unset, .unset, .unset, .unset, .unset, .unset, .unset, .unset] [(.int (1 : Int32)), (.int ((p3.toUInt32 >>> ((8 : Int32) &&& 31).toUInt32).toInt32)), (.int (p2 &&& (65535 : Int32)))]))
            refine go (fun _ => XS.iand X53.here hx rfl (hb hby at_170) rfl) ?_
            show Run p e below _ (T53.setTop (mkF m 171 #[.val (.int p0), .val (.int p1), .val (.int p2), .val (.int p3), .val (.int (p0 &&& (65535 : Int32))), .val (.int vs), .val (.ref b46), .val (.ref b47), .val (.int (p1 &&& (65535 : Int32))), .val (.int vi), .val (.ref b49), .val (.ref b50), .val (.int f12), .val (.int f13), .val (.int (p2 &&& (65535 : Int32))), .val (.int vk), .unset, .unset, .unset, .unset, .unset, .unset, .unset, .unset, .unset, .unset, .unset] [(.int (((p3.toUInt32 >>> ((8 : Int32) &&& 31).toUInt32).toInt32) &&& (1 : Int32))), (.int (p2 &&& (65535 : Int32)))]))
            refine callSt X53 hx hZ hown (wd hw 1 rfl) (wd hw 2 rfl) (wd hw 3 rfl) (wd hw 4 rfl) (by decide) e53 (argsL := [(.int (p2 &&& (65535 : Int32))), (.int (((p3.toUInt32 >>> ((8 : Int32) &&& 31).toUInt32).toInt32) &&& (1 : Int32)))]) (rest := []) (rm_ch l Z a0 hw [] (p2 &&& (65535 : Int32)) (((p3.toUInt32 >>> ((8 : Int32) &&& 31).toUInt32).toInt32) &&& (1 : Int32)) h50 n0 O0) (W := 0) (by decide) (by decide) (by decide) (by decide) (by rw [hml]; rfl) (lenOf pd_3 rfl) rfl (Nat.le_of_eq rfl) (hb hby at_171) ?_
            intro v54 T54 L54 h54 X54 e54 q54
            obtain ⟨b54, k54, rfl, n54, K54, sb54, g_b54, V_b54⟩ := q54
            have ne_b46_b54 : b46 ≠ b54 := Nat.ne_of_lt (Nat.lt_of_lt_of_le V_b46.lt sb54)
            have ne_b47_b54 : b47 ≠ b54 := Nat.ne_of_lt (Nat.lt_of_lt_of_le V_b47.lt sb54)
            have ne_b49_b54 : b49 ≠ b54 := Nat.ne_of_lt (Nat.lt_of_lt_of_le V_b49.lt sb54)
            have ne_b50_b54 : b50 ≠ b54 := Nat.ne_of_lt (Nat.lt_of_lt_of_le V_b50.lt sb54)
            have O0 := O0.keep K54 all0
            have V_b46 := V_b46.keep K54 nin0
            have V_b47 := V_b47.keep K54 nin0
            have V_b49 := V_b49.keep K54 nin0
            have V_b50 := V_b50.keep K54 nin0
            obtain ⟨c54, hc54⟩ : ∃ c, c = chL (p2 &&& (65535 : Int32)) (((p3.toUInt32 >>> ((8 : Int32) &&& 31).toUInt32).toInt32) &&& (1 : Int32)) := ⟨_, rfl⟩
            rw [← hc54] at V_b54
            have I54 : In8 c54 := hc54 ▸ chL_in _ _
            have M54 : (∃ a, c54 = [a]) ∨ ∃ a b, c54 = [a, b] := hc54 ▸ chL_len _ _
            have N54 := Fr.app N53 n54
            show Run p e below _ (T54.setTop (mkF m 174 #[.val (.int p0), .val (.int p1), .val (.int p2), .val (.int p3), .val (.int (p0 &&& (65535 : Int32))), .val (.int vs), .val (.ref b46), .val (.ref b47), .val (.int (p1 &&& (65535 : Int32))), .val (.int vi), .val (.ref b49), .val (.ref b50), .val (.int f12), .val (.int f13), .val (.int (p2 &&& (65535 : Int32))), .val (.int vk), .unset, .unset, .unset, .unset, .unset, .unset, .unset, .unset, .unset, .unset, .unset] [(.ref b54)]))
            refine go (fun _ => XS.astore X54.here hx rfl (hb hby at_174) rfl rfl (l' := #[.val (.int p0), .val (.int p1), .val (.int p2), .val (.int p3), .val (.int (p0 &&& (65535 : Int32))), .val (.int vs), .val (.ref b46), .val (.ref b47), .val (.int (p1 &&& (65535 : Int32))), .val (.int vi), .val (.ref b49), .val (.ref b50), .val (.int f12), .val (.int f13), .val (.int (p2 &&& (65535 : Int32))), .val (.int vk), .val (.ref b54), .unset, .unset, .unset, .unset, .unset, .unset, .unset, .unset, .unset, .unset]) rfl) ?_
            show Run p e below _ (T54.setTop (mkF m 176 #[.val (.int p0), .val (.int p1), .val (.int p2), .val (.int p3), .val (.int (p0 &&& (65535 : Int32))), .val (.int vs), .val (.ref b46), .val (.ref b47), .val (.int (p1 &&& (65535 : Int32))), .val (.int vi), .val (.ref b49), .val (.ref b50), .val (.int f12), .val (.int f13), .val (.int (p2 &&& (65535 : Int32))), .val (.int vk), .val (.ref b54), .unset, .unset, .unset, .unset, .unset, .unset, .unset, .unset, .unset, .unset] []))
            refine go (fun _ => XS.iload X54.here hx rfl (hb hby at_176) rfl) ?_
            show Run p e below _ (T54.setTop (mkF m 178 #[.val (.int p0), .val (.int p1), .val (.int p2), .val (.int p3), .val (.int (p0 &&& (65535 : Int32))), .val (.int vs), .val (.ref b46), .val (.ref b47), .val (.int (p1 &&& (65535 : Int32))), .val (.int vi), .val (.ref b49), .val (.ref b50), .val (.int f12), .val (.int f13), .val (.int (p2 &&& (65535 : Int32))), .val (.int vk), .val (.ref b54), .unset, .unset, .unset, .unset, .unset, .unset, .unset, .unset, .unset, .unset] [(.int vk)]))
            refine go (fun _ => XS.iloadN X54.here hx rfl (hb hby at_178) rfl) ?_
            show Run p e below _ (T54.setTop (mkF m 179 #[.val (.int p0), .val (.int p1), .val (.int p2), .val (.int p3), .val (.int (p0 &&& (65535 : Int32))), .val (.int vs), .val (.ref b46), .val (.ref b47), .val (.int (p1 &&& (65535 : Int32))), .val (.int vi), .val (.ref b49), .val (.ref b50), .val (.int f12), .val (.int f13), .val (.int (p2 &&& (65535 : Int32))), .val (.int vk), .val (.ref b54), .unset, .unset, .unset, .unset, .unset, .unset, .unset, .unset, .unset, .unset] [(.int p3), (.int vk)]))
            refine go (fun _ => XS.bipush X54.here hx rfl (hb hby at_179)) ?_
            show Run p e below _ (T54.setTop (mkF m 181 #[.val (.int p0), .val (.int p1), .val (.int p2), .val (.int p3), .val (.int (p0 &&& (65535 : Int32))), .val (.int vs), .val (.ref b46), .val (.ref b47), .val (.int (p1 &&& (65535 : Int32))), .val (.int vi), .val (.ref b49), .val (.ref b50), .val (.int f12), .val (.int f13), .val (.int (p2 &&& (65535 : Int32))), .val (.int vk), .val (.ref b54), .unset, .unset, .unset, .unset, .unset, .unset, .unset, .unset, .unset, .unset] [(.int (9 : Int32)), (.int p3), (.int vk)]))
            refine go (fun _ => XS.iushr X54.here hx rfl (hb hby at_181) rfl) ?_
            show Run p e below _ (T54.setTop (mkF m 182 #[.val (.int p0), .val (.int p1), .val (.int p2), .val (.int p3), .val (.int (p0 &&& (65535 : Int32))), .val (.int vs), .val (.ref b46), .val (.ref b47), .val (.int (p1 &&& (65535 : Int32))), .val (.int vi), .val (.ref b49), .val (.ref b50), .val (.int f12), .val (.int f13), .val (.int (p2 &&& (65535 : Int32))), .val (.int vk), .val (.ref b54), .unset, .unset, .unset, .unset, .unset, .unset, .unset, .unset, .unset, .unset] [(.int ((p3.toUInt32 >>> ((9 : Int32) &&& 31).toUInt32).toInt32)), (.int vk)]))
            refine go (fun _ => XS.iconst X54.here hx rfl (hb hby at_182)) ?_
            show Run p e below _ (T54.setTop (mkF m 183 #[.val (.int p0), .val (.int p1), .val (.int p2), .val (.int p3), .val (.int (p0 &&& (65535 : Int32))), .val (.int vs), .val (.ref b46), .val (.ref b47), .val (.int (p1 &&& (65535 : Int32))), .val (.int vi), .val (.ref b49), .val (.ref b50), .val (.int f12), .val (.int f13), .val (.int (p2 &&& (65535 : Int32))), .val (.int vk), .val (.ref b54), .unset, .unset, .unset, .unset, .unset, .unset, .unset, .unset, .unset, .unset] [(.int (1 : Int32)), (.int ((p3.toUInt32 >>> ((9 : Int32) &&& 31).toUInt32).toInt32)), (.int vk)]))
            refine go (fun _ => XS.iand X54.here hx rfl (hb hby at_183) rfl) ?_
            show Run p e below _ (T54.setTop (mkF m 184 #[.val (.int p0), .val (.int p1), .val (.int p2), .val (.int p3), .val (.int (p0 &&& (65535 : Int32))), .val (.int vs), .val (.ref b46), .val (.ref b47), .val (.int (p1 &&& (65535 : Int32))), .val (.int vi), .val (.ref b49), .val (.ref b50), .val (.int f12), .val (.int f13), .val (.int (p2 &&& (65535 : Int32))), .val (.int vk), .val (.ref b54), .unset, .unset, .unset, .unset, .unset, .unset, .unset, .unset, .unset, .unset] [(.int (((p3.toUInt32 >>> ((9 : Int32) &&& 31).toUInt32).toInt32) &&& (1 : Int32))), (.int vk)]))
            refine callSt X54 hx hZ hown (wd hw 1 rfl) (wd hw 2 rfl) (wd hw 3 rfl) (wd hw 4 rfl) (by decide) e54 (argsL := [(.int vk), (.int (((p3.toUInt32 >>> ((9 : Int32) &&& 31).toUInt32).toInt32) &&& (1 : Int32)))]) (rest := []) (rm_ch l Z a0 hw [] vk (((p3.toUInt32 >>> ((9 : Int32) &&& 31).toUInt32).toInt32) &&& (1 : Int32)) h54 n0 O0) (W := 0) (by decide) (by decide) (by decide) (by decide) (by rw [hml]; rfl) (lenOf pd_3 rfl) rfl (Nat.le_of_eq rfl) (hb hby at_184) ?_
            intro v55 T55 L55 h55 X55 e55 q55
            obtain ⟨b55, k55, rfl, n55, K55, sb55, g_b55, V_b55⟩ := q55
            have ne_b46_b55 : b46 ≠ b55 := Nat.ne_of_lt (Nat.lt_of_lt_of_le V_b46.lt sb55)
            have ne_b47_b55 : b47 ≠ b55 := Nat.ne_of_lt (Nat.lt_of_lt_of_le V_b47.lt sb55)
            have ne_b49_b55 : b49 ≠ b55 := Nat.ne_of_lt (Nat.lt_of_lt_of_le V_b49.lt sb55)
            have ne_b50_b55 : b50 ≠ b55 := Nat.ne_of_lt (Nat.lt_of_lt_of_le V_b50.lt sb55)
            have ne_b54_b55 : b54 ≠ b55 := Nat.ne_of_lt (Nat.lt_of_lt_of_le V_b54.lt sb55)
            have O0 := O0.keep K55 all0
            have V_b46 := V_b46.keep K55 nin0
            have V_b47 := V_b47.keep K55 nin0
            have V_b49 := V_b49.keep K55 nin0
            have V_b50 := V_b50.keep K55 nin0
            have V_b54 := V_b54.keep K55 nin0
            obtain ⟨c55, hc55⟩ : ∃ c, c = chL vk (((p3.toUInt32 >>> ((9 : Int32) &&& 31).toUInt32).toInt32) &&& (1 : Int32)) := ⟨_, rfl⟩
            rw [← hc55] at V_b55
            have I55 : In8 c55 := hc55 ▸ chL_in _ _
            have M55 : (∃ a, c55 = [a]) ∨ ∃ a b, c55 = [a, b] := hc55 ▸ chL_len _ _
            have N55 := Fr.app N54 n55
            show Run p e below _ (T55.setTop (mkF m 187 #[.val (.int p0), .val (.int p1), .val (.int p2), .val (.int p3), .val (.int (p0 &&& (65535 : Int32))), .val (.int vs), .val (.ref b46), .val (.ref b47), .val (.int (p1 &&& (65535 : Int32))), .val (.int vi), .val (.ref b49), .val (.ref b50), .val (.int f12), .val (.int f13), .val (.int (p2 &&& (65535 : Int32))), .val (.int vk), .val (.ref b54), .unset, .unset, .unset, .unset, .unset, .unset, .unset, .unset, .unset, .unset] [(.ref b55)]))
            refine go (fun _ => XS.astore X55.here hx rfl (hb hby at_187) rfl rfl (l' := #[.val (.int p0), .val (.int p1), .val (.int p2), .val (.int p3), .val (.int (p0 &&& (65535 : Int32))), .val (.int vs), .val (.ref b46), .val (.ref b47), .val (.int (p1 &&& (65535 : Int32))), .val (.int vi), .val (.ref b49), .val (.ref b50), .val (.int f12), .val (.int f13), .val (.int (p2 &&& (65535 : Int32))), .val (.int vk), .val (.ref b54), .val (.ref b55), .unset, .unset, .unset, .unset, .unset, .unset, .unset, .unset, .unset]) rfl) ?_
            show Run p e below _ (T55.setTop (mkF m 189 #[.val (.int p0), .val (.int p1), .val (.int p2), .val (.int p3), .val (.int (p0 &&& (65535 : Int32))), .val (.int vs), .val (.ref b46), .val (.ref b47), .val (.int (p1 &&& (65535 : Int32))), .val (.int vi), .val (.ref b49), .val (.ref b50), .val (.int f12), .val (.int f13), .val (.int (p2 &&& (65535 : Int32))), .val (.int vk), .val (.ref b54), .val (.ref b55), .unset, .unset, .unset, .unset, .unset, .unset, .unset, .unset, .unset] []))
            refine go (fun _ => XS.iloadN X55.here hx rfl (hb hby at_189) rfl) ?_
            show Run p e below _ (T55.setTop (mkF m 190 #[.val (.int p0), .val (.int p1), .val (.int p2), .val (.int p3), .val (.int (p0 &&& (65535 : Int32))), .val (.int vs), .val (.ref b46), .val (.ref b47), .val (.int (p1 &&& (65535 : Int32))), .val (.int vi), .val (.ref b49), .val (.ref b50), .val (.int f12), .val (.int f13), .val (.int (p2 &&& (65535 : Int32))), .val (.int vk), .val (.ref b54), .val (.ref b55), .unset, .unset, .unset, .unset, .unset, .unset, .unset, .unset, .unset] [(.int p3)]))
            refine go (fun _ => XS.bipush X55.here hx rfl (hb hby at_190)) ?_
            show Run p e below _ (T55.setTop (mkF m 192 #[.val (.int p0), .val (.int p1), .val (.int p2), .val (.int p3), .val (.int (p0 &&& (65535 : Int32))), .val (.int vs), .val (.ref b46), .val (.ref b47), .val (.int (p1 &&& (65535 : Int32))), .val (.int vi), .val (.ref b49), .val (.ref b50), .val (.int f12), .val (.int f13), .val (.int (p2 &&& (65535 : Int32))), .val (.int vk), .val (.ref b54), .val (.ref b55), .unset, .unset, .unset, .unset, .unset, .unset, .unset, .unset, .unset] [(.int (11 : Int32)), (.int p3)]))
            refine go (fun _ => XS.iushr X55.here hx rfl (hb hby at_192) rfl) ?_
            show Run p e below _ (T55.setTop (mkF m 193 #[.val (.int p0), .val (.int p1), .val (.int p2), .val (.int p3), .val (.int (p0 &&& (65535 : Int32))), .val (.int vs), .val (.ref b46), .val (.ref b47), .val (.int (p1 &&& (65535 : Int32))), .val (.int vi), .val (.ref b49), .val (.ref b50), .val (.int f12), .val (.int f13), .val (.int (p2 &&& (65535 : Int32))), .val (.int vk), .val (.ref b54), .val (.ref b55), .unset, .unset, .unset, .unset, .unset, .unset, .unset, .unset, .unset] [(.int ((p3.toUInt32 >>> ((11 : Int32) &&& 31).toUInt32).toInt32))]))
            refine go (fun _ => XS.iconst X55.here hx rfl (hb hby at_193)) ?_
            show Run p e below _ (T55.setTop (mkF m 194 #[.val (.int p0), .val (.int p1), .val (.int p2), .val (.int p3), .val (.int (p0 &&& (65535 : Int32))), .val (.int vs), .val (.ref b46), .val (.ref b47), .val (.int (p1 &&& (65535 : Int32))), .val (.int vi), .val (.ref b49), .val (.ref b50), .val (.int f12), .val (.int f13), .val (.int (p2 &&& (65535 : Int32))), .val (.int vk), .val (.ref b54), .val (.ref b55), .unset, .unset, .unset, .unset, .unset, .unset, .unset, .unset, .unset] [(.int (1 : Int32)), (.int ((p3.toUInt32 >>> ((11 : Int32) &&& 31).toUInt32).toInt32))]))
            refine go (fun _ => XS.iand X55.here hx rfl (hb hby at_194) rfl) ?_
            show Run p e below _ (T55.setTop (mkF m 195 #[.val (.int p0), .val (.int p1), .val (.int p2), .val (.int p3), .val (.int (p0 &&& (65535 : Int32))), .val (.int vs), .val (.ref b46), .val (.ref b47), .val (.int (p1 &&& (65535 : Int32))), .val (.int vi), .val (.ref b49), .val (.ref b50), .val (.int f12), .val (.int f13), .val (.int (p2 &&& (65535 : Int32))), .val (.int vk), .val (.ref b54), .val (.ref b55), .unset, .unset, .unset, .unset, .unset, .unset, .unset, .unset, .unset] [(.int (((p3.toUInt32 >>> ((11 : Int32) &&& 31).toUInt32).toInt32) &&& (1 : Int32)))]))
            have J203 : ∀ (T56 : State) (L56 : List Loc) (X56 : Stand p l e room_1 s m #[(.int p0), (.int p1), (.int p2), (.int p3)] below meth c T56 L56 6 12) (e56 : T56.heap = h55) (N56 : Fr n0 L56) (f18 : Int32)  , Run p e below (Ends s (Q_rmlaw p0 p1 p2 p3 zc h0 n0) 48 192) (T56.setTop (mkF m 203 #[.val (.int p0), .val (.int p1), .val (.int p2), .val (.int p3), .val (.int (p0 &&& (65535 : Int32))), .val (.int vs), .val (.ref b46), .val (.ref b47), .val (.int (p1 &&& (65535 : Int32))), .val (.int vi), .val (.ref b49), .val (.ref b50), .val (.int f12), .val (.int f13), .val (.int (p2 &&& (65535 : Int32))), .val (.int vk), .val (.ref b54), .val (.ref b55), .unset, .unset, .unset, .unset, .unset, .unset, .unset, .unset, .unset] [(.int f18)])) := by
              intro T56 L56 X56 e56 N56 f18  
              refine go (fun _ => XS.istore X56.here hx rfl (hb hby at_203) rfl (l' := #[.val (.int p0), .val (.int p1), .val (.int p2), .val (.int p3), .val (.int (p0 &&& (65535 : Int32))), .val (.int vs), .val (.ref b46), .val (.ref b47), .val (.int (p1 &&& (65535 : Int32))), .val (.int vi), .val (.ref b49), .val (.ref b50), .val (.int f12), .val (.int f13), .val (.int (p2 &&& (65535 : Int32))), .val (.int vk), .val (.ref b54), .val (.ref b55), .val (.int f18), .unset, .unset, .unset, .unset, .unset, .unset, .unset, .unset]) rfl) ?_
              show Run p e below _ (T56.setTop (mkF m 205 #[.val (.int p0), .val (.int p1), .val (.int p2), .val (.int p3), .val (.int (p0 &&& (65535 : Int32))), .val (.int vs), .val (.ref b46), .val (.ref b47), .val (.int (p1 &&& (65535 : Int32))), .val (.int vi), .val (.ref b49), .val (.ref b50), .val (.int f12), .val (.int f13), .val (.int (p2 &&& (65535 : Int32))), .val (.int vk), .val (.ref b54), .val (.ref b55), .val (.int f18), .unset, .unset, .unset, .unset, .unset, .unset, .unset, .unset] []))
              refine go (fun _ => XS.iloadN X56.here hx rfl (hb hby at_205) rfl) ?_
              show Run p e below _ (T56.setTop (mkF m 206 #[.val (.int p0), .val (.int p1), .val (.int p2), .val (.int p3), .val (.int (p0 &&& (65535 : Int32))), .val (.int vs), .val (.ref b46), .val (.ref b47), .val (.int (p1 &&& (65535 : Int32))), .val (.int vi), .val (.ref b49), .val (.ref b50), .val (.int f12), .val (.int f13), .val (.int (p2 &&& (65535 : Int32))), .val (.int vk), .val (.ref b54), .val (.ref b55), .val (.int f18), .unset, .unset, .unset, .unset, .unset, .unset, .unset, .unset] [(.int p3)]))
              refine go (fun _ => XS.bipush X56.here hx rfl (hb hby at_206)) ?_
              show Run p e below _ (T56.setTop (mkF m 208 #[.val (.int p0), .val (.int p1), .val (.int p2), .val (.int p3), .val (.int (p0 &&& (65535 : Int32))), .val (.int vs), .val (.ref b46), .val (.ref b47), .val (.int (p1 &&& (65535 : Int32))), .val (.int vi), .val (.ref b49), .val (.ref b50), .val (.int f12), .val (.int f13), .val (.int (p2 &&& (65535 : Int32))), .val (.int vk), .val (.ref b54), .val (.ref b55), .val (.int f18), .unset, .unset, .unset, .unset, .unset, .unset, .unset, .unset] [(.int (12 : Int32)), (.int p3)]))
              refine go (fun _ => XS.iushr X56.here hx rfl (hb hby at_208) rfl) ?_
              show Run p e below _ (T56.setTop (mkF m 209 #[.val (.int p0), .val (.int p1), .val (.int p2), .val (.int p3), .val (.int (p0 &&& (65535 : Int32))), .val (.int vs), .val (.ref b46), .val (.ref b47), .val (.int (p1 &&& (65535 : Int32))), .val (.int vi), .val (.ref b49), .val (.ref b50), .val (.int f12), .val (.int f13), .val (.int (p2 &&& (65535 : Int32))), .val (.int vk), .val (.ref b54), .val (.ref b55), .val (.int f18), .unset, .unset, .unset, .unset, .unset, .unset, .unset, .unset] [(.int ((p3.toUInt32 >>> ((12 : Int32) &&& 31).toUInt32).toInt32))]))
              refine go (fun _ => XS.iconst X56.here hx rfl (hb hby at_209)) ?_
              show Run p e below _ (T56.setTop (mkF m 210 #[.val (.int p0), .val (.int p1), .val (.int p2), .val (.int p3), .val (.int (p0 &&& (65535 : Int32))), .val (.int vs), .val (.ref b46), .val (.ref b47), .val (.int (p1 &&& (65535 : Int32))), .val (.int vi), .val (.ref b49), .val (.ref b50), .val (.int f12), .val (.int f13), .val (.int (p2 &&& (65535 : Int32))), .val (.int vk), .val (.ref b54), .val (.ref b55), .val (.int f18), .unset, .unset, .unset, .unset, .unset, .unset, .unset, .unset] [(.int (1 : Int32)), (.int ((p3.toUInt32 >>> ((12 : Int32) &&& 31).toUInt32).toInt32))]))
              refine go (fun _ => XS.iand X56.here hx rfl (hb hby at_210) rfl) ?_
              show Run p e below _ (T56.setTop (mkF m 211 #[.val (.int p0), .val (.int p1), .val (.int p2), .val (.int p3), .val (.int (p0 &&& (65535 : Int32))), .val (.int vs), .val (.ref b46), .val (.ref b47), .val (.int (p1 &&& (65535 : Int32))), .val (.int vi), .val (.ref b49), .val (.ref b50), .val (.int f12), .val (.int f13), .val (.int (p2 &&& (65535 : Int32))), .val (.int vk), .val (.ref b54), .val (.ref b55), .val (.int f18), .unset, .unset, .unset, .unset, .unset, .unset, .unset, .unset] [(.int (((p3.toUInt32 >>> ((12 : Int32) &&& 31).toUInt32).toInt32) &&& (1 : Int32)))]))
              have J219 : ∀ (T57 : State) (L57 : List Loc) (X57 : Stand p l e room_1 s m #[(.int p0), (.int p1), (.int p2), (.int p3)] below meth c T57 L57 6 12) (e57 : T57.heap = h55) (N57 : Fr n0 L57) (f19 : Int32)  , Run p e below (Ends s (Q_rmlaw p0 p1 p2 p3 zc h0 n0) 48 192) (T57.setTop (mkF m 219 #[.val (.int p0), .val (.int p1), .val (.int p2), .val (.int p3), .val (.int (p0 &&& (65535 : Int32))), .val (.int vs), .val (.ref b46), .val (.ref b47), .val (.int (p1 &&& (65535 : Int32))), .val (.int vi), .val (.ref b49), .val (.ref b50), .val (.int f12), .val (.int f13), .val (.int (p2 &&& (65535 : Int32))), .val (.int vk), .val (.ref b54), .val (.ref b55), .val (.int f18), .unset, .unset, .unset, .unset, .unset, .unset, .unset, .unset] [(.int f19)])) := by
                intro T57 L57 X57 e57 N57 f19  
                refine go (fun _ => XS.istore X57.here hx rfl (hb hby at_219) rfl (l' := #[.val (.int p0), .val (.int p1), .val (.int p2), .val (.int p3), .val (.int (p0 &&& (65535 : Int32))), .val (.int vs), .val (.ref b46), .val (.ref b47), .val (.int (p1 &&& (65535 : Int32))), .val (.int vi), .val (.ref b49), .val (.ref b50), .val (.int f12), .val (.int f13), .val (.int (p2 &&& (65535 : Int32))), .val (.int vk), .val (.ref b54), .val (.ref b55), .val (.int f18), .val (.int f19), .unset, .unset, .unset, .unset, .unset, .unset, .unset]) rfl) ?_
                show Run p e below _ (T57.setTop (mkF m 221 #[.val (.int p0), .val (.int p1), .val (.int p2), .val (.int p3), .val (.int (p0 &&& (65535 : Int32))), .val (.int vs), .val (.ref b46), .val (.ref b47), .val (.int (p1 &&& (65535 : Int32))), .val (.int vi), .val (.ref b49), .val (.ref b50), .val (.int f12), .val (.int f13), .val (.int (p2 &&& (65535 : Int32))), .val (.int vk), .val (.ref b54), .val (.ref b55), .val (.int f18), .val (.int f19), .unset, .unset, .unset, .unset, .unset, .unset, .unset] []))
                refine go (fun _ => XS.iload X57.here hx rfl (hb hby at_221) rfl) ?_
                show Run p e below _ (T57.setTop (mkF m 223 #[.val (.int p0), .val (.int p1), .val (.int p2), .val (.int p3), .val (.int (p0 &&& (65535 : Int32))), .val (.int vs), .val (.ref b46), .val (.ref b47), .val (.int (p1 &&& (65535 : Int32))), .val (.int vi), .val (.ref b49), .val (.ref b50), .val (.int f12), .val (.int f13), .val (.int (p2 &&& (65535 : Int32))), .val (.int vk), .val (.ref b54), .val (.ref b55), .val (.int f18), .val (.int f19), .unset, .unset, .unset, .unset, .unset, .unset, .unset] [(.int f12)]))
                have J239 : ∀ (T58 : State) (L58 : List Loc) (h58 : Heap) (X58 : Stand p l e room_1 s m #[(.int p0), (.int p1), (.int p2), (.int p3)] below meth c T58 L58 8 24) (e58 : T58.heap = h58) (N58 : Fr n0 L58) (i1 : Value) (oi1 : Option (List Int32)) (O0 : Old Z n0 h58) (V_b46 : Arv Z h58 b46 k46 .char (Int32.ofNat c46.length) (c46.map Value.int) (.int (0 : Int32))) (V_b47 : Arv Z h58 b47 k47 .char (Int32.ofNat c47.length) (c47.map Value.int) (.int (0 : Int32))) (V_b49 : Arv Z h58 b49 k49 .char (Int32.ofNat c49.length) (c49.map Value.int) (.int (0 : Int32))) (V_b50 : Arv Z h58 b50 k50 .char (Int32.ofNat c50.length) (c50.map Value.int) (.int (0 : Int32))) (V_b54 : Arv Z h58 b54 k54 .char (Int32.ofNat c54.length) (c54.map Value.int) (.int (0 : Int32))) (V_b55 : Arv Z h58 b55 k55 .char (Int32.ofNat c55.length) (c55.map Value.int) (.int (0 : Int32))) (Hi1 : OS Z h58 i1 oi1) (hoi1 : oi1 = if f12 = 0 then some c49 else none), Run p e below (Ends s (Q_rmlaw p0 p1 p2 p3 zc h0 n0) 48 192) (T58.setTop (mkF m 239 #[.val (.int p0), .val (.int p1), .val (.int p2), .val (.int p3), .val (.int (p0 &&& (65535 : Int32))), .val (.int vs), .val (.ref b46), .val (.ref b47), .val (.int (p1 &&& (65535 : Int32))), .val (.int vi), .val (.ref b49), .val (.ref b50), .val (.int f12), .val (.int f13), .val (.int (p2 &&& (65535 : Int32))), .val (.int vk), .val (.ref b54), .val (.ref b55), .val (.int f18), .val (.int f19), .unset, .unset, .unset, .unset, .unset, .unset, .unset] [i1])) := by
                  intro T58 L58 h58 X58 e58 N58 i1 oi1 O0 V_b46 V_b47 V_b49 V_b50 V_b54 V_b55 Hi1 hoi1
                  refine go (fun _ => XS.astore X58.here hx rfl (hb hby at_239) rfl Hi1.isRef (l' := #[.val (.int p0), .val (.int p1), .val (.int p2), .val (.int p3), .val (.int (p0 &&& (65535 : Int32))), .val (.int vs), .val (.ref b46), .val (.ref b47), .val (.int (p1 &&& (65535 : Int32))), .val (.int vi), .val (.ref b49), .val (.ref b50), .val (.int f12), .val (.int f13), .val (.int (p2 &&& (65535 : Int32))), .val (.int vk), .val (.ref b54), .val (.ref b55), .val (.int f18), .val (.int f19), .val i1, .unset, .unset, .unset, .unset, .unset, .unset]) (XS.store1 (o := .unset) rfl (Or.inl rfl) (catR Hi1.isRef))) ?_
                  show Run p e below _ (T58.setTop (mkF m 241 #[.val (.int p0), .val (.int p1), .val (.int p2), .val (.int p3), .val (.int (p0 &&& (65535 : Int32))), .val (.int vs), .val (.ref b46), .val (.ref b47), .val (.int (p1 &&& (65535 : Int32))), .val (.int vi), .val (.ref b49), .val (.ref b50), .val (.int f12), .val (.int f13), .val (.int (p2 &&& (65535 : Int32))), .val (.int vk), .val (.ref b54), .val (.ref b55), .val (.int f18), .val (.int f19), .val i1, .unset, .unset, .unset, .unset, .unset, .unset] []))
                  refine go (fun _ => XS.iload X58.here hx rfl (hb hby at_241) rfl) ?_
                  show Run p e below _ (T58.setTop (mkF m 243 #[.val (.int p0), .val (.int p1), .val (.int p2), .val (.int p3), .val (.int (p0 &&& (65535 : Int32))), .val (.int vs), .val (.ref b46), .val (.ref b47), .val (.int (p1 &&& (65535 : Int32))), .val (.int vi), .val (.ref b49), .val (.ref b50), .val (.int f12), .val (.int f13), .val (.int (p2 &&& (65535 : Int32))), .val (.int vk), .val (.ref b54), .val (.ref b55), .val (.int f18), .val (.int f19), .val i1, .unset, .unset, .unset, .unset, .unset, .unset] [(.int f13)]))
                  have J259 : ∀ (T59 : State) (L59 : List Loc) (h59 : Heap) (X59 : Stand p l e room_1 s m #[(.int p0), (.int p1), (.int p2), (.int p3)] below meth c T59 L59 10 30) (e59 : T59.heap = h59) (N59 : Fr n0 L59) (i2 : Value) (oi2 : Option (List Int32)) (O0 : Old Z n0 h59) (V_b46 : Arv Z h59 b46 k46 .char (Int32.ofNat c46.length) (c46.map Value.int) (.int (0 : Int32))) (V_b47 : Arv Z h59 b47 k47 .char (Int32.ofNat c47.length) (c47.map Value.int) (.int (0 : Int32))) (V_b49 : Arv Z h59 b49 k49 .char (Int32.ofNat c49.length) (c49.map Value.int) (.int (0 : Int32))) (V_b50 : Arv Z h59 b50 k50 .char (Int32.ofNat c50.length) (c50.map Value.int) (.int (0 : Int32))) (V_b54 : Arv Z h59 b54 k54 .char (Int32.ofNat c54.length) (c54.map Value.int) (.int (0 : Int32))) (V_b55 : Arv Z h59 b55 k55 .char (Int32.ofNat c55.length) (c55.map Value.int) (.int (0 : Int32))) (Hi1 : OS Z h59 i1 oi1) (Hi2 : OS Z h59 i2 oi2) (hoi2 : oi2 = if f13 = 0 then some c50 else none), Run p e below (Ends s (Q_rmlaw p0 p1 p2 p3 zc h0 n0) 48 192) (T59.setTop (mkF m 259 #[.val (.int p0), .val (.int p1), .val (.int p2), .val (.int p3), .val (.int (p0 &&& (65535 : Int32))), .val (.int vs), .val (.ref b46), .val (.ref b47), .val (.int (p1 &&& (65535 : Int32))), .val (.int vi), .val (.ref b49), .val (.ref b50), .val (.int f12), .val (.int f13), .val (.int (p2 &&& (65535 : Int32))), .val (.int vk), .val (.ref b54), .val (.ref b55), .val (.int f18), .val (.int f19), .val i1, .unset, .unset, .unset, .unset, .unset, .unset] [i2])) := by
                    intro T59 L59 h59 X59 e59 N59 i2 oi2 O0 V_b46 V_b47 V_b49 V_b50 V_b54 V_b55 Hi1 Hi2 hoi2
                    refine go (fun _ => XS.astore X59.here hx rfl (hb hby at_259) rfl Hi2.isRef (l' := #[.val (.int p0), .val (.int p1), .val (.int p2), .val (.int p3), .val (.int (p0 &&& (65535 : Int32))), .val (.int vs), .val (.ref b46), .val (.ref b47), .val (.int (p1 &&& (65535 : Int32))), .val (.int vi), .val (.ref b49), .val (.ref b50), .val (.int f12), .val (.int f13), .val (.int (p2 &&& (65535 : Int32))), .val (.int vk), .val (.ref b54), .val (.ref b55), .val (.int f18), .val (.int f19), .val i1, .val i2, .unset, .unset, .unset, .unset, .unset]) (XS.store1 (o := .unset) rfl (Or.inl rfl) (catR Hi2.isRef))) ?_
                    show Run p e below _ (T59.setTop (mkF m 261 #[.val (.int p0), .val (.int p1), .val (.int p2), .val (.int p3), .val (.int (p0 &&& (65535 : Int32))), .val (.int vs), .val (.ref b46), .val (.ref b47), .val (.int (p1 &&& (65535 : Int32))), .val (.int vi), .val (.ref b49), .val (.ref b50), .val (.int f12), .val (.int f13), .val (.int (p2 &&& (65535 : Int32))), .val (.int vk), .val (.ref b54), .val (.ref b55), .val (.int f18), .val (.int f19), .val i1, .val i2, .unset, .unset, .unset, .unset, .unset] []))
                    refine go (fun _ => XS.iload X59.here hx rfl (hb hby at_261) rfl) ?_
                    show Run p e below _ (T59.setTop (mkF m 263 #[.val (.int p0), .val (.int p1), .val (.int p2), .val (.int p3), .val (.int (p0 &&& (65535 : Int32))), .val (.int vs), .val (.ref b46), .val (.ref b47), .val (.int (p1 &&& (65535 : Int32))), .val (.int vi), .val (.ref b49), .val (.ref b50), .val (.int f12), .val (.int f13), .val (.int (p2 &&& (65535 : Int32))), .val (.int vk), .val (.ref b54), .val (.ref b55), .val (.int f18), .val (.int f19), .val i1, .val i2, .unset, .unset, .unset, .unset, .unset] [(.int f18)]))
                    have J279 : ∀ (T60 : State) (L60 : List Loc) (h60 : Heap) (X60 : Stand p l e room_1 s m #[(.int p0), (.int p1), (.int p2), (.int p3)] below meth c T60 L60 12 36) (e60 : T60.heap = h60) (N60 : Fr n0 L60) (k1 : Value) (ok1 : Option (List Int32)) (O0 : Old Z n0 h60) (V_b46 : Arv Z h60 b46 k46 .char (Int32.ofNat c46.length) (c46.map Value.int) (.int (0 : Int32))) (V_b47 : Arv Z h60 b47 k47 .char (Int32.ofNat c47.length) (c47.map Value.int) (.int (0 : Int32))) (V_b49 : Arv Z h60 b49 k49 .char (Int32.ofNat c49.length) (c49.map Value.int) (.int (0 : Int32))) (V_b50 : Arv Z h60 b50 k50 .char (Int32.ofNat c50.length) (c50.map Value.int) (.int (0 : Int32))) (V_b54 : Arv Z h60 b54 k54 .char (Int32.ofNat c54.length) (c54.map Value.int) (.int (0 : Int32))) (V_b55 : Arv Z h60 b55 k55 .char (Int32.ofNat c55.length) (c55.map Value.int) (.int (0 : Int32))) (Hi1 : OS Z h60 i1 oi1) (Hi2 : OS Z h60 i2 oi2) (Hk1 : OS Z h60 k1 ok1) (hok1 : ok1 = if f18 = 0 then some c54 else none), Run p e below (Ends s (Q_rmlaw p0 p1 p2 p3 zc h0 n0) 48 192) (T60.setTop (mkF m 279 #[.val (.int p0), .val (.int p1), .val (.int p2), .val (.int p3), .val (.int (p0 &&& (65535 : Int32))), .val (.int vs), .val (.ref b46), .val (.ref b47), .val (.int (p1 &&& (65535 : Int32))), .val (.int vi), .val (.ref b49), .val (.ref b50), .val (.int f12), .val (.int f13), .val (.int (p2 &&& (65535 : Int32))), .val (.int vk), .val (.ref b54), .val (.ref b55), .val (.int f18), .val (.int f19), .val i1, .val i2, .unset, .unset, .unset, .unset, .unset] [k1])) := by
                      intro T60 L60 h60 X60 e60 N60 k1 ok1 O0 V_b46 V_b47 V_b49 V_b50 V_b54 V_b55 Hi1 Hi2 Hk1 hok1
                      refine go (fun _ => XS.astore X60.here hx rfl (hb hby at_279) rfl Hk1.isRef (l' := #[.val (.int p0), .val (.int p1), .val (.int p2), .val (.int p3), .val (.int (p0 &&& (65535 : Int32))), .val (.int vs), .val (.ref b46), .val (.ref b47), .val (.int (p1 &&& (65535 : Int32))), .val (.int vi), .val (.ref b49), .val (.ref b50), .val (.int f12), .val (.int f13), .val (.int (p2 &&& (65535 : Int32))), .val (.int vk), .val (.ref b54), .val (.ref b55), .val (.int f18), .val (.int f19), .val i1, .val i2, .val k1, .unset, .unset, .unset, .unset]) (XS.store1 (o := .unset) rfl (Or.inl rfl) (catR Hk1.isRef))) ?_
                      show Run p e below _ (T60.setTop (mkF m 281 #[.val (.int p0), .val (.int p1), .val (.int p2), .val (.int p3), .val (.int (p0 &&& (65535 : Int32))), .val (.int vs), .val (.ref b46), .val (.ref b47), .val (.int (p1 &&& (65535 : Int32))), .val (.int vi), .val (.ref b49), .val (.ref b50), .val (.int f12), .val (.int f13), .val (.int (p2 &&& (65535 : Int32))), .val (.int vk), .val (.ref b54), .val (.ref b55), .val (.int f18), .val (.int f19), .val i1, .val i2, .val k1, .unset, .unset, .unset, .unset] []))
                      refine go (fun _ => XS.iload X60.here hx rfl (hb hby at_281) rfl) ?_
                      show Run p e below _ (T60.setTop (mkF m 283 #[.val (.int p0), .val (.int p1), .val (.int p2), .val (.int p3), .val (.int (p0 &&& (65535 : Int32))), .val (.int vs), .val (.ref b46), .val (.ref b47), .val (.int (p1 &&& (65535 : Int32))), .val (.int vi), .val (.ref b49), .val (.ref b50), .val (.int f12), .val (.int f13), .val (.int (p2 &&& (65535 : Int32))), .val (.int vk), .val (.ref b54), .val (.ref b55), .val (.int f18), .val (.int f19), .val i1, .val i2, .val k1, .unset, .unset, .unset, .unset] [(.int f19)]))
                      have J299 : ∀ (T61 : State) (L61 : List Loc) (h61 : Heap) (X61 : Stand p l e room_1 s m #[(.int p0), (.int p1), (.int p2), (.int p3)] below meth c T61 L61 14 42) (e61 : T61.heap = h61) (N61 : Fr n0 L61) (k2 : Value) (ok2 : Option (List Int32)) (O0 : Old Z n0 h61) (V_b46 : Arv Z h61 b46 k46 .char (Int32.ofNat c46.length) (c46.map Value.int) (.int (0 : Int32))) (V_b47 : Arv Z h61 b47 k47 .char (Int32.ofNat c47.length) (c47.map Value.int) (.int (0 : Int32))) (V_b49 : Arv Z h61 b49 k49 .char (Int32.ofNat c49.length) (c49.map Value.int) (.int (0 : Int32))) (V_b50 : Arv Z h61 b50 k50 .char (Int32.ofNat c50.length) (c50.map Value.int) (.int (0 : Int32))) (V_b54 : Arv Z h61 b54 k54 .char (Int32.ofNat c54.length) (c54.map Value.int) (.int (0 : Int32))) (V_b55 : Arv Z h61 b55 k55 .char (Int32.ofNat c55.length) (c55.map Value.int) (.int (0 : Int32))) (Hi1 : OS Z h61 i1 oi1) (Hi2 : OS Z h61 i2 oi2) (Hk1 : OS Z h61 k1 ok1) (Hk2 : OS Z h61 k2 ok2) (hok2 : ok2 = if f19 = 0 then some c55 else none), Run p e below (Ends s (Q_rmlaw p0 p1 p2 p3 zc h0 n0) 48 192) (T61.setTop (mkF m 299 #[.val (.int p0), .val (.int p1), .val (.int p2), .val (.int p3), .val (.int (p0 &&& (65535 : Int32))), .val (.int vs), .val (.ref b46), .val (.ref b47), .val (.int (p1 &&& (65535 : Int32))), .val (.int vi), .val (.ref b49), .val (.ref b50), .val (.int f12), .val (.int f13), .val (.int (p2 &&& (65535 : Int32))), .val (.int vk), .val (.ref b54), .val (.ref b55), .val (.int f18), .val (.int f19), .val i1, .val i2, .val k1, .unset, .unset, .unset, .unset] [k2])) := by
                        intro T61 L61 h61 X61 e61 N61 k2 ok2 O0 V_b46 V_b47 V_b49 V_b50 V_b54 V_b55 Hi1 Hi2 Hk1 Hk2 hok2
                        refine go (fun _ => XS.astore X61.here hx rfl (hb hby at_299) rfl Hk2.isRef (l' := #[.val (.int p0), .val (.int p1), .val (.int p2), .val (.int p3), .val (.int (p0 &&& (65535 : Int32))), .val (.int vs), .val (.ref b46), .val (.ref b47), .val (.int (p1 &&& (65535 : Int32))), .val (.int vi), .val (.ref b49), .val (.ref b50), .val (.int f12), .val (.int f13), .val (.int (p2 &&& (65535 : Int32))), .val (.int vk), .val (.ref b54), .val (.ref b55), .val (.int f18), .val (.int f19), .val i1, .val i2, .val k1, .val k2, .unset, .unset, .unset]) (XS.store1 (o := .unset) rfl (Or.inl rfl) (catR Hk2.isRef))) ?_
                        show Run p e below _ (T61.setTop (mkF m 301 #[.val (.int p0), .val (.int p1), .val (.int p2), .val (.int p3), .val (.int (p0 &&& (65535 : Int32))), .val (.int vs), .val (.ref b46), .val (.ref b47), .val (.int (p1 &&& (65535 : Int32))), .val (.int vi), .val (.ref b49), .val (.ref b50), .val (.int f12), .val (.int f13), .val (.int (p2 &&& (65535 : Int32))), .val (.int vk), .val (.ref b54), .val (.ref b55), .val (.int f18), .val (.int f19), .val i1, .val i2, .val k1, .val k2, .unset, .unset, .unset] []))
                        have KF62 := Keep.refl h61 []
                        obtain ⟨T63, h63, X63, e63, E63, A63, D63, -, st63⟩ := newO X61 hx hZ hown (wd hw 35 rfl) (wd hw 36 rfl) (wd hw 37 rfl) e61 (g := (mkF m 301 #[.val (.int p0), .val (.int p1), .val (.int p2), .val (.int p3), .val (.int (p0 &&& (65535 : Int32))), .val (.int vs), .val (.ref b46), .val (.ref b47), .val (.int (p1 &&& (65535 : Int32))), .val (.int vi), .val (.ref b49), .val (.ref b50), .val (.int f12), .val (.int f13), .val (.int (p2 &&& (65535 : Int32))), .val (.int vk), .val (.ref b54), .val (.ref b55), .val (.int f18), .val (.int f19), .val i1, .val i2, .val k1, .val k2, .unset, .unset, .unset] [])) rfl (hb hby at_301) (by decide) (by decide)
                        obtain ⟨b63, y63⟩ : ∃ z, z = h61.size := ⟨_, rfl⟩
                        rw [← y63] at A63 D63 st63
                        have g_b63 : n0 ≤ b63 := y63.symm ▸ old_sz O0
                        have szf_b63 : h61.size ≤ b63 := y63.symm ▸ KF62.1
                        have ne_b46_b63 : b46 ≠ b63 := Nat.ne_of_lt (y63.symm ▸ V_b46.lt)
                        have ne_b47_b63 : b47 ≠ b63 := Nat.ne_of_lt (y63.symm ▸ V_b47.lt)
                        have ne_b49_b63 : b49 ≠ b63 := Nat.ne_of_lt (y63.symm ▸ V_b49.lt)
                        have ne_b50_b63 : b50 ≠ b63 := Nat.ne_of_lt (y63.symm ▸ V_b50.lt)
                        have ne_b54_b63 : b54 ≠ b63 := Nat.ne_of_lt (y63.symm ▸ V_b54.lt)
                        have ne_b55_b63 : b55 ≠ b63 := Nat.ne_of_lt (y63.symm ▸ V_b55.lt)
                        have O0 := O0.ext E63
                        have V_b46 := V_b46.ext E63
                        have V_b47 := V_b47.ext E63
                        have V_b49 := V_b49.ext E63
                        have V_b50 := V_b50.ext E63
                        have V_b54 := V_b54.ext E63
                        have V_b55 := V_b55.ext E63
                        have KF62 := KF62.ext E63
                        have E_b63 := A63
                        have F_subject_b63 : Fld Z h63 b63 "com/example/gridsteward/gridsteward/Holder" "subject" "Ljava/lang/String;" .null := D63 (Or.inr (wd hw 48 rfl)) (ty := (.object "java/lang/String")) (by decide)
                        have F_issuer_b63 : Fld Z h63 b63 "com/example/gridsteward/gridsteward/Holder" "issuer" "Ljava/lang/String;" .null := D63 (Or.inr (wd hw 50 rfl)) (ty := (.object "java/lang/String")) (by decide)
                        have F_issuerKey_b63 : Fld Z h63 b63 "com/example/gridsteward/gridsteward/Holder" "issuerKey" "Ljava/lang/String;" .null := D63 (Or.inr (wd hw 52 rfl)) (ty := (.object "java/lang/String")) (by decide)
                        refine go st63 ?_
                        show Run p e below _ (T63.setTop (mkF m 304 #[.val (.int p0), .val (.int p1), .val (.int p2), .val (.int p3), .val (.int (p0 &&& (65535 : Int32))), .val (.int vs), .val (.ref b46), .val (.ref b47), .val (.int (p1 &&& (65535 : Int32))), .val (.int vi), .val (.ref b49), .val (.ref b50), .val (.int f12), .val (.int f13), .val (.int (p2 &&& (65535 : Int32))), .val (.int vk), .val (.ref b54), .val (.ref b55), .val (.int f18), .val (.int f19), .val i1, .val i2, .val k1, .val k2, .unset, .unset, .unset] [(.ref b63)]))
                        refine go (fun _ => XS.dup X63.here hx rfl (hb hby at_304) rfl rfl) ?_
                        show Run p e below _ (T63.setTop (mkF m 305 #[.val (.int p0), .val (.int p1), .val (.int p2), .val (.int p3), .val (.int (p0 &&& (65535 : Int32))), .val (.int vs), .val (.ref b46), .val (.ref b47), .val (.int (p1 &&& (65535 : Int32))), .val (.int vi), .val (.ref b49), .val (.ref b50), .val (.int f12), .val (.int f13), .val (.int (p2 &&& (65535 : Int32))), .val (.int vk), .val (.ref b54), .val (.ref b55), .val (.int f18), .val (.int f19), .val i1, .val i2, .val k1, .val k2, .unset, .unset, .unset] [(.ref b63), (.ref b63)]))
                        obtain ⟨T64, h64, X64, e64, E64, A64, D64, -, st64⟩ := newO X63 hx hZ hown (wd hw 6 rfl) (wd hw 7 rfl) (wd hw 8 rfl) e63 (g := (mkF m 305 #[.val (.int p0), .val (.int p1), .val (.int p2), .val (.int p3), .val (.int (p0 &&& (65535 : Int32))), .val (.int vs), .val (.ref b46), .val (.ref b47), .val (.int (p1 &&& (65535 : Int32))), .val (.int vi), .val (.ref b49), .val (.ref b50), .val (.int f12), .val (.int f13), .val (.int (p2 &&& (65535 : Int32))), .val (.int vk), .val (.ref b54), .val (.ref b55), .val (.int f18), .val (.int f19), .val i1, .val i2, .val k1, .val k2, .unset, .unset, .unset] [(.ref b63), (.ref b63)])) rfl (hb hby at_305) (by decide) (by decide)
                        obtain ⟨b64, y64⟩ : ∃ z, z = h63.size := ⟨_, rfl⟩
                        rw [← y64] at A64 D64 st64
                        have g_b64 : n0 ≤ b64 := y64.symm ▸ old_sz O0
                        have szf_b64 : h61.size ≤ b64 := y64.symm ▸ KF62.1
                        have ne_b46_b64 : b46 ≠ b64 := Nat.ne_of_lt (y64.symm ▸ V_b46.lt)
                        have ne_b47_b64 : b47 ≠ b64 := Nat.ne_of_lt (y64.symm ▸ V_b47.lt)
                        have ne_b49_b64 : b49 ≠ b64 := Nat.ne_of_lt (y64.symm ▸ V_b49.lt)
                        have ne_b50_b64 : b50 ≠ b64 := Nat.ne_of_lt (y64.symm ▸ V_b50.lt)
                        have ne_b54_b64 : b54 ≠ b64 := Nat.ne_of_lt (y64.symm ▸ V_b54.lt)
                        have ne_b55_b64 : b55 ≠ b64 := Nat.ne_of_lt (y64.symm ▸ V_b55.lt)
                        have ne_b63_b64 : b63 ≠ b64 := Nat.ne_of_lt (y64.symm ▸ E_b63.lt)
                        have O0 := O0.ext E64
                        have V_b46 := V_b46.ext E64
                        have V_b47 := V_b47.ext E64
                        have V_b49 := V_b49.ext E64
                        have V_b50 := V_b50.ext E64
                        have V_b54 := V_b54.ext E64
                        have V_b55 := V_b55.ext E64
                        have KF62 := KF62.ext E64
                        have E_b63 := E_b63.ext E64
                        have F_subject_b63 := F_subject_b63.ext E64
                        have F_issuer_b63 := F_issuer_b63.ext E64
                        have F_issuerKey_b63 := F_issuerKey_b63.ext E64
                        have E_b64 := A64
                        have F_coder_b64 : Fld Z h64 b64 "java/lang/String" "coder" "B" (.int (0 : Int32)) := D64 (Or.inr (wd hw 32 rfl)) (ty := .byte) (by decide)
                        have F_value_b64 : Fld Z h64 b64 "java/lang/String" "value" "[B" .null := D64 (Or.inr (wd hw 34 rfl)) (ty := (.array .byte)) (by decide)
                        refine go st64 ?_
                        show Run p e below _ (T64.setTop (mkF m 308 #[.val (.int p0), .val (.int p1), .val (.int p2), .val (.int p3), .val (.int (p0 &&& (65535 : Int32))), .val (.int vs), .val (.ref b46), .val (.ref b47), .val (.int (p1 &&& (65535 : Int32))), .val (.int vi), .val (.ref b49), .val (.ref b50), .val (.int f12), .val (.int f13), .val (.int (p2 &&& (65535 : Int32))), .val (.int vk), .val (.ref b54), .val (.ref b55), .val (.int f18), .val (.int f19), .val i1, .val i2, .val k1, .val k2, .unset, .unset, .unset] [(.ref b64), (.ref b63), (.ref b63)]))
                        refine go (fun _ => XS.dup X64.here hx rfl (hb hby at_308) rfl rfl) ?_
                        show Run p e below _ (T64.setTop (mkF m 309 #[.val (.int p0), .val (.int p1), .val (.int p2), .val (.int p3), .val (.int (p0 &&& (65535 : Int32))), .val (.int vs), .val (.ref b46), .val (.ref b47), .val (.int (p1 &&& (65535 : Int32))), .val (.int vi), .val (.ref b49), .val (.ref b50), .val (.int f12), .val (.int f13), .val (.int (p2 &&& (65535 : Int32))), .val (.int vk), .val (.ref b54), .val (.ref b55), .val (.int f18), .val (.int f19), .val i1, .val i2, .val k1, .val k2, .unset, .unset, .unset] [(.ref b64), (.ref b64), (.ref b63), (.ref b63)]))
                        refine go (fun _ => XS.aload X64.here hx rfl (hb hby at_309) rfl rfl) ?_
                        show Run p e below _ (T64.setTop (mkF m 311 #[.val (.int p0), .val (.int p1), .val (.int p2), .val (.int p3), .val (.int (p0 &&& (65535 : Int32))), .val (.int vs), .val (.ref b46), .val (.ref b47), .val (.int (p1 &&& (65535 : Int32))), .val (.int vi), .val (.ref b49), .val (.ref b50), .val (.int f12), .val (.int f13), .val (.int (p2 &&& (65535 : Int32))), .val (.int vk), .val (.ref b54), .val (.ref b55), .val (.int f18), .val (.int f19), .val i1, .val i2, .val k1, .val k2, .unset, .unset, .unset] [(.ref b46), (.ref b64), (.ref b64), (.ref b63), (.ref b63)]))
                        refine callSpK X64 hx hZ rfl hown (wd hw 9 rfl) (wd hw 10 rfl) (wd hw 11 rfl) (by decide) e64 (a := b64) (argsL := [(.ref b46)]) (rest := [(.ref b64), (.ref b63), (.ref b63)]) (W := 3) ((payNew (cs := c46) hZ hw (wd hw 7 rfl) O0 g_b64 E_b64 F_value_b64 F_coder_b64 V_b46 S_COMPACT_STRINGS hzc rfl rfl (len12 M46).1 (Nat.le_trans (len12 M46).2 (by decide)) I46 (by decide) (by decide)).more (len12 M46).2) (by decide) (by decide) (by rw [hml]; rfl) (lenOf pd_4 rfl) rfl (Nat.le_of_eq rfl) (hb hby at_311) ?_
                        intro v65 T65 L65 h65 X65 e65 q65
                        have lt66_b46 := V_b46.lt
                        have lt66_b47 := V_b47.lt
                        have lt66_b49 := V_b49.lt
                        have lt66_b50 := V_b50.lt
                        have lt66_b54 := V_b54.lt
                        have lt66_b55 := V_b55.lt
                        have lt66_b63 := E_b63.lt
                        have lt66_b64 := E_b64.lt
                        obtain ⟨rfl, n65, K65, t65, kb65, gt65, sb65, nt65, T_b64⟩ := q65
                        have szf_t65 : h61.size ≤ t65 := Nat.le_trans KF62.1 sb65
                        have ne_b46_t65 : b46 ≠ t65 := Nat.ne_of_lt (Nat.lt_of_lt_of_le lt66_b46 sb65)
                        have ne_b47_t65 : b47 ≠ t65 := Nat.ne_of_lt (Nat.lt_of_lt_of_le lt66_b47 sb65)
                        have ne_b49_t65 : b49 ≠ t65 := Nat.ne_of_lt (Nat.lt_of_lt_of_le lt66_b49 sb65)
                        have ne_b50_t65 : b50 ≠ t65 := Nat.ne_of_lt (Nat.lt_of_lt_of_le lt66_b50 sb65)
                        have ne_b54_t65 : b54 ≠ t65 := Nat.ne_of_lt (Nat.lt_of_lt_of_le lt66_b54 sb65)
                        have ne_b55_t65 : b55 ≠ t65 := Nat.ne_of_lt (Nat.lt_of_lt_of_le lt66_b55 sb65)
                        have ne_b63_t65 : b63 ≠ t65 := Nat.ne_of_lt (Nat.lt_of_lt_of_le lt66_b63 sb65)
                        have ne_b64_t65 : b64 ≠ t65 := Nat.ne_of_lt (Nat.lt_of_lt_of_le lt66_b64 sb65)
                        have O0 := O0.keep K65 (allS g_b64 all0)
                        have V_b46 := V_b46.keep K65 (ninS ne_b46_b64 nin0)
                        have V_b47 := V_b47.keep K65 (ninS ne_b47_b64 nin0)
                        have V_b49 := V_b49.keep K65 (ninS ne_b49_b64 nin0)
                        have V_b50 := V_b50.keep K65 (ninS ne_b50_b64 nin0)
                        have V_b54 := V_b54.keep K65 (ninS ne_b54_b64 nin0)
                        have V_b55 := V_b55.keep K65 (ninS ne_b55_b64 nin0)
                        have KF62 := KF62.trans K65 (allS (Or.inr szf_b64) all0)
                        have E_b63 := E_b63.keep K65
                        have F_subject_b63 := F_subject_b63.keep K65 (ninS ne_b63_b64 nin0)
                        have F_issuer_b63 := F_issuer_b63.keep K65 (ninS ne_b63_b64 nin0)
                        have F_issuerKey_b63 := F_issuerKey_b63.keep K65 (ninS ne_b63_b64 nin0)
                        have N65 := Fr.app N61 n65
                        show Run p e below _ (T65.setTop (mkF m 314 #[.val (.int p0), .val (.int p1), .val (.int p2), .val (.int p3), .val (.int (p0 &&& (65535 : Int32))), .val (.int vs), .val (.ref b46), .val (.ref b47), .val (.int (p1 &&& (65535 : Int32))), .val (.int vi), .val (.ref b49), .val (.ref b50), .val (.int f12), .val (.int f13), .val (.int (p2 &&& (65535 : Int32))), .val (.int vk), .val (.ref b54), .val (.ref b55), .val (.int f18), .val (.int f19), .val i1, .val i2, .val k1, .val k2, .unset, .unset, .unset] [(.ref b64), (.ref b63), (.ref b63)]))
                        refine go (fun _ => XS.aload X65.here hx rfl (hb hby at_314) rfl Hi1.isRef) ?_
                        show Run p e below _ (T65.setTop (mkF m 316 #[.val (.int p0), .val (.int p1), .val (.int p2), .val (.int p3), .val (.int (p0 &&& (65535 : Int32))), .val (.int vs), .val (.ref b46), .val (.ref b47), .val (.int (p1 &&& (65535 : Int32))), .val (.int vi), .val (.ref b49), .val (.ref b50), .val (.int f12), .val (.int f13), .val (.int (p2 &&& (65535 : Int32))), .val (.int vk), .val (.ref b54), .val (.ref b55), .val (.int f18), .val (.int f19), .val i1, .val i2, .val k1, .val k2, .unset, .unset, .unset] [i1, (.ref b64), (.ref b63), (.ref b63)]))
                        refine go (fun _ => XS.aload X65.here hx rfl (hb hby at_316) rfl Hk1.isRef) ?_
                        show Run p e below _ (T65.setTop (mkF m 318 #[.val (.int p0), .val (.int p1), .val (.int p2), .val (.int p3), .val (.int (p0 &&& (65535 : Int32))), .val (.int vs), .val (.ref b46), .val (.ref b47), .val (.int (p1 &&& (65535 : Int32))), .val (.int vi), .val (.ref b49), .val (.ref b50), .val (.int f12), .val (.int f13), .val (.int (p2 &&& (65535 : Int32))), .val (.int vk), .val (.ref b54), .val (.ref b55), .val (.int f18), .val (.int f19), .val i1, .val i2, .val k1, .val k2, .unset, .unset, .unset] [k1, i1, (.ref b64), (.ref b63), (.ref b63)]))
                        refine callSp X65 hx hZ rfl hown (wd hw 38 rfl) (wd hw 39 rfl) (wd hw 40 rfl) (wd hw 37 rfl) (by decide) e65 (a := b63) (argsL := [(.ref b64), i1, k1]) (rest := [(.ref b63)]) (rm_ho l Z a0 hw [] b63 (.ref b64) i1 k1 h65 n0 O0 E_b63 F_subject_b63 F_issuer_b63 F_issuerKey_b63 g_b63 rfl Hi1.isRef Hk1.isRef) (W := 1) (by decide) (by decide) (by decide) (by decide) (by rw [hml]; rfl) (lenOf pd_5 rfl) rfl (Nat.le_of_eq rfl) (hb hby at_318) ?_
                        intro v67 T67 L67 h67 X67 e67 q67
                        obtain ⟨rfl, n67, K67, E_b63, F_subject_b63, F_issuer_b63, F_issuerKey_b63⟩ := q67
                        have O0 := O0.keep K67 (allS g_b63 all0)
                        have V_b46 := V_b46.keep K67 (ninS ne_b46_b63 nin0)
                        have V_b47 := V_b47.keep K67 (ninS ne_b47_b63 nin0)
                        have V_b49 := V_b49.keep K67 (ninS ne_b49_b63 nin0)
                        have V_b50 := V_b50.keep K67 (ninS ne_b50_b63 nin0)
                        have V_b54 := V_b54.keep K67 (ninS ne_b54_b63 nin0)
                        have V_b55 := V_b55.keep K67 (ninS ne_b55_b63 nin0)
                        have KF62 := KF62.trans K67 (allS (Or.inr szf_b63) all0)
                        have T_b64 := T_b64.keep K67 (ninS (Ne.symm ne_b63_b64) nin0) (ninS (Ne.symm ne_b63_t65) nin0)
                        have N67 := Fr.app N65 n67
                        show Run p e below _ (T67.setTop (mkF m 321 #[.val (.int p0), .val (.int p1), .val (.int p2), .val (.int p3), .val (.int (p0 &&& (65535 : Int32))), .val (.int vs), .val (.ref b46), .val (.ref b47), .val (.int (p1 &&& (65535 : Int32))), .val (.int vi), .val (.ref b49), .val (.ref b50), .val (.int f12), .val (.int f13), .val (.int (p2 &&& (65535 : Int32))), .val (.int vk), .val (.ref b54), .val (.ref b55), .val (.int f18), .val (.int f19), .val i1, .val i2, .val k1, .val k2, .unset, .unset, .unset] [(.ref b63)]))
                        have Hi1 := Hi1.keep0 KF62
                        have Hi2 := Hi2.keep0 KF62
                        have Hk1 := Hk1.keep0 KF62
                        have Hk2 := Hk2.keep0 KF62
                        refine go (fun _ => XS.astore X67.here hx rfl (hb hby at_321) rfl rfl (l' := #[.val (.int p0), .val (.int p1), .val (.int p2), .val (.int p3), .val (.int (p0 &&& (65535 : Int32))), .val (.int vs), .val (.ref b46), .val (.ref b47), .val (.int (p1 &&& (65535 : Int32))), .val (.int vi), .val (.ref b49), .val (.ref b50), .val (.int f12), .val (.int f13), .val (.int (p2 &&& (65535 : Int32))), .val (.int vk), .val (.ref b54), .val (.ref b55), .val (.int f18), .val (.int f19), .val i1, .val i2, .val k1, .val k2, .val (.ref b63), .unset, .unset]) (XS.store1 (o := .unset) rfl (Or.inl rfl) rfl)) ?_
                        show Run p e below _ (T67.setTop (mkF m 323 #[.val (.int p0), .val (.int p1), .val (.int p2), .val (.int p3), .val (.int (p0 &&& (65535 : Int32))), .val (.int vs), .val (.ref b46), .val (.ref b47), .val (.int (p1 &&& (65535 : Int32))), .val (.int vi), .val (.ref b49), .val (.ref b50), .val (.int f12), .val (.int f13), .val (.int (p2 &&& (65535 : Int32))), .val (.int vk), .val (.ref b54), .val (.ref b55), .val (.int f18), .val (.int f19), .val i1, .val i2, .val k1, .val k2, .val (.ref b63), .unset, .unset] []))
                        have KF68 := Keep.refl h67 []
                        obtain ⟨T69, h69, X69, e69, E69, A69, D69, -, st69⟩ := newO X67 hx hZ hown (wd hw 35 rfl) (wd hw 36 rfl) (wd hw 37 rfl) e67 (g := (mkF m 323 #[.val (.int p0), .val (.int p1), .val (.int p2), .val (.int p3), .val (.int (p0 &&& (65535 : Int32))), .val (.int vs), .val (.ref b46), .val (.ref b47), .val (.int (p1 &&& (65535 : Int32))), .val (.int vi), .val (.ref b49), .val (.ref b50), .val (.int f12), .val (.int f13), .val (.int (p2 &&& (65535 : Int32))), .val (.int vk), .val (.ref b54), .val (.ref b55), .val (.int f18), .val (.int f19), .val i1, .val i2, .val k1, .val k2, .val (.ref b63), .unset, .unset] [])) rfl (hb hby at_323) (by decide) (by decide)
                        obtain ⟨b69, y69⟩ : ∃ z, z = h67.size := ⟨_, rfl⟩
                        rw [← y69] at A69 D69 st69
                        have g_b69 : n0 ≤ b69 := y69.symm ▸ old_sz O0
                        have szf_b69 : h67.size ≤ b69 := y69.symm ▸ KF68.1
                        have ne_b46_b69 : b46 ≠ b69 := Nat.ne_of_lt (y69.symm ▸ V_b46.lt)
                        have ne_b47_b69 : b47 ≠ b69 := Nat.ne_of_lt (y69.symm ▸ V_b47.lt)
                        have ne_b49_b69 : b49 ≠ b69 := Nat.ne_of_lt (y69.symm ▸ V_b49.lt)
                        have ne_b50_b69 : b50 ≠ b69 := Nat.ne_of_lt (y69.symm ▸ V_b50.lt)
                        have ne_b54_b69 : b54 ≠ b69 := Nat.ne_of_lt (y69.symm ▸ V_b54.lt)
                        have ne_b55_b69 : b55 ≠ b69 := Nat.ne_of_lt (y69.symm ▸ V_b55.lt)
                        have ne_b63_b69 : b63 ≠ b69 := Nat.ne_of_lt (y69.symm ▸ E_b63.lt)
                        have ne_b64_b69 : b64 ≠ b69 := Nat.ne_of_lt (y69.symm ▸ T_b64.1.lt)
                        have ne_t65_b69 : t65 ≠ b69 := Nat.ne_of_lt (y69.symm ▸ T_b64.2.2.2.lt)
                        have O0 := O0.ext E69
                        have V_b46 := V_b46.ext E69
                        have V_b47 := V_b47.ext E69
                        have V_b49 := V_b49.ext E69
                        have V_b50 := V_b50.ext E69
                        have V_b54 := V_b54.ext E69
                        have V_b55 := V_b55.ext E69
                        have E_b63 := E_b63.ext E69
                        have T_b64 := T_b64.ext E69
                        have F_subject_b63 := F_subject_b63.ext E69
                        have F_issuer_b63 := F_issuer_b63.ext E69
                        have F_issuerKey_b63 := F_issuerKey_b63.ext E69
                        have KF68 := KF68.ext E69
                        have E_b69 := A69
                        have F_subject_b69 : Fld Z h69 b69 "com/example/gridsteward/gridsteward/Holder" "subject" "Ljava/lang/String;" .null := D69 (Or.inr (wd hw 48 rfl)) (ty := (.object "java/lang/String")) (by decide)
                        have F_issuer_b69 : Fld Z h69 b69 "com/example/gridsteward/gridsteward/Holder" "issuer" "Ljava/lang/String;" .null := D69 (Or.inr (wd hw 50 rfl)) (ty := (.object "java/lang/String")) (by decide)
                        have F_issuerKey_b69 : Fld Z h69 b69 "com/example/gridsteward/gridsteward/Holder" "issuerKey" "Ljava/lang/String;" .null := D69 (Or.inr (wd hw 52 rfl)) (ty := (.object "java/lang/String")) (by decide)
                        refine go st69 ?_
                        show Run p e below _ (T69.setTop (mkF m 326 #[.val (.int p0), .val (.int p1), .val (.int p2), .val (.int p3), .val (.int (p0 &&& (65535 : Int32))), .val (.int vs), .val (.ref b46), .val (.ref b47), .val (.int (p1 &&& (65535 : Int32))), .val (.int vi), .val (.ref b49), .val (.ref b50), .val (.int f12), .val (.int f13), .val (.int (p2 &&& (65535 : Int32))), .val (.int vk), .val (.ref b54), .val (.ref b55), .val (.int f18), .val (.int f19), .val i1, .val i2, .val k1, .val k2, .val (.ref b63), .unset, .unset] [(.ref b69)]))
                        refine go (fun _ => XS.dup X69.here hx rfl (hb hby at_326) rfl rfl) ?_
                        show Run p e below _ (T69.setTop (mkF m 327 #[.val (.int p0), .val (.int p1), .val (.int p2), .val (.int p3), .val (.int (p0 &&& (65535 : Int32))), .val (.int vs), .val (.ref b46), .val (.ref b47), .val (.int (p1 &&& (65535 : Int32))), .val (.int vi), .val (.ref b49), .val (.ref b50), .val (.int f12), .val (.int f13), .val (.int (p2 &&& (65535 : Int32))), .val (.int vk), .val (.ref b54), .val (.ref b55), .val (.int f18), .val (.int f19), .val i1, .val i2, .val k1, .val k2, .val (.ref b63), .unset, .unset] [(.ref b69), (.ref b69)]))
                        obtain ⟨T70, h70, X70, e70, E70, A70, D70, -, st70⟩ := newO X69 hx hZ hown (wd hw 6 rfl) (wd hw 7 rfl) (wd hw 8 rfl) e69 (g := (mkF m 327 #[.val (.int p0), .val (.int p1), .val (.int p2), .val (.int p3), .val (.int (p0 &&& (65535 : Int32))), .val (.int vs), .val (.ref b46), .val (.ref b47), .val (.int (p1 &&& (65535 : Int32))), .val (.int vi), .val (.ref b49), .val (.ref b50), .val (.int f12), .val (.int f13), .val (.int (p2 &&& (65535 : Int32))), .val (.int vk), .val (.ref b54), .val (.ref b55), .val (.int f18), .val (.int f19), .val i1, .val i2, .val k1, .val k2, .val (.ref b63), .unset, .unset] [(.ref b69), (.ref b69)])) rfl (hb hby at_327) (by decide) (by decide)
                        obtain ⟨b70, y70⟩ : ∃ z, z = h69.size := ⟨_, rfl⟩
                        rw [← y70] at A70 D70 st70
                        have g_b70 : n0 ≤ b70 := y70.symm ▸ old_sz O0
                        have szf_b70 : h67.size ≤ b70 := y70.symm ▸ KF68.1
                        have ne_b46_b70 : b46 ≠ b70 := Nat.ne_of_lt (y70.symm ▸ V_b46.lt)
                        have ne_b47_b70 : b47 ≠ b70 := Nat.ne_of_lt (y70.symm ▸ V_b47.lt)
                        have ne_b49_b70 : b49 ≠ b70 := Nat.ne_of_lt (y70.symm ▸ V_b49.lt)
                        have ne_b50_b70 : b50 ≠ b70 := Nat.ne_of_lt (y70.symm ▸ V_b50.lt)
                        have ne_b54_b70 : b54 ≠ b70 := Nat.ne_of_lt (y70.symm ▸ V_b54.lt)
                        have ne_b55_b70 : b55 ≠ b70 := Nat.ne_of_lt (y70.symm ▸ V_b55.lt)
                        have ne_b63_b70 : b63 ≠ b70 := Nat.ne_of_lt (y70.symm ▸ E_b63.lt)
                        have ne_b64_b70 : b64 ≠ b70 := Nat.ne_of_lt (y70.symm ▸ T_b64.1.lt)
                        have ne_t65_b70 : t65 ≠ b70 := Nat.ne_of_lt (y70.symm ▸ T_b64.2.2.2.lt)
                        have ne_b69_b70 : b69 ≠ b70 := Nat.ne_of_lt (y70.symm ▸ E_b69.lt)
                        have O0 := O0.ext E70
                        have V_b46 := V_b46.ext E70
                        have V_b47 := V_b47.ext E70
                        have V_b49 := V_b49.ext E70
                        have V_b50 := V_b50.ext E70
                        have V_b54 := V_b54.ext E70
                        have V_b55 := V_b55.ext E70
                        have E_b63 := E_b63.ext E70
                        have T_b64 := T_b64.ext E70
                        have F_subject_b63 := F_subject_b63.ext E70
                        have F_issuer_b63 := F_issuer_b63.ext E70
                        have F_issuerKey_b63 := F_issuerKey_b63.ext E70
                        have KF68 := KF68.ext E70
                        have E_b69 := E_b69.ext E70
                        have F_subject_b69 := F_subject_b69.ext E70
                        have F_issuer_b69 := F_issuer_b69.ext E70
                        have F_issuerKey_b69 := F_issuerKey_b69.ext E70
                        have E_b70 := A70
                        have F_coder_b70 : Fld Z h70 b70 "java/lang/String" "coder" "B" (.int (0 : Int32)) := D70 (Or.inr (wd hw 32 rfl)) (ty := .byte) (by decide)
                        have F_value_b70 : Fld Z h70 b70 "java/lang/String" "value" "[B" .null := D70 (Or.inr (wd hw 34 rfl)) (ty := (.array .byte)) (by decide)
                        refine go st70 ?_
                        show Run p e below _ (T70.setTop (mkF m 330 #[.val (.int p0), .val (.int p1), .val (.int p2), .val (.int p3), .val (.int (p0 &&& (65535 : Int32))), .val (.int vs), .val (.ref b46), .val (.ref b47), .val (.int (p1 &&& (65535 : Int32))), .val (.int vi), .val (.ref b49), .val (.ref b50), .val (.int f12), .val (.int f13), .val (.int (p2 &&& (65535 : Int32))), .val (.int vk), .val (.ref b54), .val (.ref b55), .val (.int f18), .val (.int f19), .val i1, .val i2, .val k1, .val k2, .val (.ref b63), .unset, .unset] [(.ref b70), (.ref b69), (.ref b69)]))
                        refine go (fun _ => XS.dup X70.here hx rfl (hb hby at_330) rfl rfl) ?_
                        show Run p e below _ (T70.setTop (mkF m 331 #[.val (.int p0), .val (.int p1), .val (.int p2), .val (.int p3), .val (.int (p0 &&& (65535 : Int32))), .val (.int vs), .val (.ref b46), .val (.ref b47), .val (.int (p1 &&& (65535 : Int32))), .val (.int vi), .val (.ref b49), .val (.ref b50), .val (.int f12), .val (.int f13), .val (.int (p2 &&& (65535 : Int32))), .val (.int vk), .val (.ref b54), .val (.ref b55), .val (.int f18), .val (.int f19), .val i1, .val i2, .val k1, .val k2, .val (.ref b63), .unset, .unset] [(.ref b70), (.ref b70), (.ref b69), (.ref b69)]))
                        refine go (fun _ => XS.aload X70.here hx rfl (hb hby at_331) rfl rfl) ?_
                        show Run p e below _ (T70.setTop (mkF m 333 #[.val (.int p0), .val (.int p1), .val (.int p2), .val (.int p3), .val (.int (p0 &&& (65535 : Int32))), .val (.int vs), .val (.ref b46), .val (.ref b47), .val (.int (p1 &&& (65535 : Int32))), .val (.int vi), .val (.ref b49), .val (.ref b50), .val (.int f12), .val (.int f13), .val (.int (p2 &&& (65535 : Int32))), .val (.int vk), .val (.ref b54), .val (.ref b55), .val (.int f18), .val (.int f19), .val i1, .val i2, .val k1, .val k2, .val (.ref b63), .unset, .unset] [(.ref b47), (.ref b70), (.ref b70), (.ref b69), (.ref b69)]))
                        refine callSpK X70 hx hZ rfl hown (wd hw 9 rfl) (wd hw 10 rfl) (wd hw 11 rfl) (by decide) e70 (a := b70) (argsL := [(.ref b47)]) (rest := [(.ref b70), (.ref b69), (.ref b69)]) (W := 3) ((payNew (cs := c47) hZ hw (wd hw 7 rfl) O0 g_b70 E_b70 F_value_b70 F_coder_b70 V_b47 S_COMPACT_STRINGS hzc rfl rfl (len12 M47).1 (Nat.le_trans (len12 M47).2 (by decide)) I47 (by decide) (by decide)).more (len12 M47).2) (by decide) (by decide) (by rw [hml]; rfl) (lenOf pd_4 rfl) rfl (Nat.le_of_eq rfl) (hb hby at_333) ?_
                        intro v71 T71 L71 h71 X71 e71 q71
                        have lt72_b46 := V_b46.lt
                        have lt72_b47 := V_b47.lt
                        have lt72_b49 := V_b49.lt
                        have lt72_b50 := V_b50.lt
                        have lt72_b54 := V_b54.lt
                        have lt72_b55 := V_b55.lt
                        have lt72_b63 := E_b63.lt
                        have lt72_b64 := T_b64.1.lt
                        have lt72_t65 := T_b64.2.2.2.lt
                        have lt72_b69 := E_b69.lt
                        have lt72_b70 := E_b70.lt
                        obtain ⟨rfl, n71, K71, t71, kb71, gt71, sb71, nt71, T_b70⟩ := q71
                        have szf_t71 : h67.size ≤ t71 := Nat.le_trans KF68.1 sb71
                        have ne_b46_t71 : b46 ≠ t71 := Nat.ne_of_lt (Nat.lt_of_lt_of_le lt72_b46 sb71)
                        have ne_b47_t71 : b47 ≠ t71 := Nat.ne_of_lt (Nat.lt_of_lt_of_le lt72_b47 sb71)
                        have ne_b49_t71 : b49 ≠ t71 := Nat.ne_of_lt (Nat.lt_of_lt_of_le lt72_b49 sb71)
                        have ne_b50_t71 : b50 ≠ t71 := Nat.ne_of_lt (Nat.lt_of_lt_of_le lt72_b50 sb71)
                        have ne_b54_t71 : b54 ≠ t71 := Nat.ne_of_lt (Nat.lt_of_lt_of_le lt72_b54 sb71)
                        have ne_b55_t71 : b55 ≠ t71 := Nat.ne_of_lt (Nat.lt_of_lt_of_le lt72_b55 sb71)
                        have ne_b63_t71 : b63 ≠ t71 := Nat.ne_of_lt (Nat.lt_of_lt_of_le lt72_b63 sb71)
                        have ne_b64_t71 : b64 ≠ t71 := Nat.ne_of_lt (Nat.lt_of_lt_of_le lt72_b64 sb71)
                        have ne_t65_t71 : t65 ≠ t71 := Nat.ne_of_lt (Nat.lt_of_lt_of_le lt72_t65 sb71)
                        have ne_b69_t71 : b69 ≠ t71 := Nat.ne_of_lt (Nat.lt_of_lt_of_le lt72_b69 sb71)
                        have ne_b70_t71 : b70 ≠ t71 := Nat.ne_of_lt (Nat.lt_of_lt_of_le lt72_b70 sb71)
                        have O0 := O0.keep K71 (allS g_b70 all0)
                        have V_b46 := V_b46.keep K71 (ninS ne_b46_b70 nin0)
                        have V_b47 := V_b47.keep K71 (ninS ne_b47_b70 nin0)
                        have V_b49 := V_b49.keep K71 (ninS ne_b49_b70 nin0)
                        have V_b50 := V_b50.keep K71 (ninS ne_b50_b70 nin0)
                        have V_b54 := V_b54.keep K71 (ninS ne_b54_b70 nin0)
                        have V_b55 := V_b55.keep K71 (ninS ne_b55_b70 nin0)
                        have E_b63 := E_b63.keep K71
                        have T_b64 := T_b64.keep K71 (ninS ne_b64_b70 nin0) (ninS ne_t65_b70 nin0)
                        have F_subject_b63 := F_subject_b63.keep K71 (ninS ne_b63_b70 nin0)
                        have F_issuer_b63 := F_issuer_b63.keep K71 (ninS ne_b63_b70 nin0)
                        have F_issuerKey_b63 := F_issuerKey_b63.keep K71 (ninS ne_b63_b70 nin0)
                        have KF68 := KF68.trans K71 (allS (Or.inr szf_b70) all0)
                        have E_b69 := E_b69.keep K71
                        have F_subject_b69 := F_subject_b69.keep K71 (ninS ne_b69_b70 nin0)
                        have F_issuer_b69 := F_issuer_b69.keep K71 (ninS ne_b69_b70 nin0)
                        have F_issuerKey_b69 := F_issuerKey_b69.keep K71 (ninS ne_b69_b70 nin0)
                        have N71 := Fr.app N67 n71
                        show Run p e below _ (T71.setTop (mkF m 336 #[.val (.int p0), .val (.int p1), .val (.int p2), .val (.int p3), .val (.int (p0 &&& (65535 : Int32))), .val (.int vs), .val (.ref b46), .val (.ref b47), .val (.int (p1 &&& (65535 : Int32))), .val (.int vi), .val (.ref b49), .val (.ref b50), .val (.int f12), .val (.int f13), .val (.int (p2 &&& (65535 : Int32))), .val (.int vk), .val (.ref b54), .val (.ref b55), .val (.int f18), .val (.int f19), .val i1, .val i2, .val k1, .val k2, .val (.ref b63), .unset, .unset] [(.ref b70), (.ref b69), (.ref b69)]))
                        refine go (fun _ => XS.aload X71.here hx rfl (hb hby at_336) rfl Hi2.isRef) ?_
                        show Run p e below _ (T71.setTop (mkF m 338 #[.val (.int p0), .val (.int p1), .val (.int p2), .val (.int p3), .val (.int (p0 &&& (65535 : Int32))), .val (.int vs), .val (.ref b46), .val (.ref b47), .val (.int (p1 &&& (65535 : Int32))), .val (.int vi), .val (.ref b49), .val (.ref b50), .val (.int f12), .val (.int f13), .val (.int (p2 &&& (65535 : Int32))), .val (.int vk), .val (.ref b54), .val (.ref b55), .val (.int f18), .val (.int f19), .val i1, .val i2, .val k1, .val k2, .val (.ref b63), .unset, .unset] [i2, (.ref b70), (.ref b69), (.ref b69)]))
                        refine go (fun _ => XS.aload X71.here hx rfl (hb hby at_338) rfl Hk2.isRef) ?_
                        show Run p e below _ (T71.setTop (mkF m 340 #[.val (.int p0), .val (.int p1), .val (.int p2), .val (.int p3), .val (.int (p0 &&& (65535 : Int32))), .val (.int vs), .val (.ref b46), .val (.ref b47), .val (.int (p1 &&& (65535 : Int32))), .val (.int vi), .val (.ref b49), .val (.ref b50), .val (.int f12), .val (.int f13), .val (.int (p2 &&& (65535 : Int32))), .val (.int vk), .val (.ref b54), .val (.ref b55), .val (.int f18), .val (.int f19), .val i1, .val i2, .val k1, .val k2, .val (.ref b63), .unset, .unset] [k2, i2, (.ref b70), (.ref b69), (.ref b69)]))
                        refine callSp X71 hx hZ rfl hown (wd hw 38 rfl) (wd hw 39 rfl) (wd hw 40 rfl) (wd hw 37 rfl) (by decide) e71 (a := b69) (argsL := [(.ref b70), i2, k2]) (rest := [(.ref b69)]) (rm_ho l Z a0 hw [] b69 (.ref b70) i2 k2 h71 n0 O0 E_b69 F_subject_b69 F_issuer_b69 F_issuerKey_b69 g_b69 rfl Hi2.isRef Hk2.isRef) (W := 1) (by decide) (by decide) (by decide) (by decide) (by rw [hml]; rfl) (lenOf pd_5 rfl) rfl (Nat.le_of_eq rfl) (hb hby at_340) ?_
                        intro v73 T73 L73 h73 X73 e73 q73
                        obtain ⟨rfl, n73, K73, E_b69, F_subject_b69, F_issuer_b69, F_issuerKey_b69⟩ := q73
                        have O0 := O0.keep K73 (allS g_b69 all0)
                        have V_b46 := V_b46.keep K73 (ninS ne_b46_b69 nin0)
                        have V_b47 := V_b47.keep K73 (ninS ne_b47_b69 nin0)
                        have V_b49 := V_b49.keep K73 (ninS ne_b49_b69 nin0)
                        have V_b50 := V_b50.keep K73 (ninS ne_b50_b69 nin0)
                        have V_b54 := V_b54.keep K73 (ninS ne_b54_b69 nin0)
                        have V_b55 := V_b55.keep K73 (ninS ne_b55_b69 nin0)
                        have E_b63 := E_b63.keep K73
                        have T_b64 := T_b64.keep K73 (ninS ne_b64_b69 nin0) (ninS ne_t65_b69 nin0)
                        have F_subject_b63 := F_subject_b63.keep K73 (ninS ne_b63_b69 nin0)
                        have F_issuer_b63 := F_issuer_b63.keep K73 (ninS ne_b63_b69 nin0)
                        have F_issuerKey_b63 := F_issuerKey_b63.keep K73 (ninS ne_b63_b69 nin0)
                        have KF68 := KF68.trans K73 (allS (Or.inr szf_b69) all0)
                        have T_b70 := T_b70.keep K73 (ninS (Ne.symm ne_b69_b70) nin0) (ninS (Ne.symm ne_b69_t71) nin0)
                        have N73 := Fr.app N71 n73
                        show Run p e below _ (T73.setTop (mkF m 343 #[.val (.int p0), .val (.int p1), .val (.int p2), .val (.int p3), .val (.int (p0 &&& (65535 : Int32))), .val (.int vs), .val (.ref b46), .val (.ref b47), .val (.int (p1 &&& (65535 : Int32))), .val (.int vi), .val (.ref b49), .val (.ref b50), .val (.int f12), .val (.int f13), .val (.int (p2 &&& (65535 : Int32))), .val (.int vk), .val (.ref b54), .val (.ref b55), .val (.int f18), .val (.int f19), .val i1, .val i2, .val k1, .val k2, .val (.ref b63), .unset, .unset] [(.ref b69)]))
                        have Hi1 := Hi1.keep0 KF68
                        have Hi2 := Hi2.keep0 KF68
                        have Hk1 := Hk1.keep0 KF68
                        have Hk2 := Hk2.keep0 KF68
                        refine go (fun _ => XS.astore X73.here hx rfl (hb hby at_343) rfl rfl (l' := #[.val (.int p0), .val (.int p1), .val (.int p2), .val (.int p3), .val (.int (p0 &&& (65535 : Int32))), .val (.int vs), .val (.ref b46), .val (.ref b47), .val (.int (p1 &&& (65535 : Int32))), .val (.int vi), .val (.ref b49), .val (.ref b50), .val (.int f12), .val (.int f13), .val (.int (p2 &&& (65535 : Int32))), .val (.int vk), .val (.ref b54), .val (.ref b55), .val (.int f18), .val (.int f19), .val i1, .val i2, .val k1, .val k2, .val (.ref b63), .val (.ref b69), .unset]) (XS.store1 (o := .unset) rfl (Or.inl rfl) rfl)) ?_
                        show Run p e below _ (T73.setTop (mkF m 345 #[.val (.int p0), .val (.int p1), .val (.int p2), .val (.int p3), .val (.int (p0 &&& (65535 : Int32))), .val (.int vs), .val (.ref b46), .val (.ref b47), .val (.int (p1 &&& (65535 : Int32))), .val (.int vi), .val (.ref b49), .val (.ref b50), .val (.int f12), .val (.int f13), .val (.int (p2 &&& (65535 : Int32))), .val (.int vk), .val (.ref b54), .val (.ref b55), .val (.int f18), .val (.int f19), .val i1, .val i2, .val k1, .val k2, .val (.ref b63), .val (.ref b69), .unset] []))
                        have J400 : ∀ (T74 : State) (L74 : List Loc) (X74 : Stand p l e room_1 s m #[(.int p0), (.int p1), (.int p2), (.int p3)] below meth c T74 L74 20 60) (e74 : T74.heap = h73) (N74 : Fr n0 L74) (ex : Int32)  (hex : ex = (agV c46 c47 oi1 oi2 ok1 ok2)), Run p e below (Ends s (Q_rmlaw p0 p1 p2 p3 zc h0 n0) 48 192) (T74.setTop (mkF m 400 #[.val (.int p0), .val (.int p1), .val (.int p2), .val (.int p3), .val (.int (p0 &&& (65535 : Int32))), .val (.int vs), .val (.ref b46), .val (.ref b47), .val (.int (p1 &&& (65535 : Int32))), .val (.int vi), .val (.ref b49), .val (.ref b50), .val (.int f12), .val (.int f13), .val (.int (p2 &&& (65535 : Int32))), .val (.int vk), .val (.ref b54), .val (.ref b55), .val (.int f18), .val (.int f19), .val i1, .val i2, .val k1, .val k2, .val (.ref b63), .val (.ref b69), .unset] [(.int ex)])) := by
                          intro T74 L74 X74 e74 N74 ex  hex
                          refine go (fun _ => XS.istore X74.here hx rfl (hb hby at_400) rfl (l' := #[.val (.int p0), .val (.int p1), .val (.int p2), .val (.int p3), .val (.int (p0 &&& (65535 : Int32))), .val (.int vs), .val (.ref b46), .val (.ref b47), .val (.int (p1 &&& (65535 : Int32))), .val (.int vi), .val (.ref b49), .val (.ref b50), .val (.int f12), .val (.int f13), .val (.int (p2 &&& (65535 : Int32))), .val (.int vk), .val (.ref b54), .val (.ref b55), .val (.int f18), .val (.int f19), .val i1, .val i2, .val k1, .val k2, .val (.ref b63), .val (.ref b69), .val (.int ex)]) (XS.store1 (o := .unset) rfl (Or.inl rfl) rfl)) ?_
                          show Run p e below _ (T74.setTop (mkF m 402 #[.val (.int p0), .val (.int p1), .val (.int p2), .val (.int p3), .val (.int (p0 &&& (65535 : Int32))), .val (.int vs), .val (.ref b46), .val (.ref b47), .val (.int (p1 &&& (65535 : Int32))), .val (.int vi), .val (.ref b49), .val (.ref b50), .val (.int f12), .val (.int f13), .val (.int (p2 &&& (65535 : Int32))), .val (.int vk), .val (.ref b54), .val (.ref b55), .val (.int f18), .val (.int f19), .val i1, .val i2, .val k1, .val k2, .val (.ref b63), .val (.ref b69), .val (.int ex)] []))
                          refine go (fun _ => XS.aload X74.here hx rfl (hb hby at_402) rfl rfl) ?_
                          show Run p e below _ (T74.setTop (mkF m 404 #[.val (.int p0), .val (.int p1), .val (.int p2), .val (.int p3), .val (.int (p0 &&& (65535 : Int32))), .val (.int vs), .val (.ref b46), .val (.ref b47), .val (.int (p1 &&& (65535 : Int32))), .val (.int vi), .val (.ref b49), .val (.ref b50), .val (.int f12), .val (.int f13), .val (.int (p2 &&& (65535 : Int32))), .val (.int vk), .val (.ref b54), .val (.ref b55), .val (.int f18), .val (.int f19), .val i1, .val i2, .val k1, .val k2, .val (.ref b63), .val (.ref b69), .val (.int ex)] [(.ref b63)]))
                          refine go (fun _ => XS.aload X74.here hx rfl (hb hby at_404) rfl rfl) ?_
                          show Run p e below _ (T74.setTop (mkF m 406 #[.val (.int p0), .val (.int p1), .val (.int p2), .val (.int p3), .val (.int (p0 &&& (65535 : Int32))), .val (.int vs), .val (.ref b46), .val (.ref b47), .val (.int (p1 &&& (65535 : Int32))), .val (.int vi), .val (.ref b49), .val (.ref b50), .val (.int f12), .val (.int f13), .val (.int (p2 &&& (65535 : Int32))), .val (.int vk), .val (.ref b54), .val (.ref b55), .val (.int f18), .val (.int f19), .val i1, .val i2, .val k1, .val k2, .val (.ref b63), .val (.ref b69), .val (.int ex)] [(.ref b69), (.ref b63)]))
                          refine callVi X74 hx hZ hown (wd hw 56 rfl) (wd hw 57 rfl) (notFace_of_selects (args := #[]) (mvT hZ (wd hw 59 rfl))) (wd hw 59 rfl) (wd hw 58 rfl) (wd hw 60 rfl) (wd hw 37 rfl) (by decide) e74 E_b63 (argsL := [(.ref b69)]) (rest := []) (rm_ag l Z a0 hw [] zc b63 b69 b64 t65 b70 t71 kb65 kb71 c46 c47 i1 i2 k1 k2 oi1 oi2 ok1 ok2 h73 n0 O0 S_COMPACT_STRINGS hzc E_b63 F_subject_b63 F_issuer_b63 F_issuerKey_b63 E_b69 F_subject_b69 F_issuer_b69 F_issuerKey_b69 T_b64 T_b70 I46 (Nat.le_trans (len12 M46).2 (by decide)) I47 (Nat.le_trans (len12 M47).2 (by decide)) Hi1 Hi2 Hk1 Hk2) (W := 0) (by decide) (by decide) (by decide) (by decide) (by rw [hml]; rfl) (lenOf pd_6 rfl) rfl (Nat.le_of_eq rfl) (hb hby at_406) ?_
                          intro v75 T75 L75 h75 X75 e75 q75
                          obtain ⟨rv, n75, k75⟩ := q75
                          replace rv : v75 = some (.int ex) := hex ▸ rv
                          subst rv
                          have e75 := e75.trans k75
                          have N75 := Fr.app N74 n75
                          show Run p e below _ (T75.setTop (mkF m 409 #[.val (.int p0), .val (.int p1), .val (.int p2), .val (.int p3), .val (.int (p0 &&& (65535 : Int32))), .val (.int vs), .val (.ref b46), .val (.ref b47), .val (.int (p1 &&& (65535 : Int32))), .val (.int vi), .val (.ref b49), .val (.ref b50), .val (.int f12), .val (.int f13), .val (.int (p2 &&& (65535 : Int32))), .val (.int vk), .val (.ref b54), .val (.ref b55), .val (.int f18), .val (.int f19), .val i1, .val i2, .val k1, .val k2, .val (.ref b63), .val (.ref b69), .val (.int ex)] [(.int ex)]))
                          refine go (fun _ => XS.iload X75.here hx rfl (hb hby at_409) rfl) ?_
                          show Run p e below _ (T75.setTop (mkF m 411 #[.val (.int p0), .val (.int p1), .val (.int p2), .val (.int p3), .val (.int (p0 &&& (65535 : Int32))), .val (.int vs), .val (.ref b46), .val (.ref b47), .val (.int (p1 &&& (65535 : Int32))), .val (.int vi), .val (.ref b49), .val (.ref b50), .val (.int f12), .val (.int f13), .val (.int (p2 &&& (65535 : Int32))), .val (.int vk), .val (.ref b54), .val (.ref b55), .val (.int f18), .val (.int f19), .val i1, .val i2, .val k1, .val k2, .val (.ref b63), .val (.ref b69), .val (.int ex)] [(.int ex), (.int ex)]))
                          refine go (fun _ => XS.icmpNo X75.here hx rfl (hb hby at_411) rfl (teq (rfl : ex = ex)).2) ?_
                          show Run p e below _ (T75.setTop (mkF m 414 #[.val (.int p0), .val (.int p1), .val (.int p2), .val (.int p3), .val (.int (p0 &&& (65535 : Int32))), .val (.int vs), .val (.ref b46), .val (.ref b47), .val (.int (p1 &&& (65535 : Int32))), .val (.int vi), .val (.ref b49), .val (.ref b50), .val (.int f12), .val (.int f13), .val (.int (p2 &&& (65535 : Int32))), .val (.int vk), .val (.ref b54), .val (.ref b55), .val (.int f18), .val (.int f19), .val i1, .val i2, .val k1, .val k2, .val (.ref b63), .val (.ref b69), .val (.int ex)] []))
                          refine go (fun _ => XS.iconst X75.here hx rfl (hb hby at_414)) ?_
                          show Run p e below _ (T75.setTop (mkF m 415 #[.val (.int p0), .val (.int p1), .val (.int p2), .val (.int p3), .val (.int (p0 &&& (65535 : Int32))), .val (.int vs), .val (.ref b46), .val (.ref b47), .val (.int (p1 &&& (65535 : Int32))), .val (.int vi), .val (.ref b49), .val (.ref b50), .val (.int f12), .val (.int f13), .val (.int (p2 &&& (65535 : Int32))), .val (.int vk), .val (.ref b54), .val (.ref b55), .val (.int f18), .val (.int f19), .val i1, .val i2, .val k1, .val k2, .val (.ref b63), .val (.ref b69), .val (.int ex)] [(.int (1 : Int32))]))
                          refine go (fun _ => XS.goto X75.here hx rfl (pc0 := 415) (pc' := 419) rfl (hb hby at_415) (by decide) (by decide)) ?_
                          show Run p e below _ (T75.setTop (mkF m 419 #[.val (.int p0), .val (.int p1), .val (.int p2), .val (.int p3), .val (.int (p0 &&& (65535 : Int32))), .val (.int vs), .val (.ref b46), .val (.ref b47), .val (.int (p1 &&& (65535 : Int32))), .val (.int vi), .val (.ref b49), .val (.ref b50), .val (.int f12), .val (.int f13), .val (.int (p2 &&& (65535 : Int32))), .val (.int vk), .val (.ref b54), .val (.ref b55), .val (.int f18), .val (.int f19), .val i1, .val i2, .val k1, .val k2, .val (.ref b63), .val (.ref b69), .val (.int ex)] [(.int (1 : Int32))]))
                          exact endN X75 hx hlk (t := .boolean) hret (by simp) (hb hby at_419) (⟨rfl, N75⟩) (by decide) (by decide)
                        refine go (fun _ => XS.aload X73.here hx rfl (hb hby at_345) rfl rfl) ?_
                        show Run p e below _ (T73.setTop (mkF m 347 #[.val (.int p0), .val (.int p1), .val (.int p2), .val (.int p3), .val (.int (p0 &&& (65535 : Int32))), .val (.int vs), .val (.ref b46), .val (.ref b47), .val (.int (p1 &&& (65535 : Int32))), .val (.int vi), .val (.ref b49), .val (.ref b50), .val (.int f12), .val (.int f13), .val (.int (p2 &&& (65535 : Int32))), .val (.int vk), .val (.ref b54), .val (.ref b55), .val (.int f18), .val (.int f19), .val i1, .val i2, .val k1, .val k2, .val (.ref b63), .val (.ref b69), .unset] [(.ref b46)]))
                        refine go (fun _ => XS.aload X73.here hx rfl (hb hby at_347) rfl rfl) ?_
                        show Run p e below _ (T73.setTop (mkF m 349 #[.val (.int p0), .val (.int p1), .val (.int p2), .val (.int p3), .val (.int (p0 &&& (65535 : Int32))), .val (.int vs), .val (.ref b46), .val (.ref b47), .val (.int (p1 &&& (65535 : Int32))), .val (.int vi), .val (.ref b49), .val (.ref b50), .val (.int f12), .val (.int f13), .val (.int (p2 &&& (65535 : Int32))), .val (.int vk), .val (.ref b54), .val (.ref b55), .val (.int f18), .val (.int f19), .val i1, .val i2, .val k1, .val k2, .val (.ref b63), .val (.ref b69), .unset] [(.ref b47), (.ref b46)]))
                        refine callSt X73 hx hZ hown (wd hw 53 rfl) (wd hw 54 rfl) (wd hw 3 rfl) (wd hw 55 rfl) (by decide) e73 (argsL := [(.ref b46), (.ref b47)]) (rest := []) (rm_sm l Z a0 hw [] b46 b47 k46 k47 c46 c47 h73 n0 O0 V_b46 V_b47 M46 M47) (W := 0) (by decide) (by decide) (by decide) (by decide) (by rw [hml]; rfl) (lenOf pd_7 rfl) rfl (Nat.le_of_eq rfl) (hb hby at_349) ?_
                        intro v76 T76 L76 h76 X76 e76 q76
                        obtain ⟨rv, n76, k76⟩ := q76
                        replace rv : v76 = some (.int (if c46 = c47 then (1 : Int32) else 0)) := rv
                        subst rv
                        have e76 := e76.trans k76
                        have N76 := Fr.app N73 n76
                        show Run p e below _ (T76.setTop (mkF m 352 #[.val (.int p0), .val (.int p1), .val (.int p2), .val (.int p3), .val (.int (p0 &&& (65535 : Int32))), .val (.int vs), .val (.ref b46), .val (.ref b47), .val (.int (p1 &&& (65535 : Int32))), .val (.int vi), .val (.ref b49), .val (.ref b50), .val (.int f12), .val (.int f13), .val (.int (p2 &&& (65535 : Int32))), .val (.int vk), .val (.ref b54), .val (.ref b55), .val (.int f18), .val (.int f19), .val i1, .val i2, .val k1, .val k2, .val (.ref b63), .val (.ref b69), .unset] [(.int (if c46 = c47 then (1 : Int32) else 0))]))
                        by_cases c77 : (if c46 = c47 then (1 : Int32) else 0) = 0
                        · skip
                          refine go (fun _ => XS.ifYes X76.here hx rfl (pc0 := 352) (pc' := 399) rfl (hb hby at_352) rfl ((if0 _ _).trans (teq c77).1) (by decide) (by decide)) ?_
                          show Run p e below _ (T76.setTop (mkF m 399 #[.val (.int p0), .val (.int p1), .val (.int p2), .val (.int p3), .val (.int (p0 &&& (65535 : Int32))), .val (.int vs), .val (.ref b46), .val (.ref b47), .val (.int (p1 &&& (65535 : Int32))), .val (.int vi), .val (.ref b49), .val (.ref b50), .val (.int f12), .val (.int f13), .val (.int (p2 &&& (65535 : Int32))), .val (.int vk), .val (.ref b54), .val (.ref b55), .val (.int f18), .val (.int f19), .val i1, .val i2, .val k1, .val k2, .val (.ref b63), .val (.ref b69), .unset] []))
                          refine go (fun _ => XS.iconst X76.here hx rfl (hb hby at_399)) ?_
                          show Run p e below _ (T76.setTop (mkF m 400 #[.val (.int p0), .val (.int p1), .val (.int p2), .val (.int p3), .val (.int (p0 &&& (65535 : Int32))), .val (.int vs), .val (.ref b46), .val (.ref b47), .val (.int (p1 &&& (65535 : Int32))), .val (.int vi), .val (.ref b49), .val (.ref b50), .val (.int f12), .val (.int f13), .val (.int (p2 &&& (65535 : Int32))), .val (.int vk), .val (.ref b54), .val (.ref b55), .val (.int f18), .val (.int f19), .val i1, .val i2, .val k1, .val k2, .val (.ref b63), .val (.ref b69), .unset] [(.int (0 : Int32))]))
                          exact J400 _ _ X76 e76 N76 (0 : Int32)  (by unfold agV; by_cases q1 : c46 = c47 <;> by_cases q2 : c49 = c50 <;> by_cases q3 : c54 = c55 <;> simp_all [uoe])
                        · skip
                          refine go (fun _ => XS.ifNo X76.here hx rfl (hb hby at_352) rfl ((if0 _ _).trans (feq c77).1)) ?_
                          show Run p e below _ (T76.setTop (mkF m 355 #[.val (.int p0), .val (.int p1), .val (.int p2), .val (.int p3), .val (.int (p0 &&& (65535 : Int32))), .val (.int vs), .val (.ref b46), .val (.ref b47), .val (.int (p1 &&& (65535 : Int32))), .val (.int vi), .val (.ref b49), .val (.ref b50), .val (.int f12), .val (.int f13), .val (.int (p2 &&& (65535 : Int32))), .val (.int vk), .val (.ref b54), .val (.ref b55), .val (.int f18), .val (.int f19), .val i1, .val i2, .val k1, .val k2, .val (.ref b63), .val (.ref b69), .unset] []))
                          refine go (fun _ => XS.iload X76.here hx rfl (hb hby at_355) rfl) ?_
                          show Run p e below _ (T76.setTop (mkF m 357 #[.val (.int p0), .val (.int p1), .val (.int p2), .val (.int p3), .val (.int (p0 &&& (65535 : Int32))), .val (.int vs), .val (.ref b46), .val (.ref b47), .val (.int (p1 &&& (65535 : Int32))), .val (.int vi), .val (.ref b49), .val (.ref b50), .val (.int f12), .val (.int f13), .val (.int (p2 &&& (65535 : Int32))), .val (.int vk), .val (.ref b54), .val (.ref b55), .val (.int f18), .val (.int f19), .val i1, .val i2, .val k1, .val k2, .val (.ref b63), .val (.ref b69), .unset] [(.int f12)]))
                          by_cases c78 : f12 = 0
                          · skip
                            refine go (fun _ => XS.ifNo X76.here hx rfl (hb hby at_357) rfl ((if0 _ _).trans (teq c78).2)) ?_
                            show Run p e below _ (T76.setTop (mkF m 360 #[.val (.int p0), .val (.int p1), .val (.int p2), .val (.int p3), .val (.int (p0 &&& (65535 : Int32))), .val (.int vs), .val (.ref b46), .val (.ref b47), .val (.int (p1 &&& (65535 : Int32))), .val (.int vi), .val (.ref b49), .val (.ref b50), .val (.int f12), .val (.int f13), .val (.int (p2 &&& (65535 : Int32))), .val (.int vk), .val (.ref b54), .val (.ref b55), .val (.int f18), .val (.int f19), .val i1, .val i2, .val k1, .val k2, .val (.ref b63), .val (.ref b69), .unset] []))
                            refine go (fun _ => XS.iload X76.here hx rfl (hb hby at_360) rfl) ?_
                            show Run p e below _ (T76.setTop (mkF m 362 #[.val (.int p0), .val (.int p1), .val (.int p2), .val (.int p3), .val (.int (p0 &&& (65535 : Int32))), .val (.int vs), .val (.ref b46), .val (.ref b47), .val (.int (p1 &&& (65535 : Int32))), .val (.int vi), .val (.ref b49), .val (.ref b50), .val (.int f12), .val (.int f13), .val (.int (p2 &&& (65535 : Int32))), .val (.int vk), .val (.ref b54), .val (.ref b55), .val (.int f18), .val (.int f19), .val i1, .val i2, .val k1, .val k2, .val (.ref b63), .val (.ref b69), .unset] [(.int f13)]))
                            by_cases c79 : f13 = 0
                            · skip
                              refine go (fun _ => XS.ifNo X76.here hx rfl (hb hby at_362) rfl ((if0 _ _).trans (teq c79).2)) ?_
                              show Run p e below _ (T76.setTop (mkF m 365 #[.val (.int p0), .val (.int p1), .val (.int p2), .val (.int p3), .val (.int (p0 &&& (65535 : Int32))), .val (.int vs), .val (.ref b46), .val (.ref b47), .val (.int (p1 &&& (65535 : Int32))), .val (.int vi), .val (.ref b49), .val (.ref b50), .val (.int f12), .val (.int f13), .val (.int (p2 &&& (65535 : Int32))), .val (.int vk), .val (.ref b54), .val (.ref b55), .val (.int f18), .val (.int f19), .val i1, .val i2, .val k1, .val k2, .val (.ref b63), .val (.ref b69), .unset] []))
                              refine go (fun _ => XS.aload X76.here hx rfl (hb hby at_365) rfl rfl) ?_
                              show Run p e below _ (T76.setTop (mkF m 367 #[.val (.int p0), .val (.int p1), .val (.int p2), .val (.int p3), .val (.int (p0 &&& (65535 : Int32))), .val (.int vs), .val (.ref b46), .val (.ref b47), .val (.int (p1 &&& (65535 : Int32))), .val (.int vi), .val (.ref b49), .val (.ref b50), .val (.int f12), .val (.int f13), .val (.int (p2 &&& (65535 : Int32))), .val (.int vk), .val (.ref b54), .val (.ref b55), .val (.int f18), .val (.int f19), .val i1, .val i2, .val k1, .val k2, .val (.ref b63), .val (.ref b69), .unset] [(.ref b49)]))
                              refine go (fun _ => XS.aload X76.here hx rfl (hb hby at_367) rfl rfl) ?_
                              show Run p e below _ (T76.setTop (mkF m 369 #[.val (.int p0), .val (.int p1), .val (.int p2), .val (.int p3), .val (.int (p0 &&& (65535 : Int32))), .val (.int vs), .val (.ref b46), .val (.ref b47), .val (.int (p1 &&& (65535 : Int32))), .val (.int vi), .val (.ref b49), .val (.ref b50), .val (.int f12), .val (.int f13), .val (.int (p2 &&& (65535 : Int32))), .val (.int vk), .val (.ref b54), .val (.ref b55), .val (.int f18), .val (.int f19), .val i1, .val i2, .val k1, .val k2, .val (.ref b63), .val (.ref b69), .unset] [(.ref b50), (.ref b49)]))
                              refine callSt X76 hx hZ hown (wd hw 53 rfl) (wd hw 54 rfl) (wd hw 3 rfl) (wd hw 55 rfl) (by decide) e76 (argsL := [(.ref b49), (.ref b50)]) (rest := []) (rm_sm l Z a0 hw [] b49 b50 k49 k50 c49 c50 h73 n0 O0 V_b49 V_b50 M49 M50) (W := 0) (by decide) (by decide) (by decide) (by decide) (by rw [hml]; rfl) (lenOf pd_7 rfl) rfl (Nat.le_of_eq rfl) (hb hby at_369) ?_
                              intro v80 T80 L80 h80 X80 e80 q80
                              obtain ⟨rv, n80, k80⟩ := q80
                              replace rv : v80 = some (.int (if c49 = c50 then (1 : Int32) else 0)) := rv
                              subst rv
                              have e80 := e80.trans k80
                              have N80 := Fr.app N76 n80
                              show Run p e below _ (T80.setTop (mkF m 372 #[.val (.int p0), .val (.int p1), .val (.int p2), .val (.int p3), .val (.int (p0 &&& (65535 : Int32))), .val (.int vs), .val (.ref b46), .val (.ref b47), .val (.int (p1 &&& (65535 : Int32))), .val (.int vi), .val (.ref b49), .val (.ref b50), .val (.int f12), .val (.int f13), .val (.int (p2 &&& (65535 : Int32))), .val (.int vk), .val (.ref b54), .val (.ref b55), .val (.int f18), .val (.int f19), .val i1, .val i2, .val k1, .val k2, .val (.ref b63), .val (.ref b69), .unset] [(.int (if c49 = c50 then (1 : Int32) else 0))]))
                              by_cases c81 : (if c49 = c50 then (1 : Int32) else 0) = 0
                              · skip
                                refine go (fun _ => XS.ifYes X80.here hx rfl (pc0 := 372) (pc' := 399) rfl (hb hby at_372) rfl ((if0 _ _).trans (teq c81).1) (by decide) (by decide)) ?_
                                show Run p e below _ (T80.setTop (mkF m 399 #[.val (.int p0), .val (.int p1), .val (.int p2), .val (.int p3), .val (.int (p0 &&& (65535 : Int32))), .val (.int vs), .val (.ref b46), .val (.ref b47), .val (.int (p1 &&& (65535 : Int32))), .val (.int vi), .val (.ref b49), .val (.ref b50), .val (.int f12), .val (.int f13), .val (.int (p2 &&& (65535 : Int32))), .val (.int vk), .val (.ref b54), .val (.ref b55), .val (.int f18), .val (.int f19), .val i1, .val i2, .val k1, .val k2, .val (.ref b63), .val (.ref b69), .unset] []))
                                refine go (fun _ => XS.iconst X80.here hx rfl (hb hby at_399)) ?_
                                show Run p e below _ (T80.setTop (mkF m 400 #[.val (.int p0), .val (.int p1), .val (.int p2), .val (.int p3), .val (.int (p0 &&& (65535 : Int32))), .val (.int vs), .val (.ref b46), .val (.ref b47), .val (.int (p1 &&& (65535 : Int32))), .val (.int vi), .val (.ref b49), .val (.ref b50), .val (.int f12), .val (.int f13), .val (.int (p2 &&& (65535 : Int32))), .val (.int vk), .val (.ref b54), .val (.ref b55), .val (.int f18), .val (.int f19), .val i1, .val i2, .val k1, .val k2, .val (.ref b63), .val (.ref b69), .unset] [(.int (0 : Int32))]))
                                exact J400 _ _ X80 e80 N80 (0 : Int32)  (by unfold agV; by_cases q1 : c46 = c47 <;> by_cases q2 : c49 = c50 <;> by_cases q3 : c54 = c55 <;> simp_all [uoe])
                              · skip
                                refine go (fun _ => XS.ifNo X80.here hx rfl (hb hby at_372) rfl ((if0 _ _).trans (feq c81).1)) ?_
                                show Run p e below _ (T80.setTop (mkF m 375 #[.val (.int p0), .val (.int p1), .val (.int p2), .val (.int p3), .val (.int (p0 &&& (65535 : Int32))), .val (.int vs), .val (.ref b46), .val (.ref b47), .val (.int (p1 &&& (65535 : Int32))), .val (.int vi), .val (.ref b49), .val (.ref b50), .val (.int f12), .val (.int f13), .val (.int (p2 &&& (65535 : Int32))), .val (.int vk), .val (.ref b54), .val (.ref b55), .val (.int f18), .val (.int f19), .val i1, .val i2, .val k1, .val k2, .val (.ref b63), .val (.ref b69), .unset] []))
                                refine go (fun _ => XS.iload X80.here hx rfl (hb hby at_375) rfl) ?_
                                show Run p e below _ (T80.setTop (mkF m 377 #[.val (.int p0), .val (.int p1), .val (.int p2), .val (.int p3), .val (.int (p0 &&& (65535 : Int32))), .val (.int vs), .val (.ref b46), .val (.ref b47), .val (.int (p1 &&& (65535 : Int32))), .val (.int vi), .val (.ref b49), .val (.ref b50), .val (.int f12), .val (.int f13), .val (.int (p2 &&& (65535 : Int32))), .val (.int vk), .val (.ref b54), .val (.ref b55), .val (.int f18), .val (.int f19), .val i1, .val i2, .val k1, .val k2, .val (.ref b63), .val (.ref b69), .unset] [(.int f18)]))
                                by_cases c82 : f18 = 0
                                · skip
                                  refine go (fun _ => XS.ifNo X80.here hx rfl (hb hby at_377) rfl ((if0 _ _).trans (teq c82).2)) ?_
                                  show Run p e below _ (T80.setTop (mkF m 380 #[.val (.int p0), .val (.int p1), .val (.int p2), .val (.int p3), .val (.int (p0 &&& (65535 : Int32))), .val (.int vs), .val (.ref b46), .val (.ref b47), .val (.int (p1 &&& (65535 : Int32))), .val (.int vi), .val (.ref b49), .val (.ref b50), .val (.int f12), .val (.int f13), .val (.int (p2 &&& (65535 : Int32))), .val (.int vk), .val (.ref b54), .val (.ref b55), .val (.int f18), .val (.int f19), .val i1, .val i2, .val k1, .val k2, .val (.ref b63), .val (.ref b69), .unset] []))
                                  refine go (fun _ => XS.iload X80.here hx rfl (hb hby at_380) rfl) ?_
                                  show Run p e below _ (T80.setTop (mkF m 382 #[.val (.int p0), .val (.int p1), .val (.int p2), .val (.int p3), .val (.int (p0 &&& (65535 : Int32))), .val (.int vs), .val (.ref b46), .val (.ref b47), .val (.int (p1 &&& (65535 : Int32))), .val (.int vi), .val (.ref b49), .val (.ref b50), .val (.int f12), .val (.int f13), .val (.int (p2 &&& (65535 : Int32))), .val (.int vk), .val (.ref b54), .val (.ref b55), .val (.int f18), .val (.int f19), .val i1, .val i2, .val k1, .val k2, .val (.ref b63), .val (.ref b69), .unset] [(.int f19)]))
                                  by_cases c83 : f19 = 0
                                  · skip
                                    refine go (fun _ => XS.ifNo X80.here hx rfl (hb hby at_382) rfl ((if0 _ _).trans (teq c83).2)) ?_
                                    show Run p e below _ (T80.setTop (mkF m 385 #[.val (.int p0), .val (.int p1), .val (.int p2), .val (.int p3), .val (.int (p0 &&& (65535 : Int32))), .val (.int vs), .val (.ref b46), .val (.ref b47), .val (.int (p1 &&& (65535 : Int32))), .val (.int vi), .val (.ref b49), .val (.ref b50), .val (.int f12), .val (.int f13), .val (.int (p2 &&& (65535 : Int32))), .val (.int vk), .val (.ref b54), .val (.ref b55), .val (.int f18), .val (.int f19), .val i1, .val i2, .val k1, .val k2, .val (.ref b63), .val (.ref b69), .unset] []))
                                    refine go (fun _ => XS.aload X80.here hx rfl (hb hby at_385) rfl rfl) ?_
                                    show Run p e below _ (T80.setTop (mkF m 387 #[.val (.int p0), .val (.int p1), .val (.int p2), .val (.int p3), .val (.int (p0 &&& (65535 : Int32))), .val (.int vs), .val (.ref b46), .val (.ref b47), .val (.int (p1 &&& (65535 : Int32))), .val (.int vi), .val (.ref b49), .val (.ref b50), .val (.int f12), .val (.int f13), .val (.int (p2 &&& (65535 : Int32))), .val (.int vk), .val (.ref b54), .val (.ref b55), .val (.int f18), .val (.int f19), .val i1, .val i2, .val k1, .val k2, .val (.ref b63), .val (.ref b69), .unset] [(.ref b54)]))
                                    refine go (fun _ => XS.aload X80.here hx rfl (hb hby at_387) rfl rfl) ?_
                                    show Run p e below _ (T80.setTop (mkF m 389 #[.val (.int p0), .val (.int p1), .val (.int p2), .val (.int p3), .val (.int (p0 &&& (65535 : Int32))), .val (.int vs), .val (.ref b46), .val (.ref b47), .val (.int (p1 &&& (65535 : Int32))), .val (.int vi), .val (.ref b49), .val (.ref b50), .val (.int f12), .val (.int f13), .val (.int (p2 &&& (65535 : Int32))), .val (.int vk), .val (.ref b54), .val (.ref b55), .val (.int f18), .val (.int f19), .val i1, .val i2, .val k1, .val k2, .val (.ref b63), .val (.ref b69), .unset] [(.ref b55), (.ref b54)]))
                                    refine callSt X80 hx hZ hown (wd hw 53 rfl) (wd hw 54 rfl) (wd hw 3 rfl) (wd hw 55 rfl) (by decide) e80 (argsL := [(.ref b54), (.ref b55)]) (rest := []) (rm_sm l Z a0 hw [] b54 b55 k54 k55 c54 c55 h73 n0 O0 V_b54 V_b55 M54 M55) (W := 0) (by decide) (by decide) (by decide) (by decide) (by rw [hml]; rfl) (lenOf pd_7 rfl) rfl (Nat.le_of_eq rfl) (hb hby at_389) ?_
                                    intro v84 T84 L84 h84 X84 e84 q84
                                    obtain ⟨rv, n84, k84⟩ := q84
                                    replace rv : v84 = some (.int (if c54 = c55 then (1 : Int32) else 0)) := rv
                                    subst rv
                                    have e84 := e84.trans k84
                                    have N84 := Fr.app N80 n84
                                    show Run p e below _ (T84.setTop (mkF m 392 #[.val (.int p0), .val (.int p1), .val (.int p2), .val (.int p3), .val (.int (p0 &&& (65535 : Int32))), .val (.int vs), .val (.ref b46), .val (.ref b47), .val (.int (p1 &&& (65535 : Int32))), .val (.int vi), .val (.ref b49), .val (.ref b50), .val (.int f12), .val (.int f13), .val (.int (p2 &&& (65535 : Int32))), .val (.int vk), .val (.ref b54), .val (.ref b55), .val (.int f18), .val (.int f19), .val i1, .val i2, .val k1, .val k2, .val (.ref b63), .val (.ref b69), .unset] [(.int (if c54 = c55 then (1 : Int32) else 0))]))
                                    by_cases c85 : (if c54 = c55 then (1 : Int32) else 0) = 0
                                    · skip
                                      refine go (fun _ => XS.ifYes X84.here hx rfl (pc0 := 392) (pc' := 399) rfl (hb hby at_392) rfl ((if0 _ _).trans (teq c85).1) (by decide) (by decide)) ?_
                                      show Run p e below _ (T84.setTop (mkF m 399 #[.val (.int p0), .val (.int p1), .val (.int p2), .val (.int p3), .val (.int (p0 &&& (65535 : Int32))), .val (.int vs), .val (.ref b46), .val (.ref b47), .val (.int (p1 &&& (65535 : Int32))), .val (.int vi), .val (.ref b49), .val (.ref b50), .val (.int f12), .val (.int f13), .val (.int (p2 &&& (65535 : Int32))), .val (.int vk), .val (.ref b54), .val (.ref b55), .val (.int f18), .val (.int f19), .val i1, .val i2, .val k1, .val k2, .val (.ref b63), .val (.ref b69), .unset] []))
                                      refine go (fun _ => XS.iconst X84.here hx rfl (hb hby at_399)) ?_
                                      show Run p e below _ (T84.setTop (mkF m 400 #[.val (.int p0), .val (.int p1), .val (.int p2), .val (.int p3), .val (.int (p0 &&& (65535 : Int32))), .val (.int vs), .val (.ref b46), .val (.ref b47), .val (.int (p1 &&& (65535 : Int32))), .val (.int vi), .val (.ref b49), .val (.ref b50), .val (.int f12), .val (.int f13), .val (.int (p2 &&& (65535 : Int32))), .val (.int vk), .val (.ref b54), .val (.ref b55), .val (.int f18), .val (.int f19), .val i1, .val i2, .val k1, .val k2, .val (.ref b63), .val (.ref b69), .unset] [(.int (0 : Int32))]))
                                      exact J400 _ _ X84 e84 N84 (0 : Int32)  (by unfold agV; by_cases q1 : c46 = c47 <;> by_cases q2 : c49 = c50 <;> by_cases q3 : c54 = c55 <;> simp_all [uoe])
                                    · skip
                                      refine go (fun _ => XS.ifNo X84.here hx rfl (hb hby at_392) rfl ((if0 _ _).trans (feq c85).1)) ?_
                                      show Run p e below _ (T84.setTop (mkF m 395 #[.val (.int p0), .val (.int p1), .val (.int p2), .val (.int p3), .val (.int (p0 &&& (65535 : Int32))), .val (.int vs), .val (.ref b46), .val (.ref b47), .val (.int (p1 &&& (65535 : Int32))), .val (.int vi), .val (.ref b49), .val (.ref b50), .val (.int f12), .val (.int f13), .val (.int (p2 &&& (65535 : Int32))), .val (.int vk), .val (.ref b54), .val (.ref b55), .val (.int f18), .val (.int f19), .val i1, .val i2, .val k1, .val k2, .val (.ref b63), .val (.ref b69), .unset] []))
                                      refine go (fun _ => XS.iconst X84.here hx rfl (hb hby at_395)) ?_
                                      show Run p e below _ (T84.setTop (mkF m 396 #[.val (.int p0), .val (.int p1), .val (.int p2), .val (.int p3), .val (.int (p0 &&& (65535 : Int32))), .val (.int vs), .val (.ref b46), .val (.ref b47), .val (.int (p1 &&& (65535 : Int32))), .val (.int vi), .val (.ref b49), .val (.ref b50), .val (.int f12), .val (.int f13), .val (.int (p2 &&& (65535 : Int32))), .val (.int vk), .val (.ref b54), .val (.ref b55), .val (.int f18), .val (.int f19), .val i1, .val i2, .val k1, .val k2, .val (.ref b63), .val (.ref b69), .unset] [(.int (1 : Int32))]))
                                      refine go (fun _ => XS.goto X84.here hx rfl (pc0 := 396) (pc' := 400) rfl (hb hby at_396) (by decide) (by decide)) ?_
                                      show Run p e below _ (T84.setTop (mkF m 400 #[.val (.int p0), .val (.int p1), .val (.int p2), .val (.int p3), .val (.int (p0 &&& (65535 : Int32))), .val (.int vs), .val (.ref b46), .val (.ref b47), .val (.int (p1 &&& (65535 : Int32))), .val (.int vi), .val (.ref b49), .val (.ref b50), .val (.int f12), .val (.int f13), .val (.int (p2 &&& (65535 : Int32))), .val (.int vk), .val (.ref b54), .val (.ref b55), .val (.int f18), .val (.int f19), .val i1, .val i2, .val k1, .val k2, .val (.ref b63), .val (.ref b69), .unset] [(.int (1 : Int32))]))
                                      exact J400 _ _ X84 e84 N84 (1 : Int32)  (by unfold agV; by_cases q1 : c46 = c47 <;> by_cases q2 : c49 = c50 <;> by_cases q3 : c54 = c55 <;> simp_all [uoe])
                                  · skip
                                    refine go (fun _ => XS.ifYes X80.here hx rfl (pc0 := 382) (pc' := 395) rfl (hb hby at_382) rfl ((if0 _ _).trans (feq c83).2) (by decide) (by decide)) ?_
                                    show Run p e below _ (T80.setTop (mkF m 395 #[.val (.int p0), .val (.int p1), .val (.int p2), .val (.int p3), .val (.int (p0 &&& (65535 : Int32))), .val (.int vs), .val (.ref b46), .val (.ref b47), .val (.int (p1 &&& (65535 : Int32))), .val (.int vi), .val (.ref b49), .val (.ref b50), .val (.int f12), .val (.int f13), .val (.int (p2 &&& (65535 : Int32))), .val (.int vk), .val (.ref b54), .val (.ref b55), .val (.int f18), .val (.int f19), .val i1, .val i2, .val k1, .val k2, .val (.ref b63), .val (.ref b69), .unset] []))
                                    refine go (fun _ => XS.iconst X80.here hx rfl (hb hby at_395)) ?_
                                    show Run p e below _ (T80.setTop (mkF m 396 #[.val (.int p0), .val (.int p1), .val (.int p2), .val (.int p3), .val (.int (p0 &&& (65535 : Int32))), .val (.int vs), .val (.ref b46), .val (.ref b47), .val (.int (p1 &&& (65535 : Int32))), .val (.int vi), .val (.ref b49), .val (.ref b50), .val (.int f12), .val (.int f13), .val (.int (p2 &&& (65535 : Int32))), .val (.int vk), .val (.ref b54), .val (.ref b55), .val (.int f18), .val (.int f19), .val i1, .val i2, .val k1, .val k2, .val (.ref b63), .val (.ref b69), .unset] [(.int (1 : Int32))]))
                                    refine go (fun _ => XS.goto X80.here hx rfl (pc0 := 396) (pc' := 400) rfl (hb hby at_396) (by decide) (by decide)) ?_
                                    show Run p e below _ (T80.setTop (mkF m 400 #[.val (.int p0), .val (.int p1), .val (.int p2), .val (.int p3), .val (.int (p0 &&& (65535 : Int32))), .val (.int vs), .val (.ref b46), .val (.ref b47), .val (.int (p1 &&& (65535 : Int32))), .val (.int vi), .val (.ref b49), .val (.ref b50), .val (.int f12), .val (.int f13), .val (.int (p2 &&& (65535 : Int32))), .val (.int vk), .val (.ref b54), .val (.ref b55), .val (.int f18), .val (.int f19), .val i1, .val i2, .val k1, .val k2, .val (.ref b63), .val (.ref b69), .unset] [(.int (1 : Int32))]))
                                    exact J400 _ _ X80 e80 N80 (1 : Int32)  (by unfold agV; by_cases q1 : c46 = c47 <;> by_cases q2 : c49 = c50 <;> by_cases q3 : c54 = c55 <;> simp_all [uoe])
                                · skip
                                  refine go (fun _ => XS.ifYes X80.here hx rfl (pc0 := 377) (pc' := 395) rfl (hb hby at_377) rfl ((if0 _ _).trans (feq c82).2) (by decide) (by decide)) ?_
                                  show Run p e below _ (T80.setTop (mkF m 395 #[.val (.int p0), .val (.int p1), .val (.int p2), .val (.int p3), .val (.int (p0 &&& (65535 : Int32))), .val (.int vs), .val (.ref b46), .val (.ref b47), .val (.int (p1 &&& (65535 : Int32))), .val (.int vi), .val (.ref b49), .val (.ref b50), .val (.int f12), .val (.int f13), .val (.int (p2 &&& (65535 : Int32))), .val (.int vk), .val (.ref b54), .val (.ref b55), .val (.int f18), .val (.int f19), .val i1, .val i2, .val k1, .val k2, .val (.ref b63), .val (.ref b69), .unset] []))
                                  refine go (fun _ => XS.iconst X80.here hx rfl (hb hby at_395)) ?_
                                  show Run p e below _ (T80.setTop (mkF m 396 #[.val (.int p0), .val (.int p1), .val (.int p2), .val (.int p3), .val (.int (p0 &&& (65535 : Int32))), .val (.int vs), .val (.ref b46), .val (.ref b47), .val (.int (p1 &&& (65535 : Int32))), .val (.int vi), .val (.ref b49), .val (.ref b50), .val (.int f12), .val (.int f13), .val (.int (p2 &&& (65535 : Int32))), .val (.int vk), .val (.ref b54), .val (.ref b55), .val (.int f18), .val (.int f19), .val i1, .val i2, .val k1, .val k2, .val (.ref b63), .val (.ref b69), .unset] [(.int (1 : Int32))]))
                                  refine go (fun _ => XS.goto X80.here hx rfl (pc0 := 396) (pc' := 400) rfl (hb hby at_396) (by decide) (by decide)) ?_
                                  show Run p e below _ (T80.setTop (mkF m 400 #[.val (.int p0), .val (.int p1), .val (.int p2), .val (.int p3), .val (.int (p0 &&& (65535 : Int32))), .val (.int vs), .val (.ref b46), .val (.ref b47), .val (.int (p1 &&& (65535 : Int32))), .val (.int vi), .val (.ref b49), .val (.ref b50), .val (.int f12), .val (.int f13), .val (.int (p2 &&& (65535 : Int32))), .val (.int vk), .val (.ref b54), .val (.ref b55), .val (.int f18), .val (.int f19), .val i1, .val i2, .val k1, .val k2, .val (.ref b63), .val (.ref b69), .unset] [(.int (1 : Int32))]))
                                  exact J400 _ _ X80 e80 N80 (1 : Int32)  (by unfold agV; by_cases q1 : c46 = c47 <;> by_cases q2 : c49 = c50 <;> by_cases q3 : c54 = c55 <;> simp_all [uoe])
                            · skip
                              refine go (fun _ => XS.ifYes X76.here hx rfl (pc0 := 362) (pc' := 375) rfl (hb hby at_362) rfl ((if0 _ _).trans (feq c79).2) (by decide) (by decide)) ?_
                              show Run p e below _ (T76.setTop (mkF m 375 #[.val (.int p0), .val (.int p1), .val (.int p2), .val (.int p3), .val (.int (p0 &&& (65535 : Int32))), .val (.int vs), .val (.ref b46), .val (.ref b47), .val (.int (p1 &&& (65535 : Int32))), .val (.int vi), .val (.ref b49), .val (.ref b50), .val (.int f12), .val (.int f13), .val (.int (p2 &&& (65535 : Int32))), .val (.int vk), .val (.ref b54), .val (.ref b55), .val (.int f18), .val (.int f19), .val i1, .val i2, .val k1, .val k2, .val (.ref b63), .val (.ref b69), .unset] []))
                              refine go (fun _ => XS.iload X76.here hx rfl (hb hby at_375) rfl) ?_
                              show Run p e below _ (T76.setTop (mkF m 377 #[.val (.int p0), .val (.int p1), .val (.int p2), .val (.int p3), .val (.int (p0 &&& (65535 : Int32))), .val (.int vs), .val (.ref b46), .val (.ref b47), .val (.int (p1 &&& (65535 : Int32))), .val (.int vi), .val (.ref b49), .val (.ref b50), .val (.int f12), .val (.int f13), .val (.int (p2 &&& (65535 : Int32))), .val (.int vk), .val (.ref b54), .val (.ref b55), .val (.int f18), .val (.int f19), .val i1, .val i2, .val k1, .val k2, .val (.ref b63), .val (.ref b69), .unset] [(.int f18)]))
                              by_cases c86 : f18 = 0
                              · skip
                                refine go (fun _ => XS.ifNo X76.here hx rfl (hb hby at_377) rfl ((if0 _ _).trans (teq c86).2)) ?_
                                show Run p e below _ (T76.setTop (mkF m 380 #[.val (.int p0), .val (.int p1), .val (.int p2), .val (.int p3), .val (.int (p0 &&& (65535 : Int32))), .val (.int vs), .val (.ref b46), .val (.ref b47), .val (.int (p1 &&& (65535 : Int32))), .val (.int vi), .val (.ref b49), .val (.ref b50), .val (.int f12), .val (.int f13), .val (.int (p2 &&& (65535 : Int32))), .val (.int vk), .val (.ref b54), .val (.ref b55), .val (.int f18), .val (.int f19), .val i1, .val i2, .val k1, .val k2, .val (.ref b63), .val (.ref b69), .unset] []))
                                refine go (fun _ => XS.iload X76.here hx rfl (hb hby at_380) rfl) ?_
                                show Run p e below _ (T76.setTop (mkF m 382 #[.val (.int p0), .val (.int p1), .val (.int p2), .val (.int p3), .val (.int (p0 &&& (65535 : Int32))), .val (.int vs), .val (.ref b46), .val (.ref b47), .val (.int (p1 &&& (65535 : Int32))), .val (.int vi), .val (.ref b49), .val (.ref b50), .val (.int f12), .val (.int f13), .val (.int (p2 &&& (65535 : Int32))), .val (.int vk), .val (.ref b54), .val (.ref b55), .val (.int f18), .val (.int f19), .val i1, .val i2, .val k1, .val k2, .val (.ref b63), .val (.ref b69), .unset] [(.int f19)]))
                                by_cases c87 : f19 = 0
                                · skip
                                  refine go (fun _ => XS.ifNo X76.here hx rfl (hb hby at_382) rfl ((if0 _ _).trans (teq c87).2)) ?_
                                  show Run p e below _ (T76.setTop (mkF m 385 #[.val (.int p0), .val (.int p1), .val (.int p2), .val (.int p3), .val (.int (p0 &&& (65535 : Int32))), .val (.int vs), .val (.ref b46), .val (.ref b47), .val (.int (p1 &&& (65535 : Int32))), .val (.int vi), .val (.ref b49), .val (.ref b50), .val (.int f12), .val (.int f13), .val (.int (p2 &&& (65535 : Int32))), .val (.int vk), .val (.ref b54), .val (.ref b55), .val (.int f18), .val (.int f19), .val i1, .val i2, .val k1, .val k2, .val (.ref b63), .val (.ref b69), .unset] []))
                                  refine go (fun _ => XS.aload X76.here hx rfl (hb hby at_385) rfl rfl) ?_
                                  show Run p e below _ (T76.setTop (mkF m 387 #[.val (.int p0), .val (.int p1), .val (.int p2), .val (.int p3), .val (.int (p0 &&& (65535 : Int32))), .val (.int vs), .val (.ref b46), .val (.ref b47), .val (.int (p1 &&& (65535 : Int32))), .val (.int vi), .val (.ref b49), .val (.ref b50), .val (.int f12), .val (.int f13), .val (.int (p2 &&& (65535 : Int32))), .val (.int vk), .val (.ref b54), .val (.ref b55), .val (.int f18), .val (.int f19), .val i1, .val i2, .val k1, .val k2, .val (.ref b63), .val (.ref b69), .unset] [(.ref b54)]))
                                  refine go (fun _ => XS.aload X76.here hx rfl (hb hby at_387) rfl rfl) ?_
                                  show Run p e below _ (T76.setTop (mkF m 389 #[.val (.int p0), .val (.int p1), .val (.int p2), .val (.int p3), .val (.int (p0 &&& (65535 : Int32))), .val (.int vs), .val (.ref b46), .val (.ref b47), .val (.int (p1 &&& (65535 : Int32))), .val (.int vi), .val (.ref b49), .val (.ref b50), .val (.int f12), .val (.int f13), .val (.int (p2 &&& (65535 : Int32))), .val (.int vk), .val (.ref b54), .val (.ref b55), .val (.int f18), .val (.int f19), .val i1, .val i2, .val k1, .val k2, .val (.ref b63), .val (.ref b69), .unset] [(.ref b55), (.ref b54)]))
                                  refine callSt X76 hx hZ hown (wd hw 53 rfl) (wd hw 54 rfl) (wd hw 3 rfl) (wd hw 55 rfl) (by decide) e76 (argsL := [(.ref b54), (.ref b55)]) (rest := []) (rm_sm l Z a0 hw [] b54 b55 k54 k55 c54 c55 h73 n0 O0 V_b54 V_b55 M54 M55) (W := 0) (by decide) (by decide) (by decide) (by decide) (by rw [hml]; rfl) (lenOf pd_7 rfl) rfl (Nat.le_of_eq rfl) (hb hby at_389) ?_
                                  intro v88 T88 L88 h88 X88 e88 q88
                                  obtain ⟨rv, n88, k88⟩ := q88
                                  replace rv : v88 = some (.int (if c54 = c55 then (1 : Int32) else 0)) := rv
                                  subst rv
                                  have e88 := e88.trans k88
                                  have N88 := Fr.app N76 n88
                                  show Run p e below _ (T88.setTop (mkF m 392 #[.val (.int p0), .val (.int p1), .val (.int p2), .val (.int p3), .val (.int (p0 &&& (65535 : Int32))), .val (.int vs), .val (.ref b46), .val (.ref b47), .val (.int (p1 &&& (65535 : Int32))), .val (.int vi), .val (.ref b49), .val (.ref b50), .val (.int f12), .val (.int f13), .val (.int (p2 &&& (65535 : Int32))), .val (.int vk), .val (.ref b54), .val (.ref b55), .val (.int f18), .val (.int f19), .val i1, .val i2, .val k1, .val k2, .val (.ref b63), .val (.ref b69), .unset] [(.int (if c54 = c55 then (1 : Int32) else 0))]))
                                  by_cases c89 : (if c54 = c55 then (1 : Int32) else 0) = 0
                                  · skip
                                    refine go (fun _ => XS.ifYes X88.here hx rfl (pc0 := 392) (pc' := 399) rfl (hb hby at_392) rfl ((if0 _ _).trans (teq c89).1) (by decide) (by decide)) ?_
                                    show Run p e below _ (T88.setTop (mkF m 399 #[.val (.int p0), .val (.int p1), .val (.int p2), .val (.int p3), .val (.int (p0 &&& (65535 : Int32))), .val (.int vs), .val (.ref b46), .val (.ref b47), .val (.int (p1 &&& (65535 : Int32))), .val (.int vi), .val (.ref b49), .val (.ref b50), .val (.int f12), .val (.int f13), .val (.int (p2 &&& (65535 : Int32))), .val (.int vk), .val (.ref b54), .val (.ref b55), .val (.int f18), .val (.int f19), .val i1, .val i2, .val k1, .val k2, .val (.ref b63), .val (.ref b69), .unset] []))
                                    refine go (fun _ => XS.iconst X88.here hx rfl (hb hby at_399)) ?_
                                    show Run p e below _ (T88.setTop (mkF m 400 #[.val (.int p0), .val (.int p1), .val (.int p2), .val (.int p3), .val (.int (p0 &&& (65535 : Int32))), .val (.int vs), .val (.ref b46), .val (.ref b47), .val (.int (p1 &&& (65535 : Int32))), .val (.int vi), .val (.ref b49), .val (.ref b50), .val (.int f12), .val (.int f13), .val (.int (p2 &&& (65535 : Int32))), .val (.int vk), .val (.ref b54), .val (.ref b55), .val (.int f18), .val (.int f19), .val i1, .val i2, .val k1, .val k2, .val (.ref b63), .val (.ref b69), .unset] [(.int (0 : Int32))]))
                                    exact J400 _ _ X88 e88 N88 (0 : Int32)  (by unfold agV; by_cases q1 : c46 = c47 <;> by_cases q2 : c49 = c50 <;> by_cases q3 : c54 = c55 <;> simp_all [uoe])
                                  · skip
                                    refine go (fun _ => XS.ifNo X88.here hx rfl (hb hby at_392) rfl ((if0 _ _).trans (feq c89).1)) ?_
                                    show Run p e below _ (T88.setTop (mkF m 395 #[.val (.int p0), .val (.int p1), .val (.int p2), .val (.int p3), .val (.int (p0 &&& (65535 : Int32))), .val (.int vs), .val (.ref b46), .val (.ref b47), .val (.int (p1 &&& (65535 : Int32))), .val (.int vi), .val (.ref b49), .val (.ref b50), .val (.int f12), .val (.int f13), .val (.int (p2 &&& (65535 : Int32))), .val (.int vk), .val (.ref b54), .val (.ref b55), .val (.int f18), .val (.int f19), .val i1, .val i2, .val k1, .val k2, .val (.ref b63), .val (.ref b69), .unset] []))
                                    refine go (fun _ => XS.iconst X88.here hx rfl (hb hby at_395)) ?_
                                    show Run p e below _ (T88.setTop (mkF m 396 #[.val (.int p0), .val (.int p1), .val (.int p2), .val (.int p3), .val (.int (p0 &&& (65535 : Int32))), .val (.int vs), .val (.ref b46), .val (.ref b47), .val (.int (p1 &&& (65535 : Int32))), .val (.int vi), .val (.ref b49), .val (.ref b50), .val (.int f12), .val (.int f13), .val (.int (p2 &&& (65535 : Int32))), .val (.int vk), .val (.ref b54), .val (.ref b55), .val (.int f18), .val (.int f19), .val i1, .val i2, .val k1, .val k2, .val (.ref b63), .val (.ref b69), .unset] [(.int (1 : Int32))]))
                                    refine go (fun _ => XS.goto X88.here hx rfl (pc0 := 396) (pc' := 400) rfl (hb hby at_396) (by decide) (by decide)) ?_
                                    show Run p e below _ (T88.setTop (mkF m 400 #[.val (.int p0), .val (.int p1), .val (.int p2), .val (.int p3), .val (.int (p0 &&& (65535 : Int32))), .val (.int vs), .val (.ref b46), .val (.ref b47), .val (.int (p1 &&& (65535 : Int32))), .val (.int vi), .val (.ref b49), .val (.ref b50), .val (.int f12), .val (.int f13), .val (.int (p2 &&& (65535 : Int32))), .val (.int vk), .val (.ref b54), .val (.ref b55), .val (.int f18), .val (.int f19), .val i1, .val i2, .val k1, .val k2, .val (.ref b63), .val (.ref b69), .unset] [(.int (1 : Int32))]))
                                    exact J400 _ _ X88 e88 N88 (1 : Int32)  (by unfold agV; by_cases q1 : c46 = c47 <;> by_cases q2 : c49 = c50 <;> by_cases q3 : c54 = c55 <;> simp_all [uoe])
                                · skip
                                  refine go (fun _ => XS.ifYes X76.here hx rfl (pc0 := 382) (pc' := 395) rfl (hb hby at_382) rfl ((if0 _ _).trans (feq c87).2) (by decide) (by decide)) ?_
                                  show Run p e below _ (T76.setTop (mkF m 395 #[.val (.int p0), .val (.int p1), .val (.int p2), .val (.int p3), .val (.int (p0 &&& (65535 : Int32))), .val (.int vs), .val (.ref b46), .val (.ref b47), .val (.int (p1 &&& (65535 : Int32))), .val (.int vi), .val (.ref b49), .val (.ref b50), .val (.int f12), .val (.int f13), .val (.int (p2 &&& (65535 : Int32))), .val (.int vk), .val (.ref b54), .val (.ref b55), .val (.int f18), .val (.int f19), .val i1, .val i2, .val k1, .val k2, .val (.ref b63), .val (.ref b69), .unset] []))
                                  refine go (fun _ => XS.iconst X76.here hx rfl (hb hby at_395)) ?_
                                  show Run p e below _ (T76.setTop (mkF m 396 #[.val (.int p0), .val (.int p1), .val (.int p2), .val (.int p3), .val (.int (p0 &&& (65535 : Int32))), .val (.int vs), .val (.ref b46), .val (.ref b47), .val (.int (p1 &&& (65535 : Int32))), .val (.int vi), .val (.ref b49), .val (.ref b50), .val (.int f12), .val (.int f13), .val (.int (p2 &&& (65535 : Int32))), .val (.int vk), .val (.ref b54), .val (.ref b55), .val (.int f18), .val (.int f19), .val i1, .val i2, .val k1, .val k2, .val (.ref b63), .val (.ref b69), .unset] [(.int (1 : Int32))]))
                                  refine go (fun _ => XS.goto X76.here hx rfl (pc0 := 396) (pc' := 400) rfl (hb hby at_396) (by decide) (by decide)) ?_
                                  show Run p e below _ (T76.setTop (mkF m 400 #[.val (.int p0), .val (.int p1), .val (.int p2), .val (.int p3), .val (.int (p0 &&& (65535 : Int32))), .val (.int vs), .val (.ref b46), .val (.ref b47), .val (.int (p1 &&& (65535 : Int32))), .val (.int vi), .val (.ref b49), .val (.ref b50), .val (.int f12), .val (.int f13), .val (.int (p2 &&& (65535 : Int32))), .val (.int vk), .val (.ref b54), .val (.ref b55), .val (.int f18), .val (.int f19), .val i1, .val i2, .val k1, .val k2, .val (.ref b63), .val (.ref b69), .unset] [(.int (1 : Int32))]))
                                  exact J400 _ _ X76 e76 N76 (1 : Int32)  (by unfold agV; by_cases q1 : c46 = c47 <;> by_cases q2 : c49 = c50 <;> by_cases q3 : c54 = c55 <;> simp_all [uoe])
                              · skip
                                refine go (fun _ => XS.ifYes X76.here hx rfl (pc0 := 377) (pc' := 395) rfl (hb hby at_377) rfl ((if0 _ _).trans (feq c86).2) (by decide) (by decide)) ?_
                                show Run p e below _ (T76.setTop (mkF m 395 #[.val (.int p0), .val (.int p1), .val (.int p2), .val (.int p3), .val (.int (p0 &&& (65535 : Int32))), .val (.int vs), .val (.ref b46), .val (.ref b47), .val (.int (p1 &&& (65535 : Int32))), .val (.int vi), .val (.ref b49), .val (.ref b50), .val (.int f12), .val (.int f13), .val (.int (p2 &&& (65535 : Int32))), .val (.int vk), .val (.ref b54), .val (.ref b55), .val (.int f18), .val (.int f19), .val i1, .val i2, .val k1, .val k2, .val (.ref b63), .val (.ref b69), .unset] []))
                                refine go (fun _ => XS.iconst X76.here hx rfl (hb hby at_395)) ?_
                                show Run p e below _ (T76.setTop (mkF m 396 #[.val (.int p0), .val (.int p1), .val (.int p2), .val (.int p3), .val (.int (p0 &&& (65535 : Int32))), .val (.int vs), .val (.ref b46), .val (.ref b47), .val (.int (p1 &&& (65535 : Int32))), .val (.int vi), .val (.ref b49), .val (.ref b50), .val (.int f12), .val (.int f13), .val (.int (p2 &&& (65535 : Int32))), .val (.int vk), .val (.ref b54), .val (.ref b55), .val (.int f18), .val (.int f19), .val i1, .val i2, .val k1, .val k2, .val (.ref b63), .val (.ref b69), .unset] [(.int (1 : Int32))]))
                                refine go (fun _ => XS.goto X76.here hx rfl (pc0 := 396) (pc' := 400) rfl (hb hby at_396) (by decide) (by decide)) ?_
                                show Run p e below _ (T76.setTop (mkF m 400 #[.val (.int p0), .val (.int p1), .val (.int p2), .val (.int p3), .val (.int (p0 &&& (65535 : Int32))), .val (.int vs), .val (.ref b46), .val (.ref b47), .val (.int (p1 &&& (65535 : Int32))), .val (.int vi), .val (.ref b49), .val (.ref b50), .val (.int f12), .val (.int f13), .val (.int (p2 &&& (65535 : Int32))), .val (.int vk), .val (.ref b54), .val (.ref b55), .val (.int f18), .val (.int f19), .val i1, .val i2, .val k1, .val k2, .val (.ref b63), .val (.ref b69), .unset] [(.int (1 : Int32))]))
                                exact J400 _ _ X76 e76 N76 (1 : Int32)  (by unfold agV; by_cases q1 : c46 = c47 <;> by_cases q2 : c49 = c50 <;> by_cases q3 : c54 = c55 <;> simp_all [uoe])
                          · skip
                            refine go (fun _ => XS.ifYes X76.here hx rfl (pc0 := 357) (pc' := 375) rfl (hb hby at_357) rfl ((if0 _ _).trans (feq c78).2) (by decide) (by decide)) ?_
                            show Run p e below _ (T76.setTop (mkF m 375 #[.val (.int p0), .val (.int p1), .val (.int p2), .val (.int p3), .val (.int (p0 &&& (65535 : Int32))), .val (.int vs), .val (.ref b46), .val (.ref b47), .val (.int (p1 &&& (65535 : Int32))), .val (.int vi), .val (.ref b49), .val (.ref b50), .val (.int f12), .val (.int f13), .val (.int (p2 &&& (65535 : Int32))), .val (.int vk), .val (.ref b54), .val (.ref b55), .val (.int f18), .val (.int f19), .val i1, .val i2, .val k1, .val k2, .val (.ref b63), .val (.ref b69), .unset] []))
                            refine go (fun _ => XS.iload X76.here hx rfl (hb hby at_375) rfl) ?_
                            show Run p e below _ (T76.setTop (mkF m 377 #[.val (.int p0), .val (.int p1), .val (.int p2), .val (.int p3), .val (.int (p0 &&& (65535 : Int32))), .val (.int vs), .val (.ref b46), .val (.ref b47), .val (.int (p1 &&& (65535 : Int32))), .val (.int vi), .val (.ref b49), .val (.ref b50), .val (.int f12), .val (.int f13), .val (.int (p2 &&& (65535 : Int32))), .val (.int vk), .val (.ref b54), .val (.ref b55), .val (.int f18), .val (.int f19), .val i1, .val i2, .val k1, .val k2, .val (.ref b63), .val (.ref b69), .unset] [(.int f18)]))
                            by_cases c90 : f18 = 0
                            · skip
                              refine go (fun _ => XS.ifNo X76.here hx rfl (hb hby at_377) rfl ((if0 _ _).trans (teq c90).2)) ?_
                              show Run p e below _ (T76.setTop (mkF m 380 #[.val (.int p0), .val (.int p1), .val (.int p2), .val (.int p3), .val (.int (p0 &&& (65535 : Int32))), .val (.int vs), .val (.ref b46), .val (.ref b47), .val (.int (p1 &&& (65535 : Int32))), .val (.int vi), .val (.ref b49), .val (.ref b50), .val (.int f12), .val (.int f13), .val (.int (p2 &&& (65535 : Int32))), .val (.int vk), .val (.ref b54), .val (.ref b55), .val (.int f18), .val (.int f19), .val i1, .val i2, .val k1, .val k2, .val (.ref b63), .val (.ref b69), .unset] []))
                              refine go (fun _ => XS.iload X76.here hx rfl (hb hby at_380) rfl) ?_
                              show Run p e below _ (T76.setTop (mkF m 382 #[.val (.int p0), .val (.int p1), .val (.int p2), .val (.int p3), .val (.int (p0 &&& (65535 : Int32))), .val (.int vs), .val (.ref b46), .val (.ref b47), .val (.int (p1 &&& (65535 : Int32))), .val (.int vi), .val (.ref b49), .val (.ref b50), .val (.int f12), .val (.int f13), .val (.int (p2 &&& (65535 : Int32))), .val (.int vk), .val (.ref b54), .val (.ref b55), .val (.int f18), .val (.int f19), .val i1, .val i2, .val k1, .val k2, .val (.ref b63), .val (.ref b69), .unset] [(.int f19)]))
                              by_cases c91 : f19 = 0
                              · skip
                                refine go (fun _ => XS.ifNo X76.here hx rfl (hb hby at_382) rfl ((if0 _ _).trans (teq c91).2)) ?_
                                show Run p e below _ (T76.setTop (mkF m 385 #[.val (.int p0), .val (.int p1), .val (.int p2), .val (.int p3), .val (.int (p0 &&& (65535 : Int32))), .val (.int vs), .val (.ref b46), .val (.ref b47), .val (.int (p1 &&& (65535 : Int32))), .val (.int vi), .val (.ref b49), .val (.ref b50), .val (.int f12), .val (.int f13), .val (.int (p2 &&& (65535 : Int32))), .val (.int vk), .val (.ref b54), .val (.ref b55), .val (.int f18), .val (.int f19), .val i1, .val i2, .val k1, .val k2, .val (.ref b63), .val (.ref b69), .unset] []))
                                refine go (fun _ => XS.aload X76.here hx rfl (hb hby at_385) rfl rfl) ?_
                                show Run p e below _ (T76.setTop (mkF m 387 #[.val (.int p0), .val (.int p1), .val (.int p2), .val (.int p3), .val (.int (p0 &&& (65535 : Int32))), .val (.int vs), .val (.ref b46), .val (.ref b47), .val (.int (p1 &&& (65535 : Int32))), .val (.int vi), .val (.ref b49), .val (.ref b50), .val (.int f12), .val (.int f13), .val (.int (p2 &&& (65535 : Int32))), .val (.int vk), .val (.ref b54), .val (.ref b55), .val (.int f18), .val (.int f19), .val i1, .val i2, .val k1, .val k2, .val (.ref b63), .val (.ref b69), .unset] [(.ref b54)]))
                                refine go (fun _ => XS.aload X76.here hx rfl (hb hby at_387) rfl rfl) ?_
                                show Run p e below _ (T76.setTop (mkF m 389 #[.val (.int p0), .val (.int p1), .val (.int p2), .val (.int p3), .val (.int (p0 &&& (65535 : Int32))), .val (.int vs), .val (.ref b46), .val (.ref b47), .val (.int (p1 &&& (65535 : Int32))), .val (.int vi), .val (.ref b49), .val (.ref b50), .val (.int f12), .val (.int f13), .val (.int (p2 &&& (65535 : Int32))), .val (.int vk), .val (.ref b54), .val (.ref b55), .val (.int f18), .val (.int f19), .val i1, .val i2, .val k1, .val k2, .val (.ref b63), .val (.ref b69), .unset] [(.ref b55), (.ref b54)]))
                                refine callSt X76 hx hZ hown (wd hw 53 rfl) (wd hw 54 rfl) (wd hw 3 rfl) (wd hw 55 rfl) (by decide) e76 (argsL := [(.ref b54), (.ref b55)]) (rest := []) (rm_sm l Z a0 hw [] b54 b55 k54 k55 c54 c55 h73 n0 O0 V_b54 V_b55 M54 M55) (W := 0) (by decide) (by decide) (by decide) (by decide) (by rw [hml]; rfl) (lenOf pd_7 rfl) rfl (Nat.le_of_eq rfl) (hb hby at_389) ?_
                                intro v92 T92 L92 h92 X92 e92 q92
                                obtain ⟨rv, n92, k92⟩ := q92
                                replace rv : v92 = some (.int (if c54 = c55 then (1 : Int32) else 0)) := rv
                                subst rv
                                have e92 := e92.trans k92
                                have N92 := Fr.app N76 n92
                                show Run p e below _ (T92.setTop (mkF m 392 #[.val (.int p0), .val (.int p1), .val (.int p2), .val (.int p3), .val (.int (p0 &&& (65535 : Int32))), .val (.int vs), .val (.ref b46), .val (.ref b47), .val (.int (p1 &&& (65535 : Int32))), .val (.int vi), .val (.ref b49), .val (.ref b50), .val (.int f12), .val (.int f13), .val (.int (p2 &&& (65535 : Int32))), .val (.int vk), .val (.ref b54), .val (.ref b55), .val (.int f18), .val (.int f19), .val i1, .val i2, .val k1, .val k2, .val (.ref b63), .val (.ref b69), .unset] [(.int (if c54 = c55 then (1 : Int32) else 0))]))
                                by_cases c93 : (if c54 = c55 then (1 : Int32) else 0) = 0
                                · skip
                                  refine go (fun _ => XS.ifYes X92.here hx rfl (pc0 := 392) (pc' := 399) rfl (hb hby at_392) rfl ((if0 _ _).trans (teq c93).1) (by decide) (by decide)) ?_
                                  show Run p e below _ (T92.setTop (mkF m 399 #[.val (.int p0), .val (.int p1), .val (.int p2), .val (.int p3), .val (.int (p0 &&& (65535 : Int32))), .val (.int vs), .val (.ref b46), .val (.ref b47), .val (.int (p1 &&& (65535 : Int32))), .val (.int vi), .val (.ref b49), .val (.ref b50), .val (.int f12), .val (.int f13), .val (.int (p2 &&& (65535 : Int32))), .val (.int vk), .val (.ref b54), .val (.ref b55), .val (.int f18), .val (.int f19), .val i1, .val i2, .val k1, .val k2, .val (.ref b63), .val (.ref b69), .unset] []))
                                  refine go (fun _ => XS.iconst X92.here hx rfl (hb hby at_399)) ?_
                                  show Run p e below _ (T92.setTop (mkF m 400 #[.val (.int p0), .val (.int p1), .val (.int p2), .val (.int p3), .val (.int (p0 &&& (65535 : Int32))), .val (.int vs), .val (.ref b46), .val (.ref b47), .val (.int (p1 &&& (65535 : Int32))), .val (.int vi), .val (.ref b49), .val (.ref b50), .val (.int f12), .val (.int f13), .val (.int (p2 &&& (65535 : Int32))), .val (.int vk), .val (.ref b54), .val (.ref b55), .val (.int f18), .val (.int f19), .val i1, .val i2, .val k1, .val k2, .val (.ref b63), .val (.ref b69), .unset] [(.int (0 : Int32))]))
                                  exact J400 _ _ X92 e92 N92 (0 : Int32)  (by unfold agV; by_cases q1 : c46 = c47 <;> by_cases q2 : c49 = c50 <;> by_cases q3 : c54 = c55 <;> simp_all [uoe])
                                · skip
                                  refine go (fun _ => XS.ifNo X92.here hx rfl (hb hby at_392) rfl ((if0 _ _).trans (feq c93).1)) ?_
                                  show Run p e below _ (T92.setTop (mkF m 395 #[.val (.int p0), .val (.int p1), .val (.int p2), .val (.int p3), .val (.int (p0 &&& (65535 : Int32))), .val (.int vs), .val (.ref b46), .val (.ref b47), .val (.int (p1 &&& (65535 : Int32))), .val (.int vi), .val (.ref b49), .val (.ref b50), .val (.int f12), .val (.int f13), .val (.int (p2 &&& (65535 : Int32))), .val (.int vk), .val (.ref b54), .val (.ref b55), .val (.int f18), .val (.int f19), .val i1, .val i2, .val k1, .val k2, .val (.ref b63), .val (.ref b69), .unset] []))
                                  refine go (fun _ => XS.iconst X92.here hx rfl (hb hby at_395)) ?_
                                  show Run p e below _ (T92.setTop (mkF m 396 #[.val (.int p0), .val (.int p1), .val (.int p2), .val (.int p3), .val (.int (p0 &&& (65535 : Int32))), .val (.int vs), .val (.ref b46), .val (.ref b47), .val (.int (p1 &&& (65535 : Int32))), .val (.int vi), .val (.ref b49), .val (.ref b50), .val (.int f12), .val (.int f13), .val (.int (p2 &&& (65535 : Int32))), .val (.int vk), .val (.ref b54), .val (.ref b55), .val (.int f18), .val (.int f19), .val i1, .val i2, .val k1, .val k2, .val (.ref b63), .val (.ref b69), .unset] [(.int (1 : Int32))]))
                                  refine go (fun _ => XS.goto X92.here hx rfl (pc0 := 396) (pc' := 400) rfl (hb hby at_396) (by decide) (by decide)) ?_
                                  show Run p e below _ (T92.setTop (mkF m 400 #[.val (.int p0), .val (.int p1), .val (.int p2), .val (.int p3), .val (.int (p0 &&& (65535 : Int32))), .val (.int vs), .val (.ref b46), .val (.ref b47), .val (.int (p1 &&& (65535 : Int32))), .val (.int vi), .val (.ref b49), .val (.ref b50), .val (.int f12), .val (.int f13), .val (.int (p2 &&& (65535 : Int32))), .val (.int vk), .val (.ref b54), .val (.ref b55), .val (.int f18), .val (.int f19), .val i1, .val i2, .val k1, .val k2, .val (.ref b63), .val (.ref b69), .unset] [(.int (1 : Int32))]))
                                  exact J400 _ _ X92 e92 N92 (1 : Int32)  (by unfold agV; by_cases q1 : c46 = c47 <;> by_cases q2 : c49 = c50 <;> by_cases q3 : c54 = c55 <;> simp_all [uoe])
                              · skip
                                refine go (fun _ => XS.ifYes X76.here hx rfl (pc0 := 382) (pc' := 395) rfl (hb hby at_382) rfl ((if0 _ _).trans (feq c91).2) (by decide) (by decide)) ?_
                                show Run p e below _ (T76.setTop (mkF m 395 #[.val (.int p0), .val (.int p1), .val (.int p2), .val (.int p3), .val (.int (p0 &&& (65535 : Int32))), .val (.int vs), .val (.ref b46), .val (.ref b47), .val (.int (p1 &&& (65535 : Int32))), .val (.int vi), .val (.ref b49), .val (.ref b50), .val (.int f12), .val (.int f13), .val (.int (p2 &&& (65535 : Int32))), .val (.int vk), .val (.ref b54), .val (.ref b55), .val (.int f18), .val (.int f19), .val i1, .val i2, .val k1, .val k2, .val (.ref b63), .val (.ref b69), .unset] []))
                                refine go (fun _ => XS.iconst X76.here hx rfl (hb hby at_395)) ?_
                                show Run p e below _ (T76.setTop (mkF m 396 #[.val (.int p0), .val (.int p1), .val (.int p2), .val (.int p3), .val (.int (p0 &&& (65535 : Int32))), .val (.int vs), .val (.ref b46), .val (.ref b47), .val (.int (p1 &&& (65535 : Int32))), .val (.int vi), .val (.ref b49), .val (.ref b50), .val (.int f12), .val (.int f13), .val (.int (p2 &&& (65535 : Int32))), .val (.int vk), .val (.ref b54), .val (.ref b55), .val (.int f18), .val (.int f19), .val i1, .val i2, .val k1, .val k2, .val (.ref b63), .val (.ref b69), .unset] [(.int (1 : Int32))]))
                                refine go (fun _ => XS.goto X76.here hx rfl (pc0 := 396) (pc' := 400) rfl (hb hby at_396) (by decide) (by decide)) ?_
                                show Run p e below _ (T76.setTop (mkF m 400 #[.val (.int p0), .val (.int p1), .val (.int p2), .val (.int p3), .val (.int (p0 &&& (65535 : Int32))), .val (.int vs), .val (.ref b46), .val (.ref b47), .val (.int (p1 &&& (65535 : Int32))), .val (.int vi), .val (.ref b49), .val (.ref b50), .val (.int f12), .val (.int f13), .val (.int (p2 &&& (65535 : Int32))), .val (.int vk), .val (.ref b54), .val (.ref b55), .val (.int f18), .val (.int f19), .val i1, .val i2, .val k1, .val k2, .val (.ref b63), .val (.ref b69), .unset] [(.int (1 : Int32))]))
                                exact J400 _ _ X76 e76 N76 (1 : Int32)  (by unfold agV; by_cases q1 : c46 = c47 <;> by_cases q2 : c49 = c50 <;> by_cases q3 : c54 = c55 <;> simp_all [uoe])
                            · skip
                              refine go (fun _ => XS.ifYes X76.here hx rfl (pc0 := 377) (pc' := 395) rfl (hb hby at_377) rfl ((if0 _ _).trans (feq c90).2) (by decide) (by decide)) ?_
                              show Run p e below _ (T76.setTop (mkF m 395 #[.val (.int p0), .val (.int p1), .val (.int p2), .val (.int p3), .val (.int (p0 &&& (65535 : Int32))), .val (.int vs), .val (.ref b46), .val (.ref b47), .val (.int (p1 &&& (65535 : Int32))), .val (.int vi), .val (.ref b49), .val (.ref b50), .val (.int f12), .val (.int f13), .val (.int (p2 &&& (65535 : Int32))), .val (.int vk), .val (.ref b54), .val (.ref b55), .val (.int f18), .val (.int f19), .val i1, .val i2, .val k1, .val k2, .val (.ref b63), .val (.ref b69), .unset] []))
                              refine go (fun _ => XS.iconst X76.here hx rfl (hb hby at_395)) ?_
                              show Run p e below _ (T76.setTop (mkF m 396 #[.val (.int p0), .val (.int p1), .val (.int p2), .val (.int p3), .val (.int (p0 &&& (65535 : Int32))), .val (.int vs), .val (.ref b46), .val (.ref b47), .val (.int (p1 &&& (65535 : Int32))), .val (.int vi), .val (.ref b49), .val (.ref b50), .val (.int f12), .val (.int f13), .val (.int (p2 &&& (65535 : Int32))), .val (.int vk), .val (.ref b54), .val (.ref b55), .val (.int f18), .val (.int f19), .val i1, .val i2, .val k1, .val k2, .val (.ref b63), .val (.ref b69), .unset] [(.int (1 : Int32))]))
                              refine go (fun _ => XS.goto X76.here hx rfl (pc0 := 396) (pc' := 400) rfl (hb hby at_396) (by decide) (by decide)) ?_
                              show Run p e below _ (T76.setTop (mkF m 400 #[.val (.int p0), .val (.int p1), .val (.int p2), .val (.int p3), .val (.int (p0 &&& (65535 : Int32))), .val (.int vs), .val (.ref b46), .val (.ref b47), .val (.int (p1 &&& (65535 : Int32))), .val (.int vi), .val (.ref b49), .val (.ref b50), .val (.int f12), .val (.int f13), .val (.int (p2 &&& (65535 : Int32))), .val (.int vk), .val (.ref b54), .val (.ref b55), .val (.int f18), .val (.int f19), .val i1, .val i2, .val k1, .val k2, .val (.ref b63), .val (.ref b69), .unset] [(.int (1 : Int32))]))
                              exact J400 _ _ X76 e76 N76 (1 : Int32)  (by unfold agV; by_cases q1 : c46 = c47 <;> by_cases q2 : c49 = c50 <;> by_cases q3 : c54 = c55 <;> simp_all [uoe])
                      by_cases c94 : f19 = 0
                      · skip
                        refine go (fun _ => XS.ifYes X60.here hx rfl (pc0 := 283) (pc' := 290) rfl (hb hby at_283) rfl ((if0 _ _).trans (teq c94).1) (by decide) (by decide)) ?_
                        show Run p e below _ (T60.setTop (mkF m 290 #[.val (.int p0), .val (.int p1), .val (.int p2), .val (.int p3), .val (.int (p0 &&& (65535 : Int32))), .val (.int vs), .val (.ref b46), .val (.ref b47), .val (.int (p1 &&& (65535 : Int32))), .val (.int vi), .val (.ref b49), .val (.ref b50), .val (.int f12), .val (.int f13), .val (.int (p2 &&& (65535 : Int32))), .val (.int vk), .val (.ref b54), .val (.ref b55), .val (.int f18), .val (.int f19), .val i1, .val i2, .val k1, .unset, .unset, .unset, .unset] []))
                        have KF95 := Keep.refl h60 []
                        obtain ⟨T96, h96, X96, e96, E96, A96, D96, -, st96⟩ := newO X60 hx hZ hown (wd hw 6 rfl) (wd hw 7 rfl) (wd hw 8 rfl) e60 (g := (mkF m 290 #[.val (.int p0), .val (.int p1), .val (.int p2), .val (.int p3), .val (.int (p0 &&& (65535 : Int32))), .val (.int vs), .val (.ref b46), .val (.ref b47), .val (.int (p1 &&& (65535 : Int32))), .val (.int vi), .val (.ref b49), .val (.ref b50), .val (.int f12), .val (.int f13), .val (.int (p2 &&& (65535 : Int32))), .val (.int vk), .val (.ref b54), .val (.ref b55), .val (.int f18), .val (.int f19), .val i1, .val i2, .val k1, .unset, .unset, .unset, .unset] [])) rfl (hb hby at_290) (by decide) (by decide)
                        obtain ⟨b96, y96⟩ : ∃ z, z = h60.size := ⟨_, rfl⟩
                        rw [← y96] at A96 D96 st96
                        have g_b96 : n0 ≤ b96 := y96.symm ▸ old_sz O0
                        have szf_b96 : h60.size ≤ b96 := y96.symm ▸ KF95.1
                        have ne_b46_b96 : b46 ≠ b96 := Nat.ne_of_lt (y96.symm ▸ V_b46.lt)
                        have ne_b47_b96 : b47 ≠ b96 := Nat.ne_of_lt (y96.symm ▸ V_b47.lt)
                        have ne_b49_b96 : b49 ≠ b96 := Nat.ne_of_lt (y96.symm ▸ V_b49.lt)
                        have ne_b50_b96 : b50 ≠ b96 := Nat.ne_of_lt (y96.symm ▸ V_b50.lt)
                        have ne_b54_b96 : b54 ≠ b96 := Nat.ne_of_lt (y96.symm ▸ V_b54.lt)
                        have ne_b55_b96 : b55 ≠ b96 := Nat.ne_of_lt (y96.symm ▸ V_b55.lt)
                        have O0 := O0.ext E96
                        have V_b46 := V_b46.ext E96
                        have V_b47 := V_b47.ext E96
                        have V_b49 := V_b49.ext E96
                        have V_b50 := V_b50.ext E96
                        have V_b54 := V_b54.ext E96
                        have V_b55 := V_b55.ext E96
                        have KF95 := KF95.ext E96
                        have E_b96 := A96
                        have F_coder_b96 : Fld Z h96 b96 "java/lang/String" "coder" "B" (.int (0 : Int32)) := D96 (Or.inr (wd hw 32 rfl)) (ty := .byte) (by decide)
                        have F_value_b96 : Fld Z h96 b96 "java/lang/String" "value" "[B" .null := D96 (Or.inr (wd hw 34 rfl)) (ty := (.array .byte)) (by decide)
                        refine go st96 ?_
                        show Run p e below _ (T96.setTop (mkF m 293 #[.val (.int p0), .val (.int p1), .val (.int p2), .val (.int p3), .val (.int (p0 &&& (65535 : Int32))), .val (.int vs), .val (.ref b46), .val (.ref b47), .val (.int (p1 &&& (65535 : Int32))), .val (.int vi), .val (.ref b49), .val (.ref b50), .val (.int f12), .val (.int f13), .val (.int (p2 &&& (65535 : Int32))), .val (.int vk), .val (.ref b54), .val (.ref b55), .val (.int f18), .val (.int f19), .val i1, .val i2, .val k1, .unset, .unset, .unset, .unset] [(.ref b96)]))
                        refine go (fun _ => XS.dup X96.here hx rfl (hb hby at_293) rfl rfl) ?_
                        show Run p e below _ (T96.setTop (mkF m 294 #[.val (.int p0), .val (.int p1), .val (.int p2), .val (.int p3), .val (.int (p0 &&& (65535 : Int32))), .val (.int vs), .val (.ref b46), .val (.ref b47), .val (.int (p1 &&& (65535 : Int32))), .val (.int vi), .val (.ref b49), .val (.ref b50), .val (.int f12), .val (.int f13), .val (.int (p2 &&& (65535 : Int32))), .val (.int vk), .val (.ref b54), .val (.ref b55), .val (.int f18), .val (.int f19), .val i1, .val i2, .val k1, .unset, .unset, .unset, .unset] [(.ref b96), (.ref b96)]))
                        refine go (fun _ => XS.aload X96.here hx rfl (hb hby at_294) rfl rfl) ?_
                        show Run p e below _ (T96.setTop (mkF m 296 #[.val (.int p0), .val (.int p1), .val (.int p2), .val (.int p3), .val (.int (p0 &&& (65535 : Int32))), .val (.int vs), .val (.ref b46), .val (.ref b47), .val (.int (p1 &&& (65535 : Int32))), .val (.int vi), .val (.ref b49), .val (.ref b50), .val (.int f12), .val (.int f13), .val (.int (p2 &&& (65535 : Int32))), .val (.int vk), .val (.ref b54), .val (.ref b55), .val (.int f18), .val (.int f19), .val i1, .val i2, .val k1, .unset, .unset, .unset, .unset] [(.ref b55), (.ref b96), (.ref b96)]))
                        refine callSpK X96 hx hZ rfl hown (wd hw 9 rfl) (wd hw 10 rfl) (wd hw 11 rfl) (by decide) e96 (a := b96) (argsL := [(.ref b55)]) (rest := [(.ref b96)]) (W := 1) ((payNew (cs := c55) hZ hw (wd hw 7 rfl) O0 g_b96 E_b96 F_value_b96 F_coder_b96 V_b55 S_COMPACT_STRINGS hzc rfl rfl (len12 M55).1 (Nat.le_trans (len12 M55).2 (by decide)) I55 (by decide) (by decide)).more (len12 M55).2) (by decide) (by decide) (by rw [hml]; rfl) (lenOf pd_4 rfl) rfl (Nat.le_of_eq rfl) (hb hby at_296) ?_
                        intro v97 T97 L97 h97 X97 e97 q97
                        have lt98_b46 := V_b46.lt
                        have lt98_b47 := V_b47.lt
                        have lt98_b49 := V_b49.lt
                        have lt98_b50 := V_b50.lt
                        have lt98_b54 := V_b54.lt
                        have lt98_b55 := V_b55.lt
                        have lt98_b96 := E_b96.lt
                        obtain ⟨rfl, n97, K97, t97, kb97, gt97, sb97, nt97, T_b96⟩ := q97
                        have szf_t97 : h60.size ≤ t97 := Nat.le_trans KF95.1 sb97
                        have ne_b46_t97 : b46 ≠ t97 := Nat.ne_of_lt (Nat.lt_of_lt_of_le lt98_b46 sb97)
                        have ne_b47_t97 : b47 ≠ t97 := Nat.ne_of_lt (Nat.lt_of_lt_of_le lt98_b47 sb97)
                        have ne_b49_t97 : b49 ≠ t97 := Nat.ne_of_lt (Nat.lt_of_lt_of_le lt98_b49 sb97)
                        have ne_b50_t97 : b50 ≠ t97 := Nat.ne_of_lt (Nat.lt_of_lt_of_le lt98_b50 sb97)
                        have ne_b54_t97 : b54 ≠ t97 := Nat.ne_of_lt (Nat.lt_of_lt_of_le lt98_b54 sb97)
                        have ne_b55_t97 : b55 ≠ t97 := Nat.ne_of_lt (Nat.lt_of_lt_of_le lt98_b55 sb97)
                        have ne_b96_t97 : b96 ≠ t97 := Nat.ne_of_lt (Nat.lt_of_lt_of_le lt98_b96 sb97)
                        have O0 := O0.keep K97 (allS g_b96 all0)
                        have V_b46 := V_b46.keep K97 (ninS ne_b46_b96 nin0)
                        have V_b47 := V_b47.keep K97 (ninS ne_b47_b96 nin0)
                        have V_b49 := V_b49.keep K97 (ninS ne_b49_b96 nin0)
                        have V_b50 := V_b50.keep K97 (ninS ne_b50_b96 nin0)
                        have V_b54 := V_b54.keep K97 (ninS ne_b54_b96 nin0)
                        have V_b55 := V_b55.keep K97 (ninS ne_b55_b96 nin0)
                        have KF95 := KF95.trans K97 (allS (Or.inr szf_b96) all0)
                        have N97 := Fr.app N60 n97
                        show Run p e below _ (T97.setTop (mkF m 299 #[.val (.int p0), .val (.int p1), .val (.int p2), .val (.int p3), .val (.int (p0 &&& (65535 : Int32))), .val (.int vs), .val (.ref b46), .val (.ref b47), .val (.int (p1 &&& (65535 : Int32))), .val (.int vi), .val (.ref b49), .val (.ref b50), .val (.int f12), .val (.int f13), .val (.int (p2 &&& (65535 : Int32))), .val (.int vk), .val (.ref b54), .val (.ref b55), .val (.int f18), .val (.int f19), .val i1, .val i2, .val k1, .unset, .unset, .unset, .unset] [(.ref b96)]))
                        have Hi1 := Hi1.keep0 KF95
                        have Hi2 := Hi2.keep0 KF95
                        have Hk1 := Hk1.keep0 KF95
                        have Hn : OS Z h97 (.ref b96) (some c55) := Or.inr ⟨b96, t97, kb97, c55, rfl, rfl, T_b96, I55, (Nat.le_trans (len12 M55).2 (by decide))⟩
                        exact J299 _ _ _ (smono X97 (by decide) (by decide)) e97 N97 (.ref b96) (some c55) O0 V_b46 V_b47 V_b49 V_b50 V_b54 V_b55 Hi1 Hi2 Hk1 Hn (by rw [if_pos c94])
                      · skip
                        refine go (fun _ => XS.ifNo X60.here hx rfl (hb hby at_283) rfl ((if0 _ _).trans (feq c94).1)) ?_
                        show Run p e below _ (T60.setTop (mkF m 286 #[.val (.int p0), .val (.int p1), .val (.int p2), .val (.int p3), .val (.int (p0 &&& (65535 : Int32))), .val (.int vs), .val (.ref b46), .val (.ref b47), .val (.int (p1 &&& (65535 : Int32))), .val (.int vi), .val (.ref b49), .val (.ref b50), .val (.int f12), .val (.int f13), .val (.int (p2 &&& (65535 : Int32))), .val (.int vk), .val (.ref b54), .val (.ref b55), .val (.int f18), .val (.int f19), .val i1, .val i2, .val k1, .unset, .unset, .unset, .unset] []))
                        refine go (fun _ => XS.aconstNull X60.here hx rfl (hb hby at_286)) ?_
                        show Run p e below _ (T60.setTop (mkF m 287 #[.val (.int p0), .val (.int p1), .val (.int p2), .val (.int p3), .val (.int (p0 &&& (65535 : Int32))), .val (.int vs), .val (.ref b46), .val (.ref b47), .val (.int (p1 &&& (65535 : Int32))), .val (.int vi), .val (.ref b49), .val (.ref b50), .val (.int f12), .val (.int f13), .val (.int (p2 &&& (65535 : Int32))), .val (.int vk), .val (.ref b54), .val (.ref b55), .val (.int f18), .val (.int f19), .val i1, .val i2, .val k1, .unset, .unset, .unset, .unset] [.null]))
                        refine go (fun _ => XS.goto X60.here hx rfl (pc0 := 287) (pc' := 299) rfl (hb hby at_287) (by decide) (by decide)) ?_
                        show Run p e below _ (T60.setTop (mkF m 299 #[.val (.int p0), .val (.int p1), .val (.int p2), .val (.int p3), .val (.int (p0 &&& (65535 : Int32))), .val (.int vs), .val (.ref b46), .val (.ref b47), .val (.int (p1 &&& (65535 : Int32))), .val (.int vi), .val (.ref b49), .val (.ref b50), .val (.int f12), .val (.int f13), .val (.int (p2 &&& (65535 : Int32))), .val (.int vk), .val (.ref b54), .val (.ref b55), .val (.int f18), .val (.int f19), .val i1, .val i2, .val k1, .unset, .unset, .unset, .unset] [.null]))
                        have Hn : OS Z h60 .null none := Or.inl ⟨rfl, rfl⟩
                        exact J299 _ _ _ (smono X60 (by decide) (by decide)) e60 N60 .null none O0 V_b46 V_b47 V_b49 V_b50 V_b54 V_b55 Hi1 Hi2 Hk1 Hn (by rw [if_neg c94])
                    by_cases c99 : f18 = 0
                    · skip
                      refine go (fun _ => XS.ifYes X59.here hx rfl (pc0 := 263) (pc' := 270) rfl (hb hby at_263) rfl ((if0 _ _).trans (teq c99).1) (by decide) (by decide)) ?_
                      show Run p e below _ (T59.setTop (mkF m 270 #[.val (.int p0), .val (.int p1), .val (.int p2), .val (.int p3), .val (.int (p0 &&& (65535 : Int32))), .val (.int vs), .val (.ref b46), .val (.ref b47), .val (.int (p1 &&& (65535 : Int32))), .val (.int vi), .val (.ref b49), .val (.ref b50), .val (.int f12), .val (.int f13), .val (.int (p2 &&& (65535 : Int32))), .val (.int vk), .val (.ref b54), .val (.ref b55), .val (.int f18), .val (.int f19), .val i1, .val i2, .unset, .unset, .unset, .unset, .unset] []))
                      have KF100 := Keep.refl h59 []
                      obtain ⟨T101, h101, X101, e101, E101, A101, D101, -, st101⟩ := newO X59 hx hZ hown (wd hw 6 rfl) (wd hw 7 rfl) (wd hw 8 rfl) e59 (g := (mkF m 270 #[.val (.int p0), .val (.int p1), .val (.int p2), .val (.int p3), .val (.int (p0 &&& (65535 : Int32))), .val (.int vs), .val (.ref b46), .val (.ref b47), .val (.int (p1 &&& (65535 : Int32))), .val (.int vi), .val (.ref b49), .val (.ref b50), .val (.int f12), .val (.int f13), .val (.int (p2 &&& (65535 : Int32))), .val (.int vk), .val (.ref b54), .val (.ref b55), .val (.int f18), .val (.int f19), .val i1, .val i2, .unset, .unset, .unset, .unset, .unset] [])) rfl (hb hby at_270) (by decide) (by decide)
                      obtain ⟨b101, y101⟩ : ∃ z, z = h59.size := ⟨_, rfl⟩
                      rw [← y101] at A101 D101 st101
                      have g_b101 : n0 ≤ b101 := y101.symm ▸ old_sz O0
                      have szf_b101 : h59.size ≤ b101 := y101.symm ▸ KF100.1
                      have ne_b46_b101 : b46 ≠ b101 := Nat.ne_of_lt (y101.symm ▸ V_b46.lt)
                      have ne_b47_b101 : b47 ≠ b101 := Nat.ne_of_lt (y101.symm ▸ V_b47.lt)
                      have ne_b49_b101 : b49 ≠ b101 := Nat.ne_of_lt (y101.symm ▸ V_b49.lt)
                      have ne_b50_b101 : b50 ≠ b101 := Nat.ne_of_lt (y101.symm ▸ V_b50.lt)
                      have ne_b54_b101 : b54 ≠ b101 := Nat.ne_of_lt (y101.symm ▸ V_b54.lt)
                      have ne_b55_b101 : b55 ≠ b101 := Nat.ne_of_lt (y101.symm ▸ V_b55.lt)
                      have O0 := O0.ext E101
                      have V_b46 := V_b46.ext E101
                      have V_b47 := V_b47.ext E101
                      have V_b49 := V_b49.ext E101
                      have V_b50 := V_b50.ext E101
                      have V_b54 := V_b54.ext E101
                      have V_b55 := V_b55.ext E101
                      have KF100 := KF100.ext E101
                      have E_b101 := A101
                      have F_coder_b101 : Fld Z h101 b101 "java/lang/String" "coder" "B" (.int (0 : Int32)) := D101 (Or.inr (wd hw 32 rfl)) (ty := .byte) (by decide)
                      have F_value_b101 : Fld Z h101 b101 "java/lang/String" "value" "[B" .null := D101 (Or.inr (wd hw 34 rfl)) (ty := (.array .byte)) (by decide)
                      refine go st101 ?_
                      show Run p e below _ (T101.setTop (mkF m 273 #[.val (.int p0), .val (.int p1), .val (.int p2), .val (.int p3), .val (.int (p0 &&& (65535 : Int32))), .val (.int vs), .val (.ref b46), .val (.ref b47), .val (.int (p1 &&& (65535 : Int32))), .val (.int vi), .val (.ref b49), .val (.ref b50), .val (.int f12), .val (.int f13), .val (.int (p2 &&& (65535 : Int32))), .val (.int vk), .val (.ref b54), .val (.ref b55), .val (.int f18), .val (.int f19), .val i1, .val i2, .unset, .unset, .unset, .unset, .unset] [(.ref b101)]))
                      refine go (fun _ => XS.dup X101.here hx rfl (hb hby at_273) rfl rfl) ?_
                      show Run p e below _ (T101.setTop (mkF m 274 #[.val (.int p0), .val (.int p1), .val (.int p2), .val (.int p3), .val (.int (p0 &&& (65535 : Int32))), .val (.int vs), .val (.ref b46), .val (.ref b47), .val (.int (p1 &&& (65535 : Int32))), .val (.int vi), .val (.ref b49), .val (.ref b50), .val (.int f12), .val (.int f13), .val (.int (p2 &&& (65535 : Int32))), .val (.int vk), .val (.ref b54), .val (.ref b55), .val (.int f18), .val (.int f19), .val i1, .val i2, .unset, .unset, .unset, .unset, .unset] [(.ref b101), (.ref b101)]))
                      refine go (fun _ => XS.aload X101.here hx rfl (hb hby at_274) rfl rfl) ?_
                      show Run p e below _ (T101.setTop (mkF m 276 #[.val (.int p0), .val (.int p1), .val (.int p2), .val (.int p3), .val (.int (p0 &&& (65535 : Int32))), .val (.int vs), .val (.ref b46), .val (.ref b47), .val (.int (p1 &&& (65535 : Int32))), .val (.int vi), .val (.ref b49), .val (.ref b50), .val (.int f12), .val (.int f13), .val (.int (p2 &&& (65535 : Int32))), .val (.int vk), .val (.ref b54), .val (.ref b55), .val (.int f18), .val (.int f19), .val i1, .val i2, .unset, .unset, .unset, .unset, .unset] [(.ref b54), (.ref b101), (.ref b101)]))
                      refine callSpK X101 hx hZ rfl hown (wd hw 9 rfl) (wd hw 10 rfl) (wd hw 11 rfl) (by decide) e101 (a := b101) (argsL := [(.ref b54)]) (rest := [(.ref b101)]) (W := 1) ((payNew (cs := c54) hZ hw (wd hw 7 rfl) O0 g_b101 E_b101 F_value_b101 F_coder_b101 V_b54 S_COMPACT_STRINGS hzc rfl rfl (len12 M54).1 (Nat.le_trans (len12 M54).2 (by decide)) I54 (by decide) (by decide)).more (len12 M54).2) (by decide) (by decide) (by rw [hml]; rfl) (lenOf pd_4 rfl) rfl (Nat.le_of_eq rfl) (hb hby at_276) ?_
                      intro v102 T102 L102 h102 X102 e102 q102
                      have lt103_b46 := V_b46.lt
                      have lt103_b47 := V_b47.lt
                      have lt103_b49 := V_b49.lt
                      have lt103_b50 := V_b50.lt
                      have lt103_b54 := V_b54.lt
                      have lt103_b55 := V_b55.lt
                      have lt103_b101 := E_b101.lt
                      obtain ⟨rfl, n102, K102, t102, kb102, gt102, sb102, nt102, T_b101⟩ := q102
                      have szf_t102 : h59.size ≤ t102 := Nat.le_trans KF100.1 sb102
                      have ne_b46_t102 : b46 ≠ t102 := Nat.ne_of_lt (Nat.lt_of_lt_of_le lt103_b46 sb102)
                      have ne_b47_t102 : b47 ≠ t102 := Nat.ne_of_lt (Nat.lt_of_lt_of_le lt103_b47 sb102)
                      have ne_b49_t102 : b49 ≠ t102 := Nat.ne_of_lt (Nat.lt_of_lt_of_le lt103_b49 sb102)
                      have ne_b50_t102 : b50 ≠ t102 := Nat.ne_of_lt (Nat.lt_of_lt_of_le lt103_b50 sb102)
                      have ne_b54_t102 : b54 ≠ t102 := Nat.ne_of_lt (Nat.lt_of_lt_of_le lt103_b54 sb102)
                      have ne_b55_t102 : b55 ≠ t102 := Nat.ne_of_lt (Nat.lt_of_lt_of_le lt103_b55 sb102)
                      have ne_b101_t102 : b101 ≠ t102 := Nat.ne_of_lt (Nat.lt_of_lt_of_le lt103_b101 sb102)
                      have O0 := O0.keep K102 (allS g_b101 all0)
                      have V_b46 := V_b46.keep K102 (ninS ne_b46_b101 nin0)
                      have V_b47 := V_b47.keep K102 (ninS ne_b47_b101 nin0)
                      have V_b49 := V_b49.keep K102 (ninS ne_b49_b101 nin0)
                      have V_b50 := V_b50.keep K102 (ninS ne_b50_b101 nin0)
                      have V_b54 := V_b54.keep K102 (ninS ne_b54_b101 nin0)
                      have V_b55 := V_b55.keep K102 (ninS ne_b55_b101 nin0)
                      have KF100 := KF100.trans K102 (allS (Or.inr szf_b101) all0)
                      have N102 := Fr.app N59 n102
                      show Run p e below _ (T102.setTop (mkF m 279 #[.val (.int p0), .val (.int p1), .val (.int p2), .val (.int p3), .val (.int (p0 &&& (65535 : Int32))), .val (.int vs), .val (.ref b46), .val (.ref b47), .val (.int (p1 &&& (65535 : Int32))), .val (.int vi), .val (.ref b49), .val (.ref b50), .val (.int f12), .val (.int f13), .val (.int (p2 &&& (65535 : Int32))), .val (.int vk), .val (.ref b54), .val (.ref b55), .val (.int f18), .val (.int f19), .val i1, .val i2, .unset, .unset, .unset, .unset, .unset] [(.ref b101)]))
                      have Hi1 := Hi1.keep0 KF100
                      have Hi2 := Hi2.keep0 KF100
                      have Hn : OS Z h102 (.ref b101) (some c54) := Or.inr ⟨b101, t102, kb102, c54, rfl, rfl, T_b101, I54, (Nat.le_trans (len12 M54).2 (by decide))⟩
                      exact J279 _ _ _ (smono X102 (by decide) (by decide)) e102 N102 (.ref b101) (some c54) O0 V_b46 V_b47 V_b49 V_b50 V_b54 V_b55 Hi1 Hi2 Hn (by rw [if_pos c99])
                    · skip
                      refine go (fun _ => XS.ifNo X59.here hx rfl (hb hby at_263) rfl ((if0 _ _).trans (feq c99).1)) ?_
                      show Run p e below _ (T59.setTop (mkF m 266 #[.val (.int p0), .val (.int p1), .val (.int p2), .val (.int p3), .val (.int (p0 &&& (65535 : Int32))), .val (.int vs), .val (.ref b46), .val (.ref b47), .val (.int (p1 &&& (65535 : Int32))), .val (.int vi), .val (.ref b49), .val (.ref b50), .val (.int f12), .val (.int f13), .val (.int (p2 &&& (65535 : Int32))), .val (.int vk), .val (.ref b54), .val (.ref b55), .val (.int f18), .val (.int f19), .val i1, .val i2, .unset, .unset, .unset, .unset, .unset] []))
                      refine go (fun _ => XS.aconstNull X59.here hx rfl (hb hby at_266)) ?_
                      show Run p e below _ (T59.setTop (mkF m 267 #[.val (.int p0), .val (.int p1), .val (.int p2), .val (.int p3), .val (.int (p0 &&& (65535 : Int32))), .val (.int vs), .val (.ref b46), .val (.ref b47), .val (.int (p1 &&& (65535 : Int32))), .val (.int vi), .val (.ref b49), .val (.ref b50), .val (.int f12), .val (.int f13), .val (.int (p2 &&& (65535 : Int32))), .val (.int vk), .val (.ref b54), .val (.ref b55), .val (.int f18), .val (.int f19), .val i1, .val i2, .unset, .unset, .unset, .unset, .unset] [.null]))
                      refine go (fun _ => XS.goto X59.here hx rfl (pc0 := 267) (pc' := 279) rfl (hb hby at_267) (by decide) (by decide)) ?_
                      show Run p e below _ (T59.setTop (mkF m 279 #[.val (.int p0), .val (.int p1), .val (.int p2), .val (.int p3), .val (.int (p0 &&& (65535 : Int32))), .val (.int vs), .val (.ref b46), .val (.ref b47), .val (.int (p1 &&& (65535 : Int32))), .val (.int vi), .val (.ref b49), .val (.ref b50), .val (.int f12), .val (.int f13), .val (.int (p2 &&& (65535 : Int32))), .val (.int vk), .val (.ref b54), .val (.ref b55), .val (.int f18), .val (.int f19), .val i1, .val i2, .unset, .unset, .unset, .unset, .unset] [.null]))
                      have Hn : OS Z h59 .null none := Or.inl ⟨rfl, rfl⟩
                      exact J279 _ _ _ (smono X59 (by decide) (by decide)) e59 N59 .null none O0 V_b46 V_b47 V_b49 V_b50 V_b54 V_b55 Hi1 Hi2 Hn (by rw [if_neg c99])
                  by_cases c104 : f13 = 0
                  · skip
                    refine go (fun _ => XS.ifYes X58.here hx rfl (pc0 := 243) (pc' := 250) rfl (hb hby at_243) rfl ((if0 _ _).trans (teq c104).1) (by decide) (by decide)) ?_
                    show Run p e below _ (T58.setTop (mkF m 250 #[.val (.int p0), .val (.int p1), .val (.int p2), .val (.int p3), .val (.int (p0 &&& (65535 : Int32))), .val (.int vs), .val (.ref b46), .val (.ref b47), .val (.int (p1 &&& (65535 : Int32))), .val (.int vi), .val (.ref b49), .val (.ref b50), .val (.int f12), .val (.int f13), .val (.int (p2 &&& (65535 : Int32))), .val (.int vk), .val (.ref b54), .val (.ref b55), .val (.int f18), .val (.int f19), .val i1, .unset, .unset, .unset, .unset, .unset, .unset] []))
                    have KF105 := Keep.refl h58 []
                    obtain ⟨T106, h106, X106, e106, E106, A106, D106, -, st106⟩ := newO X58 hx hZ hown (wd hw 6 rfl) (wd hw 7 rfl) (wd hw 8 rfl) e58 (g := (mkF m 250 #[.val (.int p0), .val (.int p1), .val (.int p2), .val (.int p3), .val (.int (p0 &&& (65535 : Int32))), .val (.int vs), .val (.ref b46), .val (.ref b47), .val (.int (p1 &&& (65535 : Int32))), .val (.int vi), .val (.ref b49), .val (.ref b50), .val (.int f12), .val (.int f13), .val (.int (p2 &&& (65535 : Int32))), .val (.int vk), .val (.ref b54), .val (.ref b55), .val (.int f18), .val (.int f19), .val i1, .unset, .unset, .unset, .unset, .unset, .unset] [])) rfl (hb hby at_250) (by decide) (by decide)
                    obtain ⟨b106, y106⟩ : ∃ z, z = h58.size := ⟨_, rfl⟩
                    rw [← y106] at A106 D106 st106
                    have g_b106 : n0 ≤ b106 := y106.symm ▸ old_sz O0
                    have szf_b106 : h58.size ≤ b106 := y106.symm ▸ KF105.1
                    have ne_b46_b106 : b46 ≠ b106 := Nat.ne_of_lt (y106.symm ▸ V_b46.lt)
                    have ne_b47_b106 : b47 ≠ b106 := Nat.ne_of_lt (y106.symm ▸ V_b47.lt)
                    have ne_b49_b106 : b49 ≠ b106 := Nat.ne_of_lt (y106.symm ▸ V_b49.lt)
                    have ne_b50_b106 : b50 ≠ b106 := Nat.ne_of_lt (y106.symm ▸ V_b50.lt)
                    have ne_b54_b106 : b54 ≠ b106 := Nat.ne_of_lt (y106.symm ▸ V_b54.lt)
                    have ne_b55_b106 : b55 ≠ b106 := Nat.ne_of_lt (y106.symm ▸ V_b55.lt)
                    have O0 := O0.ext E106
                    have V_b46 := V_b46.ext E106
                    have V_b47 := V_b47.ext E106
                    have V_b49 := V_b49.ext E106
                    have V_b50 := V_b50.ext E106
                    have V_b54 := V_b54.ext E106
                    have V_b55 := V_b55.ext E106
                    have KF105 := KF105.ext E106
                    have E_b106 := A106
                    have F_coder_b106 : Fld Z h106 b106 "java/lang/String" "coder" "B" (.int (0 : Int32)) := D106 (Or.inr (wd hw 32 rfl)) (ty := .byte) (by decide)
                    have F_value_b106 : Fld Z h106 b106 "java/lang/String" "value" "[B" .null := D106 (Or.inr (wd hw 34 rfl)) (ty := (.array .byte)) (by decide)
                    refine go st106 ?_
                    show Run p e below _ (T106.setTop (mkF m 253 #[.val (.int p0), .val (.int p1), .val (.int p2), .val (.int p3), .val (.int (p0 &&& (65535 : Int32))), .val (.int vs), .val (.ref b46), .val (.ref b47), .val (.int (p1 &&& (65535 : Int32))), .val (.int vi), .val (.ref b49), .val (.ref b50), .val (.int f12), .val (.int f13), .val (.int (p2 &&& (65535 : Int32))), .val (.int vk), .val (.ref b54), .val (.ref b55), .val (.int f18), .val (.int f19), .val i1, .unset, .unset, .unset, .unset, .unset, .unset] [(.ref b106)]))
                    refine go (fun _ => XS.dup X106.here hx rfl (hb hby at_253) rfl rfl) ?_
                    show Run p e below _ (T106.setTop (mkF m 254 #[.val (.int p0), .val (.int p1), .val (.int p2), .val (.int p3), .val (.int (p0 &&& (65535 : Int32))), .val (.int vs), .val (.ref b46), .val (.ref b47), .val (.int (p1 &&& (65535 : Int32))), .val (.int vi), .val (.ref b49), .val (.ref b50), .val (.int f12), .val (.int f13), .val (.int (p2 &&& (65535 : Int32))), .val (.int vk), .val (.ref b54), .val (.ref b55), .val (.int f18), .val (.int f19), .val i1, .unset, .unset, .unset, .unset, .unset, .unset] [(.ref b106), (.ref b106)]))
                    refine go (fun _ => XS.aload X106.here hx rfl (hb hby at_254) rfl rfl) ?_
                    show Run p e below _ (T106.setTop (mkF m 256 #[.val (.int p0), .val (.int p1), .val (.int p2), .val (.int p3), .val (.int (p0 &&& (65535 : Int32))), .val (.int vs), .val (.ref b46), .val (.ref b47), .val (.int (p1 &&& (65535 : Int32))), .val (.int vi), .val (.ref b49), .val (.ref b50), .val (.int f12), .val (.int f13), .val (.int (p2 &&& (65535 : Int32))), .val (.int vk), .val (.ref b54), .val (.ref b55), .val (.int f18), .val (.int f19), .val i1, .unset, .unset, .unset, .unset, .unset, .unset] [(.ref b50), (.ref b106), (.ref b106)]))
                    refine callSpK X106 hx hZ rfl hown (wd hw 9 rfl) (wd hw 10 rfl) (wd hw 11 rfl) (by decide) e106 (a := b106) (argsL := [(.ref b50)]) (rest := [(.ref b106)]) (W := 1) ((payNew (cs := c50) hZ hw (wd hw 7 rfl) O0 g_b106 E_b106 F_value_b106 F_coder_b106 V_b50 S_COMPACT_STRINGS hzc rfl rfl (len12 M50).1 (Nat.le_trans (len12 M50).2 (by decide)) I50 (by decide) (by decide)).more (len12 M50).2) (by decide) (by decide) (by rw [hml]; rfl) (lenOf pd_4 rfl) rfl (Nat.le_of_eq rfl) (hb hby at_256) ?_
                    intro v107 T107 L107 h107 X107 e107 q107
                    have lt108_b46 := V_b46.lt
                    have lt108_b47 := V_b47.lt
                    have lt108_b49 := V_b49.lt
                    have lt108_b50 := V_b50.lt
                    have lt108_b54 := V_b54.lt
                    have lt108_b55 := V_b55.lt
                    have lt108_b106 := E_b106.lt
                    obtain ⟨rfl, n107, K107, t107, kb107, gt107, sb107, nt107, T_b106⟩ := q107
                    have szf_t107 : h58.size ≤ t107 := Nat.le_trans KF105.1 sb107
                    have ne_b46_t107 : b46 ≠ t107 := Nat.ne_of_lt (Nat.lt_of_lt_of_le lt108_b46 sb107)
                    have ne_b47_t107 : b47 ≠ t107 := Nat.ne_of_lt (Nat.lt_of_lt_of_le lt108_b47 sb107)
                    have ne_b49_t107 : b49 ≠ t107 := Nat.ne_of_lt (Nat.lt_of_lt_of_le lt108_b49 sb107)
                    have ne_b50_t107 : b50 ≠ t107 := Nat.ne_of_lt (Nat.lt_of_lt_of_le lt108_b50 sb107)
                    have ne_b54_t107 : b54 ≠ t107 := Nat.ne_of_lt (Nat.lt_of_lt_of_le lt108_b54 sb107)
                    have ne_b55_t107 : b55 ≠ t107 := Nat.ne_of_lt (Nat.lt_of_lt_of_le lt108_b55 sb107)
                    have ne_b106_t107 : b106 ≠ t107 := Nat.ne_of_lt (Nat.lt_of_lt_of_le lt108_b106 sb107)
                    have O0 := O0.keep K107 (allS g_b106 all0)
                    have V_b46 := V_b46.keep K107 (ninS ne_b46_b106 nin0)
                    have V_b47 := V_b47.keep K107 (ninS ne_b47_b106 nin0)
                    have V_b49 := V_b49.keep K107 (ninS ne_b49_b106 nin0)
                    have V_b50 := V_b50.keep K107 (ninS ne_b50_b106 nin0)
                    have V_b54 := V_b54.keep K107 (ninS ne_b54_b106 nin0)
                    have V_b55 := V_b55.keep K107 (ninS ne_b55_b106 nin0)
                    have KF105 := KF105.trans K107 (allS (Or.inr szf_b106) all0)
                    have N107 := Fr.app N58 n107
                    show Run p e below _ (T107.setTop (mkF m 259 #[.val (.int p0), .val (.int p1), .val (.int p2), .val (.int p3), .val (.int (p0 &&& (65535 : Int32))), .val (.int vs), .val (.ref b46), .val (.ref b47), .val (.int (p1 &&& (65535 : Int32))), .val (.int vi), .val (.ref b49), .val (.ref b50), .val (.int f12), .val (.int f13), .val (.int (p2 &&& (65535 : Int32))), .val (.int vk), .val (.ref b54), .val (.ref b55), .val (.int f18), .val (.int f19), .val i1, .unset, .unset, .unset, .unset, .unset, .unset] [(.ref b106)]))
                    have Hi1 := Hi1.keep0 KF105
                    have Hn : OS Z h107 (.ref b106) (some c50) := Or.inr ⟨b106, t107, kb107, c50, rfl, rfl, T_b106, I50, (Nat.le_trans (len12 M50).2 (by decide))⟩
                    exact J259 _ _ _ (smono X107 (by decide) (by decide)) e107 N107 (.ref b106) (some c50) O0 V_b46 V_b47 V_b49 V_b50 V_b54 V_b55 Hi1 Hn (by rw [if_pos c104])
                  · skip
                    refine go (fun _ => XS.ifNo X58.here hx rfl (hb hby at_243) rfl ((if0 _ _).trans (feq c104).1)) ?_
                    show Run p e below _ (T58.setTop (mkF m 246 #[.val (.int p0), .val (.int p1), .val (.int p2), .val (.int p3), .val (.int (p0 &&& (65535 : Int32))), .val (.int vs), .val (.ref b46), .val (.ref b47), .val (.int (p1 &&& (65535 : Int32))), .val (.int vi), .val (.ref b49), .val (.ref b50), .val (.int f12), .val (.int f13), .val (.int (p2 &&& (65535 : Int32))), .val (.int vk), .val (.ref b54), .val (.ref b55), .val (.int f18), .val (.int f19), .val i1, .unset, .unset, .unset, .unset, .unset, .unset] []))
                    refine go (fun _ => XS.aconstNull X58.here hx rfl (hb hby at_246)) ?_
                    show Run p e below _ (T58.setTop (mkF m 247 #[.val (.int p0), .val (.int p1), .val (.int p2), .val (.int p3), .val (.int (p0 &&& (65535 : Int32))), .val (.int vs), .val (.ref b46), .val (.ref b47), .val (.int (p1 &&& (65535 : Int32))), .val (.int vi), .val (.ref b49), .val (.ref b50), .val (.int f12), .val (.int f13), .val (.int (p2 &&& (65535 : Int32))), .val (.int vk), .val (.ref b54), .val (.ref b55), .val (.int f18), .val (.int f19), .val i1, .unset, .unset, .unset, .unset, .unset, .unset] [.null]))
                    refine go (fun _ => XS.goto X58.here hx rfl (pc0 := 247) (pc' := 259) rfl (hb hby at_247) (by decide) (by decide)) ?_
                    show Run p e below _ (T58.setTop (mkF m 259 #[.val (.int p0), .val (.int p1), .val (.int p2), .val (.int p3), .val (.int (p0 &&& (65535 : Int32))), .val (.int vs), .val (.ref b46), .val (.ref b47), .val (.int (p1 &&& (65535 : Int32))), .val (.int vi), .val (.ref b49), .val (.ref b50), .val (.int f12), .val (.int f13), .val (.int (p2 &&& (65535 : Int32))), .val (.int vk), .val (.ref b54), .val (.ref b55), .val (.int f18), .val (.int f19), .val i1, .unset, .unset, .unset, .unset, .unset, .unset] [.null]))
                    have Hn : OS Z h58 .null none := Or.inl ⟨rfl, rfl⟩
                    exact J259 _ _ _ (smono X58 (by decide) (by decide)) e58 N58 .null none O0 V_b46 V_b47 V_b49 V_b50 V_b54 V_b55 Hi1 Hn (by rw [if_neg c104])
                by_cases c109 : f12 = 0
                · skip
                  refine go (fun _ => XS.ifYes X57.here hx rfl (pc0 := 223) (pc' := 230) rfl (hb hby at_223) rfl ((if0 _ _).trans (teq c109).1) (by decide) (by decide)) ?_
                  show Run p e below _ (T57.setTop (mkF m 230 #[.val (.int p0), .val (.int p1), .val (.int p2), .val (.int p3), .val (.int (p0 &&& (65535 : Int32))), .val (.int vs), .val (.ref b46), .val (.ref b47), .val (.int (p1 &&& (65535 : Int32))), .val (.int vi), .val (.ref b49), .val (.ref b50), .val (.int f12), .val (.int f13), .val (.int (p2 &&& (65535 : Int32))), .val (.int vk), .val (.ref b54), .val (.ref b55), .val (.int f18), .val (.int f19), .unset, .unset, .unset, .unset, .unset, .unset, .unset] []))
                  have KF110 := Keep.refl h55 []
                  obtain ⟨T111, h111, X111, e111, E111, A111, D111, -, st111⟩ := newO X57 hx hZ hown (wd hw 6 rfl) (wd hw 7 rfl) (wd hw 8 rfl) e57 (g := (mkF m 230 #[.val (.int p0), .val (.int p1), .val (.int p2), .val (.int p3), .val (.int (p0 &&& (65535 : Int32))), .val (.int vs), .val (.ref b46), .val (.ref b47), .val (.int (p1 &&& (65535 : Int32))), .val (.int vi), .val (.ref b49), .val (.ref b50), .val (.int f12), .val (.int f13), .val (.int (p2 &&& (65535 : Int32))), .val (.int vk), .val (.ref b54), .val (.ref b55), .val (.int f18), .val (.int f19), .unset, .unset, .unset, .unset, .unset, .unset, .unset] [])) rfl (hb hby at_230) (by decide) (by decide)
                  obtain ⟨b111, y111⟩ : ∃ z, z = h55.size := ⟨_, rfl⟩
                  rw [← y111] at A111 D111 st111
                  have g_b111 : n0 ≤ b111 := y111.symm ▸ old_sz O0
                  have szf_b111 : h55.size ≤ b111 := y111.symm ▸ KF110.1
                  have ne_b46_b111 : b46 ≠ b111 := Nat.ne_of_lt (y111.symm ▸ V_b46.lt)
                  have ne_b47_b111 : b47 ≠ b111 := Nat.ne_of_lt (y111.symm ▸ V_b47.lt)
                  have ne_b49_b111 : b49 ≠ b111 := Nat.ne_of_lt (y111.symm ▸ V_b49.lt)
                  have ne_b50_b111 : b50 ≠ b111 := Nat.ne_of_lt (y111.symm ▸ V_b50.lt)
                  have ne_b54_b111 : b54 ≠ b111 := Nat.ne_of_lt (y111.symm ▸ V_b54.lt)
                  have ne_b55_b111 : b55 ≠ b111 := Nat.ne_of_lt (y111.symm ▸ V_b55.lt)
                  have O0 := O0.ext E111
                  have V_b46 := V_b46.ext E111
                  have V_b47 := V_b47.ext E111
                  have V_b49 := V_b49.ext E111
                  have V_b50 := V_b50.ext E111
                  have V_b54 := V_b54.ext E111
                  have V_b55 := V_b55.ext E111
                  have KF110 := KF110.ext E111
                  have E_b111 := A111
                  have F_coder_b111 : Fld Z h111 b111 "java/lang/String" "coder" "B" (.int (0 : Int32)) := D111 (Or.inr (wd hw 32 rfl)) (ty := .byte) (by decide)
                  have F_value_b111 : Fld Z h111 b111 "java/lang/String" "value" "[B" .null := D111 (Or.inr (wd hw 34 rfl)) (ty := (.array .byte)) (by decide)
                  refine go st111 ?_
                  show Run p e below _ (T111.setTop (mkF m 233 #[.val (.int p0), .val (.int p1), .val (.int p2), .val (.int p3), .val (.int (p0 &&& (65535 : Int32))), .val (.int vs), .val (.ref b46), .val (.ref b47), .val (.int (p1 &&& (65535 : Int32))), .val (.int vi), .val (.ref b49), .val (.ref b50), .val (.int f12), .val (.int f13), .val (.int (p2 &&& (65535 : Int32))), .val (.int vk), .val (.ref b54), .val (.ref b55), .val (.int f18), .val (.int f19), .unset, .unset, .unset, .unset, .unset, .unset, .unset] [(.ref b111)]))
                  refine go (fun _ => XS.dup X111.here hx rfl (hb hby at_233) rfl rfl) ?_
                  show Run p e below _ (T111.setTop (mkF m 234 #[.val (.int p0), .val (.int p1), .val (.int p2), .val (.int p3), .val (.int (p0 &&& (65535 : Int32))), .val (.int vs), .val (.ref b46), .val (.ref b47), .val (.int (p1 &&& (65535 : Int32))), .val (.int vi), .val (.ref b49), .val (.ref b50), .val (.int f12), .val (.int f13), .val (.int (p2 &&& (65535 : Int32))), .val (.int vk), .val (.ref b54), .val (.ref b55), .val (.int f18), .val (.int f19), .unset, .unset, .unset, .unset, .unset, .unset, .unset] [(.ref b111), (.ref b111)]))
                  refine go (fun _ => XS.aload X111.here hx rfl (hb hby at_234) rfl rfl) ?_
                  show Run p e below _ (T111.setTop (mkF m 236 #[.val (.int p0), .val (.int p1), .val (.int p2), .val (.int p3), .val (.int (p0 &&& (65535 : Int32))), .val (.int vs), .val (.ref b46), .val (.ref b47), .val (.int (p1 &&& (65535 : Int32))), .val (.int vi), .val (.ref b49), .val (.ref b50), .val (.int f12), .val (.int f13), .val (.int (p2 &&& (65535 : Int32))), .val (.int vk), .val (.ref b54), .val (.ref b55), .val (.int f18), .val (.int f19), .unset, .unset, .unset, .unset, .unset, .unset, .unset] [(.ref b49), (.ref b111), (.ref b111)]))
                  refine callSpK X111 hx hZ rfl hown (wd hw 9 rfl) (wd hw 10 rfl) (wd hw 11 rfl) (by decide) e111 (a := b111) (argsL := [(.ref b49)]) (rest := [(.ref b111)]) (W := 1) ((payNew (cs := c49) hZ hw (wd hw 7 rfl) O0 g_b111 E_b111 F_value_b111 F_coder_b111 V_b49 S_COMPACT_STRINGS hzc rfl rfl (len12 M49).1 (Nat.le_trans (len12 M49).2 (by decide)) I49 (by decide) (by decide)).more (len12 M49).2) (by decide) (by decide) (by rw [hml]; rfl) (lenOf pd_4 rfl) rfl (Nat.le_of_eq rfl) (hb hby at_236) ?_
                  intro v112 T112 L112 h112 X112 e112 q112
                  have lt113_b46 := V_b46.lt
                  have lt113_b47 := V_b47.lt
                  have lt113_b49 := V_b49.lt
                  have lt113_b50 := V_b50.lt
                  have lt113_b54 := V_b54.lt
                  have lt113_b55 := V_b55.lt
                  have lt113_b111 := E_b111.lt
                  obtain ⟨rfl, n112, K112, t112, kb112, gt112, sb112, nt112, T_b111⟩ := q112
                  have szf_t112 : h55.size ≤ t112 := Nat.le_trans KF110.1 sb112
                  have ne_b46_t112 : b46 ≠ t112 := Nat.ne_of_lt (Nat.lt_of_lt_of_le lt113_b46 sb112)
                  have ne_b47_t112 : b47 ≠ t112 := Nat.ne_of_lt (Nat.lt_of_lt_of_le lt113_b47 sb112)
                  have ne_b49_t112 : b49 ≠ t112 := Nat.ne_of_lt (Nat.lt_of_lt_of_le lt113_b49 sb112)
                  have ne_b50_t112 : b50 ≠ t112 := Nat.ne_of_lt (Nat.lt_of_lt_of_le lt113_b50 sb112)
                  have ne_b54_t112 : b54 ≠ t112 := Nat.ne_of_lt (Nat.lt_of_lt_of_le lt113_b54 sb112)
                  have ne_b55_t112 : b55 ≠ t112 := Nat.ne_of_lt (Nat.lt_of_lt_of_le lt113_b55 sb112)
                  have ne_b111_t112 : b111 ≠ t112 := Nat.ne_of_lt (Nat.lt_of_lt_of_le lt113_b111 sb112)
                  have O0 := O0.keep K112 (allS g_b111 all0)
                  have V_b46 := V_b46.keep K112 (ninS ne_b46_b111 nin0)
                  have V_b47 := V_b47.keep K112 (ninS ne_b47_b111 nin0)
                  have V_b49 := V_b49.keep K112 (ninS ne_b49_b111 nin0)
                  have V_b50 := V_b50.keep K112 (ninS ne_b50_b111 nin0)
                  have V_b54 := V_b54.keep K112 (ninS ne_b54_b111 nin0)
                  have V_b55 := V_b55.keep K112 (ninS ne_b55_b111 nin0)
                  have KF110 := KF110.trans K112 (allS (Or.inr szf_b111) all0)
                  have N112 := Fr.app N57 n112
                  show Run p e below _ (T112.setTop (mkF m 239 #[.val (.int p0), .val (.int p1), .val (.int p2), .val (.int p3), .val (.int (p0 &&& (65535 : Int32))), .val (.int vs), .val (.ref b46), .val (.ref b47), .val (.int (p1 &&& (65535 : Int32))), .val (.int vi), .val (.ref b49), .val (.ref b50), .val (.int f12), .val (.int f13), .val (.int (p2 &&& (65535 : Int32))), .val (.int vk), .val (.ref b54), .val (.ref b55), .val (.int f18), .val (.int f19), .unset, .unset, .unset, .unset, .unset, .unset, .unset] [(.ref b111)]))
                  have Hn : OS Z h112 (.ref b111) (some c49) := Or.inr ⟨b111, t112, kb112, c49, rfl, rfl, T_b111, I49, (Nat.le_trans (len12 M49).2 (by decide))⟩
                  exact J239 _ _ _ (smono X112 (by decide) (by decide)) e112 N112 (.ref b111) (some c49) O0 V_b46 V_b47 V_b49 V_b50 V_b54 V_b55 Hn (by rw [if_pos c109])
                · skip
                  refine go (fun _ => XS.ifNo X57.here hx rfl (hb hby at_223) rfl ((if0 _ _).trans (feq c109).1)) ?_
                  show Run p e below _ (T57.setTop (mkF m 226 #[.val (.int p0), .val (.int p1), .val (.int p2), .val (.int p3), .val (.int (p0 &&& (65535 : Int32))), .val (.int vs), .val (.ref b46), .val (.ref b47), .val (.int (p1 &&& (65535 : Int32))), .val (.int vi), .val (.ref b49), .val (.ref b50), .val (.int f12), .val (.int f13), .val (.int (p2 &&& (65535 : Int32))), .val (.int vk), .val (.ref b54), .val (.ref b55), .val (.int f18), .val (.int f19), .unset, .unset, .unset, .unset, .unset, .unset, .unset] []))
                  refine go (fun _ => XS.aconstNull X57.here hx rfl (hb hby at_226)) ?_
                  show Run p e below _ (T57.setTop (mkF m 227 #[.val (.int p0), .val (.int p1), .val (.int p2), .val (.int p3), .val (.int (p0 &&& (65535 : Int32))), .val (.int vs), .val (.ref b46), .val (.ref b47), .val (.int (p1 &&& (65535 : Int32))), .val (.int vi), .val (.ref b49), .val (.ref b50), .val (.int f12), .val (.int f13), .val (.int (p2 &&& (65535 : Int32))), .val (.int vk), .val (.ref b54), .val (.ref b55), .val (.int f18), .val (.int f19), .unset, .unset, .unset, .unset, .unset, .unset, .unset] [.null]))
                  refine go (fun _ => XS.goto X57.here hx rfl (pc0 := 227) (pc' := 239) rfl (hb hby at_227) (by decide) (by decide)) ?_
                  show Run p e below _ (T57.setTop (mkF m 239 #[.val (.int p0), .val (.int p1), .val (.int p2), .val (.int p3), .val (.int (p0 &&& (65535 : Int32))), .val (.int vs), .val (.ref b46), .val (.ref b47), .val (.int (p1 &&& (65535 : Int32))), .val (.int vi), .val (.ref b49), .val (.ref b50), .val (.int f12), .val (.int f13), .val (.int (p2 &&& (65535 : Int32))), .val (.int vk), .val (.ref b54), .val (.ref b55), .val (.int f18), .val (.int f19), .unset, .unset, .unset, .unset, .unset, .unset, .unset] [.null]))
                  have Hn : OS Z h55 .null none := Or.inl ⟨rfl, rfl⟩
                  exact J239 _ _ _ (smono X57 (by decide) (by decide)) e57 N57 .null none O0 V_b46 V_b47 V_b49 V_b50 V_b54 V_b55 Hn (by rw [if_neg c109])
              by_cases c114 : (((p3.toUInt32 >>> ((12 : Int32) &&& 31).toUInt32).toInt32) &&& (1 : Int32)) = 0
              · skip
                refine go (fun _ => XS.ifYes X56.here hx rfl (pc0 := 211) (pc' := 218) rfl (hb hby at_211) rfl ((if0 _ _).trans (teq c114).1) (by decide) (by decide)) ?_
                show Run p e below _ (T56.setTop (mkF m 218 #[.val (.int p0), .val (.int p1), .val (.int p2), .val (.int p3), .val (.int (p0 &&& (65535 : Int32))), .val (.int vs), .val (.ref b46), .val (.ref b47), .val (.int (p1 &&& (65535 : Int32))), .val (.int vi), .val (.ref b49), .val (.ref b50), .val (.int f12), .val (.int f13), .val (.int (p2 &&& (65535 : Int32))), .val (.int vk), .val (.ref b54), .val (.ref b55), .val (.int f18), .unset, .unset, .unset, .unset, .unset, .unset, .unset, .unset] []))
                refine go (fun _ => XS.iconst X56.here hx rfl (hb hby at_218)) ?_
                show Run p e below _ (T56.setTop (mkF m 219 #[.val (.int p0), .val (.int p1), .val (.int p2), .val (.int p3), .val (.int (p0 &&& (65535 : Int32))), .val (.int vs), .val (.ref b46), .val (.ref b47), .val (.int (p1 &&& (65535 : Int32))), .val (.int vi), .val (.ref b49), .val (.ref b50), .val (.int f12), .val (.int f13), .val (.int (p2 &&& (65535 : Int32))), .val (.int vk), .val (.ref b54), .val (.ref b55), .val (.int f18), .unset, .unset, .unset, .unset, .unset, .unset, .unset, .unset] [(.int (0 : Int32))]))
                exact J219 _ _ X56 e56 N56 (0 : Int32)  
              · skip
                refine go (fun _ => XS.ifNo X56.here hx rfl (hb hby at_211) rfl ((if0 _ _).trans (feq c114).1)) ?_
                show Run p e below _ (T56.setTop (mkF m 214 #[.val (.int p0), .val (.int p1), .val (.int p2), .val (.int p3), .val (.int (p0 &&& (65535 : Int32))), .val (.int vs), .val (.ref b46), .val (.ref b47), .val (.int (p1 &&& (65535 : Int32))), .val (.int vi), .val (.ref b49), .val (.ref b50), .val (.int f12), .val (.int f13), .val (.int (p2 &&& (65535 : Int32))), .val (.int vk), .val (.ref b54), .val (.ref b55), .val (.int f18), .unset, .unset, .unset, .unset, .unset, .unset, .unset, .unset] []))
                refine go (fun _ => XS.iconst X56.here hx rfl (hb hby at_214)) ?_
                show Run p e below _ (T56.setTop (mkF m 215 #[.val (.int p0), .val (.int p1), .val (.int p2), .val (.int p3), .val (.int (p0 &&& (65535 : Int32))), .val (.int vs), .val (.ref b46), .val (.ref b47), .val (.int (p1 &&& (65535 : Int32))), .val (.int vi), .val (.ref b49), .val (.ref b50), .val (.int f12), .val (.int f13), .val (.int (p2 &&& (65535 : Int32))), .val (.int vk), .val (.ref b54), .val (.ref b55), .val (.int f18), .unset, .unset, .unset, .unset, .unset, .unset, .unset, .unset] [(.int (1 : Int32))]))
                refine go (fun _ => XS.goto X56.here hx rfl (pc0 := 215) (pc' := 219) rfl (hb hby at_215) (by decide) (by decide)) ?_
                show Run p e below _ (T56.setTop (mkF m 219 #[.val (.int p0), .val (.int p1), .val (.int p2), .val (.int p3), .val (.int (p0 &&& (65535 : Int32))), .val (.int vs), .val (.ref b46), .val (.ref b47), .val (.int (p1 &&& (65535 : Int32))), .val (.int vi), .val (.ref b49), .val (.ref b50), .val (.int f12), .val (.int f13), .val (.int (p2 &&& (65535 : Int32))), .val (.int vk), .val (.ref b54), .val (.ref b55), .val (.int f18), .unset, .unset, .unset, .unset, .unset, .unset, .unset, .unset] [(.int (1 : Int32))]))
                exact J219 _ _ X56 e56 N56 (1 : Int32)  
            by_cases c115 : (((p3.toUInt32 >>> ((11 : Int32) &&& 31).toUInt32).toInt32) &&& (1 : Int32)) = 0
            · skip
              refine go (fun _ => XS.ifYes X55.here hx rfl (pc0 := 195) (pc' := 202) rfl (hb hby at_195) rfl ((if0 _ _).trans (teq c115).1) (by decide) (by decide)) ?_
              show Run p e below _ (T55.setTop (mkF m 202 #[.val (.int p0), .val (.int p1), .val (.int p2), .val (.int p3), .val (.int (p0 &&& (65535 : Int32))), .val (.int vs), .val (.ref b46), .val (.ref b47), .val (.int (p1 &&& (65535 : Int32))), .val (.int vi), .val (.ref b49), .val (.ref b50), .val (.int f12), .val (.int f13), .val (.int (p2 &&& (65535 : Int32))), .val (.int vk), .val (.ref b54), .val (.ref b55), .unset, .unset, .unset, .unset, .unset, .unset, .unset, .unset, .unset] []))
              refine go (fun _ => XS.iconst X55.here hx rfl (hb hby at_202)) ?_
              show Run p e below _ (T55.setTop (mkF m 203 #[.val (.int p0), .val (.int p1), .val (.int p2), .val (.int p3), .val (.int (p0 &&& (65535 : Int32))), .val (.int vs), .val (.ref b46), .val (.ref b47), .val (.int (p1 &&& (65535 : Int32))), .val (.int vi), .val (.ref b49), .val (.ref b50), .val (.int f12), .val (.int f13), .val (.int (p2 &&& (65535 : Int32))), .val (.int vk), .val (.ref b54), .val (.ref b55), .unset, .unset, .unset, .unset, .unset, .unset, .unset, .unset, .unset] [(.int (0 : Int32))]))
              exact J203 _ _ X55 e55 N55 (0 : Int32)  
            · skip
              refine go (fun _ => XS.ifNo X55.here hx rfl (hb hby at_195) rfl ((if0 _ _).trans (feq c115).1)) ?_
              show Run p e below _ (T55.setTop (mkF m 198 #[.val (.int p0), .val (.int p1), .val (.int p2), .val (.int p3), .val (.int (p0 &&& (65535 : Int32))), .val (.int vs), .val (.ref b46), .val (.ref b47), .val (.int (p1 &&& (65535 : Int32))), .val (.int vi), .val (.ref b49), .val (.ref b50), .val (.int f12), .val (.int f13), .val (.int (p2 &&& (65535 : Int32))), .val (.int vk), .val (.ref b54), .val (.ref b55), .unset, .unset, .unset, .unset, .unset, .unset, .unset, .unset, .unset] []))
              refine go (fun _ => XS.iconst X55.here hx rfl (hb hby at_198)) ?_
              show Run p e below _ (T55.setTop (mkF m 199 #[.val (.int p0), .val (.int p1), .val (.int p2), .val (.int p3), .val (.int (p0 &&& (65535 : Int32))), .val (.int vs), .val (.ref b46), .val (.ref b47), .val (.int (p1 &&& (65535 : Int32))), .val (.int vi), .val (.ref b49), .val (.ref b50), .val (.int f12), .val (.int f13), .val (.int (p2 &&& (65535 : Int32))), .val (.int vk), .val (.ref b54), .val (.ref b55), .unset, .unset, .unset, .unset, .unset, .unset, .unset, .unset, .unset] [(.int (1 : Int32))]))
              refine go (fun _ => XS.goto X55.here hx rfl (pc0 := 199) (pc' := 203) rfl (hb hby at_199) (by decide) (by decide)) ?_
              show Run p e below _ (T55.setTop (mkF m 203 #[.val (.int p0), .val (.int p1), .val (.int p2), .val (.int p3), .val (.int (p0 &&& (65535 : Int32))), .val (.int vs), .val (.ref b46), .val (.ref b47), .val (.int (p1 &&& (65535 : Int32))), .val (.int vi), .val (.ref b49), .val (.ref b50), .val (.int f12), .val (.int f13), .val (.int (p2 &&& (65535 : Int32))), .val (.int vk), .val (.ref b54), .val (.ref b55), .unset, .unset, .unset, .unset, .unset, .unset, .unset, .unset, .unset] [(.int (1 : Int32))]))
              exact J203 _ _ X55 e55 N55 (1 : Int32)  
          by_cases c116 : (((p3.toUInt32 >>> ((10 : Int32) &&& 31).toUInt32).toInt32) &&& (1 : Int32)) = 0
          · skip
            refine go (fun _ => XS.ifYes X52.here hx rfl (pc0 := 146) (pc' := 154) rfl (hb hby at_146) rfl ((if0 _ _).trans (teq c116).1) (by decide) (by decide)) ?_
            show Run p e below _ (T52.setTop (mkF m 154 #[.val (.int p0), .val (.int p1), .val (.int p2), .val (.int p3), .val (.int (p0 &&& (65535 : Int32))), .val (.int vs), .val (.ref b46), .val (.ref b47), .val (.int (p1 &&& (65535 : Int32))), .val (.int vi), .val (.ref b49), .val (.ref b50), .val (.int f12), .val (.int f13), .val (.int (p2 &&& (65535 : Int32))), .unset, .unset, .unset, .unset, .unset, .unset, .unset, .unset, .unset, .unset, .unset, .unset] []))
            refine go (fun _ => XS.iloadN X52.here hx rfl (hb hby at_154) rfl) ?_
            show Run p e below _ (T52.setTop (mkF m 155 #[.val (.int p0), .val (.int p1), .val (.int p2), .val (.int p3), .val (.int (p0 &&& (65535 : Int32))), .val (.int vs), .val (.ref b46), .val (.ref b47), .val (.int (p1 &&& (65535 : Int32))), .val (.int vi), .val (.ref b49), .val (.ref b50), .val (.int f12), .val (.int f13), .val (.int (p2 &&& (65535 : Int32))), .unset, .unset, .unset, .unset, .unset, .unset, .unset, .unset, .unset, .unset, .unset, .unset] [(.int p2)]))
            refine go (fun _ => XS.bipush X52.here hx rfl (hb hby at_155)) ?_
            show Run p e below _ (T52.setTop (mkF m 157 #[.val (.int p0), .val (.int p1), .val (.int p2), .val (.int p3), .val (.int (p0 &&& (65535 : Int32))), .val (.int vs), .val (.ref b46), .val (.ref b47), .val (.int (p1 &&& (65535 : Int32))), .val (.int vi), .val (.ref b49), .val (.ref b50), .val (.int f12), .val (.int f13), .val (.int (p2 &&& (65535 : Int32))), .unset, .unset, .unset, .unset, .unset, .unset, .unset, .unset, .unset, .unset, .unset, .unset] [(.int (16 : Int32)), (.int p2)]))
            refine go (fun _ => XS.iushr X52.here hx rfl (hb hby at_157) rfl) ?_
            show Run p e below _ (T52.setTop (mkF m 158 #[.val (.int p0), .val (.int p1), .val (.int p2), .val (.int p3), .val (.int (p0 &&& (65535 : Int32))), .val (.int vs), .val (.ref b46), .val (.ref b47), .val (.int (p1 &&& (65535 : Int32))), .val (.int vi), .val (.ref b49), .val (.ref b50), .val (.int f12), .val (.int f13), .val (.int (p2 &&& (65535 : Int32))), .unset, .unset, .unset, .unset, .unset, .unset, .unset, .unset, .unset, .unset, .unset, .unset] [(.int ((p2.toUInt32 >>> ((16 : Int32) &&& 31).toUInt32).toInt32))]))
            refine go (fun _ => X52.ldcI hx hown (mvT hZ (wd hw 0 rfl)) rfl (hb hby at_158)) ?_
            show Run p e below _ (T52.setTop (mkF m 160 #[.val (.int p0), .val (.int p1), .val (.int p2), .val (.int p3), .val (.int (p0 &&& (65535 : Int32))), .val (.int vs), .val (.ref b46), .val (.ref b47), .val (.int (p1 &&& (65535 : Int32))), .val (.int vi), .val (.ref b49), .val (.ref b50), .val (.int f12), .val (.int f13), .val (.int (p2 &&& (65535 : Int32))), .unset, .unset, .unset, .unset, .unset, .unset, .unset, .unset, .unset, .unset, .unset, .unset] [(.int (65535 : Int32)), (.int ((p2.toUInt32 >>> ((16 : Int32) &&& 31).toUInt32).toInt32))]))
            refine go (fun _ => XS.iand X52.here hx rfl (hb hby at_160) rfl) ?_
            show Run p e below _ (T52.setTop (mkF m 161 #[.val (.int p0), .val (.int p1), .val (.int p2), .val (.int p3), .val (.int (p0 &&& (65535 : Int32))), .val (.int vs), .val (.ref b46), .val (.ref b47), .val (.int (p1 &&& (65535 : Int32))), .val (.int vi), .val (.ref b49), .val (.ref b50), .val (.int f12), .val (.int f13), .val (.int (p2 &&& (65535 : Int32))), .unset, .unset, .unset, .unset, .unset, .unset, .unset, .unset, .unset, .unset, .unset, .unset] [(.int (((p2.toUInt32 >>> ((16 : Int32) &&& 31).toUInt32).toInt32) &&& (65535 : Int32)))]))
            exact J161 _ _ X52 e52 N52 (((p2.toUInt32 >>> ((16 : Int32) &&& 31).toUInt32).toInt32) &&& (65535 : Int32))  
          · skip
            refine go (fun _ => XS.ifNo X52.here hx rfl (hb hby at_146) rfl ((if0 _ _).trans (feq c116).1)) ?_
            show Run p e below _ (T52.setTop (mkF m 149 #[.val (.int p0), .val (.int p1), .val (.int p2), .val (.int p3), .val (.int (p0 &&& (65535 : Int32))), .val (.int vs), .val (.ref b46), .val (.ref b47), .val (.int (p1 &&& (65535 : Int32))), .val (.int vi), .val (.ref b49), .val (.ref b50), .val (.int f12), .val (.int f13), .val (.int (p2 &&& (65535 : Int32))), .unset, .unset, .unset, .unset, .unset, .unset, .unset, .unset, .unset, .unset, .unset, .unset] []))
            refine go (fun _ => XS.iload X52.here hx rfl (hb hby at_149) rfl) ?_
            show Run p e below _ (T52.setTop (mkF m 151 #[.val (.int p0), .val (.int p1), .val (.int p2), .val (.int p3), .val (.int (p0 &&& (65535 : Int32))), .val (.int vs), .val (.ref b46), .val (.ref b47), .val (.int (p1 &&& (65535 : Int32))), .val (.int vi), .val (.ref b49), .val (.ref b50), .val (.int f12), .val (.int f13), .val (.int (p2 &&& (65535 : Int32))), .unset, .unset, .unset, .unset, .unset, .unset, .unset, .unset, .unset, .unset, .unset, .unset] [(.int (p2 &&& (65535 : Int32)))]))
            refine go (fun _ => XS.goto X52.here hx rfl (pc0 := 151) (pc' := 161) rfl (hb hby at_151) (by decide) (by decide)) ?_
            show Run p e below _ (T52.setTop (mkF m 161 #[.val (.int p0), .val (.int p1), .val (.int p2), .val (.int p3), .val (.int (p0 &&& (65535 : Int32))), .val (.int vs), .val (.ref b46), .val (.ref b47), .val (.int (p1 &&& (65535 : Int32))), .val (.int vi), .val (.ref b49), .val (.ref b50), .val (.int f12), .val (.int f13), .val (.int (p2 &&& (65535 : Int32))), .unset, .unset, .unset, .unset, .unset, .unset, .unset, .unset, .unset, .unset, .unset, .unset] [(.int (p2 &&& (65535 : Int32)))]))
            exact J161 _ _ X52 e52 N52 (p2 &&& (65535 : Int32))  
        by_cases c117 : (((p3.toUInt32 >>> ((7 : Int32) &&& 31).toUInt32).toInt32) &&& (1 : Int32)) = 0
        · skip
          refine go (fun _ => XS.ifYes X51.here hx rfl (pc0 := 124) (pc' := 131) rfl (hb hby at_124) rfl ((if0 _ _).trans (teq c117).1) (by decide) (by decide)) ?_
          show Run p e below _ (T51.setTop (mkF m 131 #[.val (.int p0), .val (.int p1), .val (.int p2), .val (.int p3), .val (.int (p0 &&& (65535 : Int32))), .val (.int vs), .val (.ref b46), .val (.ref b47), .val (.int (p1 &&& (65535 : Int32))), .val (.int vi), .val (.ref b49), .val (.ref b50), .val (.int f12), .unset, .unset, .unset, .unset, .unset, .unset, .unset, .unset, .unset, .unset, .unset, .unset, .unset, .unset] []))
          refine go (fun _ => XS.iconst X51.here hx rfl (hb hby at_131)) ?_
          show Run p e below _ (T51.setTop (mkF m 132 #[.val (.int p0), .val (.int p1), .val (.int p2), .val (.int p3), .val (.int (p0 &&& (65535 : Int32))), .val (.int vs), .val (.ref b46), .val (.ref b47), .val (.int (p1 &&& (65535 : Int32))), .val (.int vi), .val (.ref b49), .val (.ref b50), .val (.int f12), .unset, .unset, .unset, .unset, .unset, .unset, .unset, .unset, .unset, .unset, .unset, .unset, .unset, .unset] [(.int (0 : Int32))]))
          exact J132 _ _ X51 e51 N51 (0 : Int32)  
        · skip
          refine go (fun _ => XS.ifNo X51.here hx rfl (hb hby at_124) rfl ((if0 _ _).trans (feq c117).1)) ?_
          show Run p e below _ (T51.setTop (mkF m 127 #[.val (.int p0), .val (.int p1), .val (.int p2), .val (.int p3), .val (.int (p0 &&& (65535 : Int32))), .val (.int vs), .val (.ref b46), .val (.ref b47), .val (.int (p1 &&& (65535 : Int32))), .val (.int vi), .val (.ref b49), .val (.ref b50), .val (.int f12), .unset, .unset, .unset, .unset, .unset, .unset, .unset, .unset, .unset, .unset, .unset, .unset, .unset, .unset] []))
          refine go (fun _ => XS.iconst X51.here hx rfl (hb hby at_127)) ?_
          show Run p e below _ (T51.setTop (mkF m 128 #[.val (.int p0), .val (.int p1), .val (.int p2), .val (.int p3), .val (.int (p0 &&& (65535 : Int32))), .val (.int vs), .val (.ref b46), .val (.ref b47), .val (.int (p1 &&& (65535 : Int32))), .val (.int vi), .val (.ref b49), .val (.ref b50), .val (.int f12), .unset, .unset, .unset, .unset, .unset, .unset, .unset, .unset, .unset, .unset, .unset, .unset, .unset, .unset] [(.int (1 : Int32))]))
          refine go (fun _ => XS.goto X51.here hx rfl (pc0 := 128) (pc' := 132) rfl (hb hby at_128) (by decide) (by decide)) ?_
          show Run p e below _ (T51.setTop (mkF m 132 #[.val (.int p0), .val (.int p1), .val (.int p2), .val (.int p3), .val (.int (p0 &&& (65535 : Int32))), .val (.int vs), .val (.ref b46), .val (.ref b47), .val (.int (p1 &&& (65535 : Int32))), .val (.int vi), .val (.ref b49), .val (.ref b50), .val (.int f12), .unset, .unset, .unset, .unset, .unset, .unset, .unset, .unset, .unset, .unset, .unset, .unset, .unset, .unset] [(.int (1 : Int32))]))
          exact J132 _ _ X51 e51 N51 (1 : Int32)  
      by_cases c118 : (((p3.toUInt32 >>> ((6 : Int32) &&& 31).toUInt32).toInt32) &&& (1 : Int32)) = 0
      · skip
        refine go (fun _ => XS.ifYes X50.here hx rfl (pc0 := 108) (pc' := 115) rfl (hb hby at_108) rfl ((if0 _ _).trans (teq c118).1) (by decide) (by decide)) ?_
        show Run p e below _ (T50.setTop (mkF m 115 #[.val (.int p0), .val (.int p1), .val (.int p2), .val (.int p3), .val (.int (p0 &&& (65535 : Int32))), .val (.int vs), .val (.ref b46), .val (.ref b47), .val (.int (p1 &&& (65535 : Int32))), .val (.int vi), .val (.ref b49), .val (.ref b50), .unset, .unset, .unset, .unset, .unset, .unset, .unset, .unset, .unset, .unset, .unset, .unset, .unset, .unset, .unset] []))
        refine go (fun _ => XS.iconst X50.here hx rfl (hb hby at_115)) ?_
        show Run p e below _ (T50.setTop (mkF m 116 #[.val (.int p0), .val (.int p1), .val (.int p2), .val (.int p3), .val (.int (p0 &&& (65535 : Int32))), .val (.int vs), .val (.ref b46), .val (.ref b47), .val (.int (p1 &&& (65535 : Int32))), .val (.int vi), .val (.ref b49), .val (.ref b50), .unset, .unset, .unset, .unset, .unset, .unset, .unset, .unset, .unset, .unset, .unset, .unset, .unset, .unset, .unset] [(.int (0 : Int32))]))
        exact J116 _ _ X50 e50 N50 (0 : Int32)  
      · skip
        refine go (fun _ => XS.ifNo X50.here hx rfl (hb hby at_108) rfl ((if0 _ _).trans (feq c118).1)) ?_
        show Run p e below _ (T50.setTop (mkF m 111 #[.val (.int p0), .val (.int p1), .val (.int p2), .val (.int p3), .val (.int (p0 &&& (65535 : Int32))), .val (.int vs), .val (.ref b46), .val (.ref b47), .val (.int (p1 &&& (65535 : Int32))), .val (.int vi), .val (.ref b49), .val (.ref b50), .unset, .unset, .unset, .unset, .unset, .unset, .unset, .unset, .unset, .unset, .unset, .unset, .unset, .unset, .unset] []))
        refine go (fun _ => XS.iconst X50.here hx rfl (hb hby at_111)) ?_
        show Run p e below _ (T50.setTop (mkF m 112 #[.val (.int p0), .val (.int p1), .val (.int p2), .val (.int p3), .val (.int (p0 &&& (65535 : Int32))), .val (.int vs), .val (.ref b46), .val (.ref b47), .val (.int (p1 &&& (65535 : Int32))), .val (.int vi), .val (.ref b49), .val (.ref b50), .unset, .unset, .unset, .unset, .unset, .unset, .unset, .unset, .unset, .unset, .unset, .unset, .unset, .unset, .unset] [(.int (1 : Int32))]))
        refine go (fun _ => XS.goto X50.here hx rfl (pc0 := 112) (pc' := 116) rfl (hb hby at_112) (by decide) (by decide)) ?_
        show Run p e below _ (T50.setTop (mkF m 116 #[.val (.int p0), .val (.int p1), .val (.int p2), .val (.int p3), .val (.int (p0 &&& (65535 : Int32))), .val (.int vs), .val (.ref b46), .val (.ref b47), .val (.int (p1 &&& (65535 : Int32))), .val (.int vi), .val (.ref b49), .val (.ref b50), .unset, .unset, .unset, .unset, .unset, .unset, .unset, .unset, .unset, .unset, .unset, .unset, .unset, .unset, .unset] [(.int (1 : Int32))]))
        exact J116 _ _ X50 e50 N50 (1 : Int32)  
    by_cases c119 : (((p3.toUInt32 >>> ((5 : Int32) &&& 31).toUInt32).toInt32) &&& (1 : Int32)) = 0
    · skip
      refine go (fun _ => XS.ifYes X47.here hx rfl (pc0 := 61) (pc' := 69) rfl (hb hby at_61) rfl ((if0 _ _).trans (teq c119).1) (by decide) (by decide)) ?_
      show Run p e below _ (T47.setTop (mkF m 69 #[.val (.int p0), .val (.int p1), .val (.int p2), .val (.int p3), .val (.int (p0 &&& (65535 : Int32))), .val (.int vs), .val (.ref b46), .val (.ref b47), .val (.int (p1 &&& (65535 : Int32))), .unset, .unset, .unset, .unset, .unset, .unset, .unset, .unset, .unset, .unset, .unset, .unset, .unset, .unset, .unset, .unset, .unset, .unset] []))
      refine go (fun _ => XS.iloadN X47.here hx rfl (hb hby at_69) rfl) ?_
      show Run p e below _ (T47.setTop (mkF m 70 #[.val (.int p0), .val (.int p1), .val (.int p2), .val (.int p3), .val (.int (p0 &&& (65535 : Int32))), .val (.int vs), .val (.ref b46), .val (.ref b47), .val (.int (p1 &&& (65535 : Int32))), .unset, .unset, .unset, .unset, .unset, .unset, .unset, .unset, .unset, .unset, .unset, .unset, .unset, .unset, .unset, .unset, .unset, .unset] [(.int p1)]))
      refine go (fun _ => XS.bipush X47.here hx rfl (hb hby at_70)) ?_
      show Run p e below _ (T47.setTop (mkF m 72 #[.val (.int p0), .val (.int p1), .val (.int p2), .val (.int p3), .val (.int (p0 &&& (65535 : Int32))), .val (.int vs), .val (.ref b46), .val (.ref b47), .val (.int (p1 &&& (65535 : Int32))), .unset, .unset, .unset, .unset, .unset, .unset, .unset, .unset, .unset, .unset, .unset, .unset, .unset, .unset, .unset, .unset, .unset, .unset] [(.int (16 : Int32)), (.int p1)]))
      refine go (fun _ => XS.iushr X47.here hx rfl (hb hby at_72) rfl) ?_
      show Run p e below _ (T47.setTop (mkF m 73 #[.val (.int p0), .val (.int p1), .val (.int p2), .val (.int p3), .val (.int (p0 &&& (65535 : Int32))), .val (.int vs), .val (.ref b46), .val (.ref b47), .val (.int (p1 &&& (65535 : Int32))), .unset, .unset, .unset, .unset, .unset, .unset, .unset, .unset, .unset, .unset, .unset, .unset, .unset, .unset, .unset, .unset, .unset, .unset] [(.int ((p1.toUInt32 >>> ((16 : Int32) &&& 31).toUInt32).toInt32))]))
      refine go (fun _ => X47.ldcI hx hown (mvT hZ (wd hw 0 rfl)) rfl (hb hby at_73)) ?_
      show Run p e below _ (T47.setTop (mkF m 75 #[.val (.int p0), .val (.int p1), .val (.int p2), .val (.int p3), .val (.int (p0 &&& (65535 : Int32))), .val (.int vs), .val (.ref b46), .val (.ref b47), .val (.int (p1 &&& (65535 : Int32))), .unset, .unset, .unset, .unset, .unset, .unset, .unset, .unset, .unset, .unset, .unset, .unset, .unset, .unset, .unset, .unset, .unset, .unset] [(.int (65535 : Int32)), (.int ((p1.toUInt32 >>> ((16 : Int32) &&& 31).toUInt32).toInt32))]))
      refine go (fun _ => XS.iand X47.here hx rfl (hb hby at_75) rfl) ?_
      show Run p e below _ (T47.setTop (mkF m 76 #[.val (.int p0), .val (.int p1), .val (.int p2), .val (.int p3), .val (.int (p0 &&& (65535 : Int32))), .val (.int vs), .val (.ref b46), .val (.ref b47), .val (.int (p1 &&& (65535 : Int32))), .unset, .unset, .unset, .unset, .unset, .unset, .unset, .unset, .unset, .unset, .unset, .unset, .unset, .unset, .unset, .unset, .unset, .unset] [(.int (((p1.toUInt32 >>> ((16 : Int32) &&& 31).toUInt32).toInt32) &&& (65535 : Int32)))]))
      exact J76 _ _ X47 e47 N47 (((p1.toUInt32 >>> ((16 : Int32) &&& 31).toUInt32).toInt32) &&& (65535 : Int32))  
    · skip
      refine go (fun _ => XS.ifNo X47.here hx rfl (hb hby at_61) rfl ((if0 _ _).trans (feq c119).1)) ?_
      show Run p e below _ (T47.setTop (mkF m 64 #[.val (.int p0), .val (.int p1), .val (.int p2), .val (.int p3), .val (.int (p0 &&& (65535 : Int32))), .val (.int vs), .val (.ref b46), .val (.ref b47), .val (.int (p1 &&& (65535 : Int32))), .unset, .unset, .unset, .unset, .unset, .unset, .unset, .unset, .unset, .unset, .unset, .unset, .unset, .unset, .unset, .unset, .unset, .unset] []))
      refine go (fun _ => XS.iload X47.here hx rfl (hb hby at_64) rfl) ?_
      show Run p e below _ (T47.setTop (mkF m 66 #[.val (.int p0), .val (.int p1), .val (.int p2), .val (.int p3), .val (.int (p0 &&& (65535 : Int32))), .val (.int vs), .val (.ref b46), .val (.ref b47), .val (.int (p1 &&& (65535 : Int32))), .unset, .unset, .unset, .unset, .unset, .unset, .unset, .unset, .unset, .unset, .unset, .unset, .unset, .unset, .unset, .unset, .unset, .unset] [(.int (p1 &&& (65535 : Int32)))]))
      refine go (fun _ => XS.goto X47.here hx rfl (pc0 := 66) (pc' := 76) rfl (hb hby at_66) (by decide) (by decide)) ?_
      show Run p e below _ (T47.setTop (mkF m 76 #[.val (.int p0), .val (.int p1), .val (.int p2), .val (.int p3), .val (.int (p0 &&& (65535 : Int32))), .val (.int vs), .val (.ref b46), .val (.ref b47), .val (.int (p1 &&& (65535 : Int32))), .unset, .unset, .unset, .unset, .unset, .unset, .unset, .unset, .unset, .unset, .unset, .unset, .unset, .unset, .unset, .unset, .unset, .unset] [(.int (p1 &&& (65535 : Int32)))]))
      exact J76 _ _ X47 e47 N47 (p1 &&& (65535 : Int32))  
  by_cases c120 : (((p3.toUInt32 >>> ((2 : Int32) &&& 31).toUInt32).toInt32) &&& (1 : Int32)) = 0
  · skip
    refine go (fun _ => XS.ifYes X0.here hx rfl (pc0 := 11) (pc' := 19) rfl (hb hby at_11) rfl ((if0 _ _).trans (teq c120).1) (by decide) (by decide)) ?_
    show Run p e below _ (T0.setTop (mkF m 19 #[.val (.int p0), .val (.int p1), .val (.int p2), .val (.int p3), .val (.int (p0 &&& (65535 : Int32))), .unset, .unset, .unset, .unset, .unset, .unset, .unset, .unset, .unset, .unset, .unset, .unset, .unset, .unset, .unset, .unset, .unset, .unset, .unset, .unset, .unset, .unset] []))
    refine go (fun _ => XS.iloadN X0.here hx rfl (hb hby at_19) rfl) ?_
    show Run p e below _ (T0.setTop (mkF m 20 #[.val (.int p0), .val (.int p1), .val (.int p2), .val (.int p3), .val (.int (p0 &&& (65535 : Int32))), .unset, .unset, .unset, .unset, .unset, .unset, .unset, .unset, .unset, .unset, .unset, .unset, .unset, .unset, .unset, .unset, .unset, .unset, .unset, .unset, .unset, .unset] [(.int p0)]))
    refine go (fun _ => XS.bipush X0.here hx rfl (hb hby at_20)) ?_
    show Run p e below _ (T0.setTop (mkF m 22 #[.val (.int p0), .val (.int p1), .val (.int p2), .val (.int p3), .val (.int (p0 &&& (65535 : Int32))), .unset, .unset, .unset, .unset, .unset, .unset, .unset, .unset, .unset, .unset, .unset, .unset, .unset, .unset, .unset, .unset, .unset, .unset, .unset, .unset, .unset, .unset] [(.int (16 : Int32)), (.int p0)]))
    refine go (fun _ => XS.iushr X0.here hx rfl (hb hby at_22) rfl) ?_
    show Run p e below _ (T0.setTop (mkF m 23 #[.val (.int p0), .val (.int p1), .val (.int p2), .val (.int p3), .val (.int (p0 &&& (65535 : Int32))), .unset, .unset, .unset, .unset, .unset, .unset, .unset, .unset, .unset, .unset, .unset, .unset, .unset, .unset, .unset, .unset, .unset, .unset, .unset, .unset, .unset, .unset] [(.int ((p0.toUInt32 >>> ((16 : Int32) &&& 31).toUInt32).toInt32))]))
    refine go (fun _ => X0.ldcI hx hown (mvT hZ (wd hw 0 rfl)) rfl (hb hby at_23)) ?_
    show Run p e below _ (T0.setTop (mkF m 25 #[.val (.int p0), .val (.int p1), .val (.int p2), .val (.int p3), .val (.int (p0 &&& (65535 : Int32))), .unset, .unset, .unset, .unset, .unset, .unset, .unset, .unset, .unset, .unset, .unset, .unset, .unset, .unset, .unset, .unset, .unset, .unset, .unset, .unset, .unset, .unset] [(.int (65535 : Int32)), (.int ((p0.toUInt32 >>> ((16 : Int32) &&& 31).toUInt32).toInt32))]))
    refine go (fun _ => XS.iand X0.here hx rfl (hb hby at_25) rfl) ?_
    show Run p e below _ (T0.setTop (mkF m 26 #[.val (.int p0), .val (.int p1), .val (.int p2), .val (.int p3), .val (.int (p0 &&& (65535 : Int32))), .unset, .unset, .unset, .unset, .unset, .unset, .unset, .unset, .unset, .unset, .unset, .unset, .unset, .unset, .unset, .unset, .unset, .unset, .unset, .unset, .unset, .unset] [(.int (((p0.toUInt32 >>> ((16 : Int32) &&& 31).toUInt32).toInt32) &&& (65535 : Int32)))]))
    exact J26 _ _ X0 e0 N0 (((p0.toUInt32 >>> ((16 : Int32) &&& 31).toUInt32).toInt32) &&& (65535 : Int32))  
  · skip
    refine go (fun _ => XS.ifNo X0.here hx rfl (hb hby at_11) rfl ((if0 _ _).trans (feq c120).1)) ?_
    show Run p e below _ (T0.setTop (mkF m 14 #[.val (.int p0), .val (.int p1), .val (.int p2), .val (.int p3), .val (.int (p0 &&& (65535 : Int32))), .unset, .unset, .unset, .unset, .unset, .unset, .unset, .unset, .unset, .unset, .unset, .unset, .unset, .unset, .unset, .unset, .unset, .unset, .unset, .unset, .unset, .unset] []))
    refine go (fun _ => XS.iload X0.here hx rfl (hb hby at_14) rfl) ?_
    show Run p e below _ (T0.setTop (mkF m 16 #[.val (.int p0), .val (.int p1), .val (.int p2), .val (.int p3), .val (.int (p0 &&& (65535 : Int32))), .unset, .unset, .unset, .unset, .unset, .unset, .unset, .unset, .unset, .unset, .unset, .unset, .unset, .unset, .unset, .unset, .unset, .unset, .unset, .unset, .unset, .unset] [(.int (p0 &&& (65535 : Int32)))]))
    refine go (fun _ => XS.goto X0.here hx rfl (pc0 := 16) (pc' := 26) rfl (hb hby at_16) (by decide) (by decide)) ?_
    show Run p e below _ (T0.setTop (mkF m 26 #[.val (.int p0), .val (.int p1), .val (.int p2), .val (.int p3), .val (.int (p0 &&& (65535 : Int32))), .unset, .unset, .unset, .unset, .unset, .unset, .unset, .unset, .unset, .unset, .unset, .unset, .unset, .unset, .unset, .unset, .unset, .unset, .unset, .unset, .unset, .unset] [(.int (p0 &&& (65535 : Int32)))]))
    exact J26 _ _ X0 e0 N0 (p0 &&& (65535 : Int32))  
set_option maxRecDepth 65536 in
set_option maxHeartbeats 40000000 in
theorem comes_1 {Post : Tables → Env → Array Value → State → Outcome → State → Prop} (hpost : ∀ tb e args s v u, (limb_1_1.after args s (.returned v) u = true ∧ limb_1_2.after args s (.returned v) u = true ∧ True) → FrameEnd s (.returned v) u (Jvm.fieldLocs frame_1_writes args s ++ Jvm.arrayLocs frame_1_arrays args s ++ Jvm.staticLocs frame_1_statics s) 48 192 → Post tb e args s (.returned v) u) :
    ArmFor flags0 classFile x code maxLocals ret World_1 tables_1 room_1 Calls_1 rest_1 Pre_1 Post := by
  intro l hfl _ _ p e ha hc hk s m args below hf hA hF happ hP
  obtain ⟨hcalls, hrest, hpre⟩ := hP
  obtain ⟨-, -, -, hnamed, -, -, -, hat⟩ := (Spec.applies_iff hf).mp happ
  obtain ⟨hg, hn⟩ := and_e (Cond.before_iff.mp (show (Jvm.Cond.and given_1 narrow_1).before args s = true from hpre))
  obtain ⟨h1, hg⟩ := and_e hg
  obtain ⟨g0, hg⟩ := and_e hg
  obtain ⟨g1, hg⟩ := and_e hg
  obtain ⟨g2, hg⟩ := and_e hg
  have g3 := hg
  obtain ⟨w0, w1, w2, w3, rfl⟩ : ∃ w0 w1 w2 w3 : Value, args = #[w0, w1, w2, w3] := by
    have hs : args.size = 4 := by simpa [Cond.value, given_1] using h1
    obtain ⟨L⟩ := args
    match L, hs with
    | [w0, w1, w2, w3], _ => exact ⟨w0, w1, w2, w3, rfl⟩
  have hw := fun d (hd : d ∈ tables_1) => atoms_spec (ws := Jvm.Cond.code x code maxLocals ret :: tables_1) hat d (List.mem_cons_of_mem _ hd)
  obtain ⟨hsets, hown0⟩ := atoms_of _ (rest_1_c_eq ▸ (show rest_1_c.before _ s = true from hrest))
  have hr0 := Cond.before_iff.mp hown0
  have hfit : Fit s := fun {y c} hc i hi => by
    obtain ⟨ha, rfl⟩ := Array.getElem?_eq_some_iff.mp hc
    have q := List.all_eq_true.mp ((Array.all_eq_true_iff_forall_mem.mp hF) _ (Array.getElem_mem ha)) i (List.mem_range.mpr hi)
    simpa [Array.getElem?_eq_getElem hi] using q
  obtain ⟨i0, ev0⟩ := is_v g0
  obtain rfl : w0 = (.int i0) := Option.some.inj ev0
  obtain ⟨i1, ev1⟩ := is_v g1
  obtain rfl : w1 = (.int i1) := Option.some.inj ev1
  obtain ⟨i2, ev2⟩ := is_v g2
  obtain rfl : w2 = (.int i2) := Option.some.inj ev2
  obtain ⟨i3, ev3⟩ := is_v g3
  obtain rfl : w3 = (.int i3) := Option.some.inj ev3
  have hnz := not_v (Cond.before_iff.mp (hsets _ (List.mem_of_getElem? (i := 2) rfl)))
  obtain ⟨zc, ezc⟩ := is_v (Cond.before_iff.mp (hsets _ (List.mem_of_getElem? (i := 1) rfl)))
  have S_COMPACT_STRINGS := Sta.start ezc (Or.inl (hsets _ (List.mem_of_getElem? (i := 0) rfl)))
  have hzc : ¬ (zc = (0 : Int32)) := gotF (Cond.eq_ints ezc (Term.int_eval (0))) hnz
  obtain ⟨n, o, h1, h2, h3, _, L, rfl, ⟨rfl, N⟩, hq⟩ := rmlaw l s _ hw tables_1 i0 i1 i2 i3 zc s.heap s.heap.size (Old.start s) S_COMPACT_STRINGS hzc p e ha hc hk s m _ below hf ((Spec.applies_iff_loose hf).mp happ).1 ⟨rfl, State.Warmed39.refl s, rfl⟩ trivial
  refine ⟨n, _, h1, h2, h3, hpost _ _ _ _ _ _ ⟨Cond.after_iff.mpr rfl, Cond.after_iff.mpr (eq_i res_at (Term.int_eval (1)) rfl), trivial⟩ ⟨hq.1, hq.2.1, (hq.2.2.sift fun y hy => Or.inr (N y hy)).mono (by decide) (by decide)⟩⟩
theorem main_1_1 : Claimed_1_1 := comes_1 fun _ _ _ _ _ _ h hF => ⟨h.1, hF⟩
theorem main_1_2 : Claimed_1_2 := comes_1 fun _ _ _ _ _ _ h hF => ⟨h.2.1, hF⟩
end Jvm.Pilot.@@N@@
namespace Jvm.Pilot.@@N@@
open Jvm Jvm.ClassFile Sem Op Lib Jvm.Free Jvm.Stand Jvm.Pilot.@@N@@.Jvm.D
/-! MADE BY PROGRAM (witnessworld.py) out of the Statement's table words and the real class files: 21 classes; the members and pool entries that the words name. The judged class is class 1, her method 1. -/
namespace start1
open Jvm.ClassFile
def u (s : String) : CpInfo := .utf8 (stringToUtf16 s)
/-- a pool by its gaps: so many unusable entries, then the entry; so many at the end -/
def gap : Nat → List CpInfo → List CpInfo
  | 0, r => r
  | n + 1, r => .unusable :: gap n r
def poolList (es : List (Nat × CpInfo)) (last : Nat) : List CpInfo := es.foldr (fun e r => gap e.1 (e.2 :: r)) (gap last [])
def pool (es : List (Nat × CpInfo)) (last : Nat) : Array CpInfo := ⟨poolList es last⟩
def fileOf (pool : Array CpInfo) (this : Nat) (attrs : Array Attribute := #[]) (ms : Array MethodInfo := #[]) (fl : Nat := 33) (sup : Nat := 0) (ifs : Array Nat := #[]) (fds : Array FieldInfo := #[]) : ClassFile where
  minorVersion := 0
  majorVersion := 65
  constantPool := pool
  accessFlags := fl
  thisClass := this
  superClass := sup
  interfaces := ifs
  fields := fds
  methods := ms
  attributes := attrs
def plain (name : String) (sup : Option ClassId) : Class where
  name := name
  kind := .ordinary
  loader := none
  accessFlags := 33
  super := sup
  interfaces := #[]
  cf := none
  fields := #[]
  methods := #[]
  instanceTypes := #[]
  staticTypes := #[]
  resolved := #[]
  callSites := []
  init := .initialized
  statics := none
  mirror := none

def pool0 : Array CpInfo := pool [(5, u "<init>"), (0, u "()V"), (1, .class_ 10), (1, u "java/lang/Object")] 113

def k0c0 : Code := { maxStack := 0, maxLocals := 1, code := object_method_1_code, exceptionTable := #[], attributes := #[] }
def k0m0 : Method := { name := "<init>", desc := "()V", sig := { parameters := [], returnType := none }, accessFlags := 1, code := some k0c0 }
/-- java/lang/Object -/
def k0 : Class := { plain "java/lang/Object" none with
  accessFlags := 33
  interfaces := #[]
  cf := some (fileOf pool0 8 #[] #[{ accessFlags := 1, nameIndex := 5, descriptorIndex := 6, attributes := #[] }] 33 0 #[] #[])
  fields := #[]
  methods := #[k0m0]
  instanceTypes := #[]
  staticTypes := #[]
  resolved := Array.replicate 124 none
  statics := none }

def pool1 : Array CpInfo := pool [(2, .class_ 4), (1, u "java/lang/Object"), (0, u "<init>"), (0, u "()V"), (0, .integer 65535), (0, .methodref 9 10), (0, .class_ 11), (0, .nameAndType 12 13), (0, u "com/example/gridsteward/gridsteward/HolderAgreesPinLaw"), (0, u "chars"), (0, u "(II)[C"), (0, .class_ 15), (0, u "java/lang/String"), (0, .methodref 14 17), (0, .nameAndType 5 18), (0, u "([C)V"), (0, .class_ 20), (0, u "com/example/gridsteward/gridsteward/Holder"), (0, .methodref 19 22), (0, .nameAndType 5 23), (0, u "(Ljava/lang/String;Ljava/lang/String;Ljava/lang/String;)V"), (0, .methodref 9 25), (0, .nameAndType 26 27), (0, u "same"), (0, u "([C[C)Z"), (0, .methodref 19 29), (0, .nameAndType 30 31), (0, u "agrees"), (0, u "(Lcom/example/gridsteward/gridsteward/Holder;)Z"), (2, u "law"), (0, u "(IIII)Z")] 5

def k1m0 : Method := { name := "<init>", desc := "()V", sig := { parameters := [], returnType := none }, accessFlags := 2, code := none }
def k1c1 : Code := { maxStack := 5, maxLocals := 27, code := code, exceptionTable := #[], attributes := #[] }
def k1m1 : Method := { name := "law", desc := "(IIII)Z", sig := { parameters := [.int, .int, .int, .int], returnType := some .boolean }, accessFlags := 9, code := some k1c1 }
def k1c2 : Code := { maxStack := 4, maxLocals := 3, code := method_3_code, exceptionTable := #[], attributes := #[] }
def k1m2 : Method := { name := "chars", desc := "(II)[C", sig := { parameters := [.int, .int], returnType := some (.array .char) }, accessFlags := 10, code := some k1c2 }
def k1c3 : Code := { maxStack := 3, maxLocals := 2, code := method_4_code, exceptionTable := #[], attributes := #[] }
def k1m3 : Method := { name := "same", desc := "([C[C)Z", sig := { parameters := [(.array .char), (.array .char)], returnType := some .boolean }, accessFlags := 10, code := some k1c3 }
/-- com/example/gridsteward/gridsteward/HolderAgreesPinLaw -/
def k1 : Class := { plain "com/example/gridsteward/gridsteward/HolderAgreesPinLaw" (some 0) with
  accessFlags := 49
  interfaces := #[]
  cf := some (fileOf pool1 9 #[] #[{ accessFlags := 2, nameIndex := 5, descriptorIndex := 6, attributes := #[] }, { accessFlags := 9, nameIndex := 34, descriptorIndex := 35, attributes := #[] }, { accessFlags := 10, nameIndex := 12, descriptorIndex := 13, attributes := #[] }, { accessFlags := 10, nameIndex := 26, descriptorIndex := 27, attributes := #[] }] 49 2 #[] #[])
  fields := #[]
  methods := #[k1m0, k1m1, k1m2, k1m3]
  instanceTypes := #[]
  staticTypes := #[]
  resolved := Array.replicate 41 none
  statics := none }

def pool2 : Array CpInfo := pool [(1, .class_ 2), (0, u "java/io/Serializable"), (0, .class_ 4), (0, u "java/lang/Object")] 2

/-- java/io/Serializable -/
def k2 : Class := { plain "java/io/Serializable" (some 0) with
  accessFlags := 1537
  interfaces := #[]
  cf := some (fileOf pool2 1 #[] #[] 1537 3 #[] #[])
  fields := #[]
  methods := #[]
  instanceTypes := #[]
  staticTypes := #[]
  resolved := Array.replicate 7 none
  statics := none }

def pool3 : Array CpInfo := pool [(1, .class_ 2), (0, u "java/lang/Comparable"), (0, .class_ 4), (0, u "java/lang/Object")] 7

/-- java/lang/Comparable -/
def k3 : Class := { plain "java/lang/Comparable" (some 0) with
  accessFlags := 1537
  interfaces := #[]
  cf := some (fileOf pool3 1 #[] #[] 1537 3 #[] #[])
  fields := #[]
  methods := #[]
  instanceTypes := #[]
  staticTypes := #[]
  resolved := Array.replicate 12 none
  statics := none }

def pool4 : Array CpInfo := pool [(2, .class_ 4), (1, u "java/lang/CharSequence"), (42, .class_ 48), (0, u "java/lang/CharSequence$1CodePointIterator"), (10, .class_ 60), (0, u "java/lang/CharSequence$1CharIterator"), (5, .class_ 67), (0, u "java/lang/Object")] 63

/-- java/lang/CharSequence -/
def k4 : Class := { plain "java/lang/CharSequence" (some 0) with
  accessFlags := 1537
  interfaces := #[]
  cf := some (fileOf pool4 2 #[.nestMembers #[47, 59]] #[] 1537 66 #[] #[])
  fields := #[]
  methods := #[]
  instanceTypes := #[]
  staticTypes := #[]
  resolved := Array.replicate 131 none
  statics := none }

def pool5 : Array CpInfo := pool [(1, .class_ 2), (0, u "java/lang/constant/Constable"), (0, .class_ 4), (0, u "java/lang/Object")] 6

/-- java/lang/constant/Constable -/
def k5 : Class := { plain "java/lang/constant/Constable" (some 0) with
  accessFlags := 1537
  interfaces := #[]
  cf := some (fileOf pool5 1 #[] #[] 1537 3 #[] #[])
  fields := #[]
  methods := #[]
  instanceTypes := #[]
  staticTypes := #[]
  resolved := Array.replicate 11 none
  statics := none }

def pool6 : Array CpInfo := pool [(1, .class_ 2), (0, u "java/lang/constant/ConstantDesc"), (0, .class_ 4), (0, u "java/lang/Object")] 32

/-- java/lang/constant/ConstantDesc -/
def k6 : Class := { plain "java/lang/constant/ConstantDesc" (some 0) with
  accessFlags := 1537
  interfaces := #[]
  cf := some (fileOf pool6 1 #[] #[] 1537 3 #[] #[])
  fields := #[]
  methods := #[]
  instanceTypes := #[]
  staticTypes := #[]
  resolved := Array.replicate 37 none
  statics := none }

def pool7 : Array CpInfo := pool [(1, .methodref 2 3), (0, .class_ 4), (0, .nameAndType 5 6), (0, u "java/lang/Object"), (0, u "<init>"), (0, u "()V"), (2, .fieldref 10 11), (0, .class_ 12), (0, .nameAndType 13 14), (0, u "java/lang/String"), (0, u "value"), (0, u "[B"), (0, .fieldref 10 16), (0, .nameAndType 17 18), (0, u "coder"), (0, u "B"), (2, u "hash"), (0, u "I"), (2, u "hashIsZero"), (0, u "Z"), (0, .methodref 10 28), (0, .nameAndType 5 29), (0, u "([CIILjava/lang/Void;)V"), (8, .fieldref 10 39), (0, .nameAndType 40 26), (0, u "COMPACT_STRINGS"), (1, .class_ 44), (1, u "java/lang/StringUTF16"), (0, u "compress"), (1, .methodref 42 48), (0, .nameAndType 49 50), (0, u "coderFromArrayLen"), (0, u "([BI)B"), (56, .class_ 109), (1, u "java/lang/StringLatin1"), (67, .methodref 42 178), (0, .nameAndType 45 179), (0, u "([CII)[B"), (361, .methodref 107 542), (0, .nameAndType 543 544), (0, u "equals"), (0, u "([B[B)Z"), (28, u "(Ljava/lang/Object;)Z"), (1, .class_ 576), (0, u "java/lang/CharSequence"), (22, u "CASE_INSENSITIVE_ORDER"), (0, u "Ljava/util/Comparator;"), (409, u "([C)V"), (90, u "serialPersistentFields"), (0, u "[Ljava/io/ObjectStreamField;"), (0, .class_ 1104), (0, u "java/lang/String$CaseInsensitiveComparator"), (1, .class_ 1107), (0, u "java/io/Serializable"), (0, .class_ 1109), (0, u "java/lang/Comparable"), (0, .class_ 1111), (0, u "java/lang/constant/Constable"), (0, .class_ 1113), (0, u "java/lang/constant/ConstantDesc"), (2, u "serialVersionUID"), (0, u "J"), (3, u "REPL"), (0, u "C"), (2, u "LATIN1"), (1, u "UTF16")] 323

def k7m0 : Method := { name := "<init>", desc := "()V", sig := { parameters := [], returnType := none }, accessFlags := 1, code := none }
def k7c1 : Code := { maxStack := 5, maxLocals := 2, code := jdk_42_method_3_code, exceptionTable := #[], attributes := #[] }
def k7m1 : Method := { name := "<init>", desc := "([C)V", sig := { parameters := [(.array .char)], returnType := none }, accessFlags := 1, code := some k7c1 }
def k7c2 : Code := { maxStack := 2, maxLocals := 3, code := jdk_42_method_66_code, exceptionTable := #[], attributes := #[] }
def k7m2 : Method := { name := "equals", desc := "(Ljava/lang/Object;)Z", sig := { parameters := [(.object "java/lang/Object")], returnType := some .boolean }, accessFlags := 1, code := some k7c2 }
def k7c3 : Code := { maxStack := 4, maxLocals := 6, code := jdk_42_method_149_code, exceptionTable := #[], attributes := #[] }
def k7m3 : Method := { name := "<init>", desc := "([CIILjava/lang/Void;)V", sig := { parameters := [(.array .char), .int, .int, (.object "java/lang/Void")], returnType := none }, accessFlags := 2, code := some k7c3 }
/-- java/lang/String -/
def k7 : Class := { plain "java/lang/String" (some 0) with
  accessFlags := 49
  interfaces := #[2, 3, 4, 5, 6]
  cf := some (fileOf pool7 10 #[.nestMembers #[1103]] #[{ accessFlags := 1, nameIndex := 5, descriptorIndex := 6, attributes := #[] }, { accessFlags := 1, nameIndex := 5, descriptorIndex := 1010, attributes := #[] }, { accessFlags := 1, nameIndex := 543, descriptorIndex := 573, attributes := #[] }, { accessFlags := 2, nameIndex := 5, descriptorIndex := 29, attributes := #[] }] 49 2 #[1106, 1108, 575, 1110, 1112] #[{ accessFlags := 18, nameIndex := 13, descriptorIndex := 14, attributes := #[] }, { accessFlags := 18, nameIndex := 17, descriptorIndex := 18, attributes := #[] }, { accessFlags := 2, nameIndex := 21, descriptorIndex := 22, attributes := #[] }, { accessFlags := 2, nameIndex := 25, descriptorIndex := 26, attributes := #[] }, { accessFlags := 26, nameIndex := 1116, descriptorIndex := 1117, attributes := #[] }, { accessFlags := 24, nameIndex := 40, descriptorIndex := 26, attributes := #[] }, { accessFlags := 26, nameIndex := 1101, descriptorIndex := 1102, attributes := #[] }, { accessFlags := 26, nameIndex := 1121, descriptorIndex := 1122, attributes := #[] }, { accessFlags := 25, nameIndex := 599, descriptorIndex := 600, attributes := #[] }, { accessFlags := 24, nameIndex := 1125, descriptorIndex := 18, attributes := #[] }, { accessFlags := 24, nameIndex := 1127, descriptorIndex := 18, attributes := #[] }])
  fields := #[{ name := "value", type := (.array .byte), accessFlags := 18, slot := 0, constantValue := 0 }, { name := "coder", type := .byte, accessFlags := 18, slot := 1, constantValue := 0 }, { name := "hash", type := .int, accessFlags := 2, slot := 2, constantValue := 0 }, { name := "hashIsZero", type := .boolean, accessFlags := 2, slot := 3, constantValue := 0 }, { name := "serialVersionUID", type := .long, accessFlags := 26, slot := 0, constantValue := 0 }, { name := "COMPACT_STRINGS", type := .boolean, accessFlags := 24, slot := 1, constantValue := 0 }, { name := "serialPersistentFields", type := (.array (.object "java/io/ObjectStreamField")), accessFlags := 26, slot := 2, constantValue := 0 }, { name := "REPL", type := .char, accessFlags := 26, slot := 3, constantValue := 0 }, { name := "CASE_INSENSITIVE_ORDER", type := (.object "java/util/Comparator"), accessFlags := 25, slot := 4, constantValue := 0 }, { name := "LATIN1", type := .byte, accessFlags := 24, slot := 5, constantValue := 0 }, { name := "UTF16", type := .byte, accessFlags := 24, slot := 6, constantValue := 0 }]
  methods := #[k7m0, k7m1, k7m2, k7m3]
  instanceTypes := #[(.array .byte), .byte, .int, .boolean]
  staticTypes := #[.long, .boolean, (.array (.object "java/io/ObjectStreamField")), .char, (.object "java/util/Comparator"), .byte, .byte]
  resolved := Array.replicate 1451 none
  statics := some 0 }

def pool8 : Array CpInfo := pool [(6, .class_ 8), (1, u "java/lang/Object"), (0, u "<init>"), (0, u "()V"), (1, .class_ 14), (1, u "java/lang/StringUTF16"), (31, u "$assertionsDisabled"), (0, u "Z"), (13, u "HI_BYTE_SHIFT"), (0, u "I"), (2, u "LO_BYTE_SHIFT"), (49, .methodref 12 116), (0, .nameAndType 117 118), (0, u "compress"), (0, u "([CI[BII)I"), (3, u "([CII)[B"), (138, u "coderFromArrayLen"), (0, u "([BI)B"), (106, .class_ 371), (1, u "java/lang/StringUTF16$LinesSpliterator"), (58, u "MAX_LENGTH"), (196, .class_ 628), (0, u "java/lang/StringUTF16$CodePointsSpliterator"), (0, .class_ 630), (0, u "java/lang/StringUTF16$CharsSpliterator")] 4

def k8m0 : Method := { name := "<init>", desc := "()V", sig := { parameters := [], returnType := none }, accessFlags := 0, code := none }
def k8c1 : Code := { maxStack := 2, maxLocals := 2, code := jdk_52_method_15_code, exceptionTable := #[], attributes := #[] }
def k8m1 : Method := { name := "coderFromArrayLen", desc := "([BI)B", sig := { parameters := [(.array .byte), .int], returnType := some .byte }, accessFlags := 8, code := some k8c1 }
def k8c2 : Code := { maxStack := 5, maxLocals := 6, code := jdk_52_method_16_code, exceptionTable := #[], attributes := #[] }
def k8m2 : Method := { name := "compress", desc := "([CII)[B", sig := { parameters := [(.array .char), .int, .int], returnType := some (.array .byte) }, accessFlags := 9, code := some k8c2 }
def k8c3 : Code := { maxStack := 3, maxLocals := 7, code := jdk_52_method_21_code, exceptionTable := #[], attributes := #[] }
def k8m3 : Method := { name := "compress", desc := "([CI[BII)I", sig := { parameters := [(.array .char), .int, (.array .byte), .int, .int], returnType := some .int }, accessFlags := 9, code := some k8c3 }
/-- java/lang/StringUTF16 -/
def k8 : Class := { plain "java/lang/StringUTF16" (some 0) with
  accessFlags := 48
  interfaces := #[]
  cf := some (fileOf pool8 12 #[.nestMembers #[627, 629, 369]] #[{ accessFlags := 0, nameIndex := 9, descriptorIndex := 10, attributes := #[] }, { accessFlags := 8, nameIndex := 261, descriptorIndex := 262, attributes := #[] }, { accessFlags := 9, nameIndex := 117, descriptorIndex := 122, attributes := #[] }, { accessFlags := 9, nameIndex := 117, descriptorIndex := 118, attributes := #[] }] 48 6 #[] #[{ accessFlags := 26, nameIndex := 61, descriptorIndex := 62, attributes := #[] }, { accessFlags := 26, nameIndex := 65, descriptorIndex := 62, attributes := #[] }, { accessFlags := 24, nameIndex := 430, descriptorIndex := 62, attributes := #[] }, { accessFlags := 4120, nameIndex := 46, descriptorIndex := 47, attributes := #[] }])
  fields := #[{ name := "HI_BYTE_SHIFT", type := .int, accessFlags := 26, slot := 0, constantValue := 0 }, { name := "LO_BYTE_SHIFT", type := .int, accessFlags := 26, slot := 1, constantValue := 0 }, { name := "MAX_LENGTH", type := .int, accessFlags := 24, slot := 2, constantValue := 0 }, { name := "$assertionsDisabled", type := .boolean, accessFlags := 4120, slot := 3, constantValue := 0 }]
  methods := #[k8m0, k8m1, k8m2, k8m3]
  instanceTypes := #[]
  staticTypes := #[.int, .int, .int, .boolean]
  resolved := Array.replicate 635 none
  statics := none }

def pool9 : Array CpInfo := pool [(1, .methodref 2 3), (0, .class_ 4), (0, .nameAndType 5 6), (0, u "java/lang/Object"), (0, u "<init>"), (0, u "()V"), (0, .class_ 8), (0, u "java/lang/Record")] 13

def k9c0 : Code := { maxStack := 1, maxLocals := 1, code := jdk_30_method_1_code, exceptionTable := #[], attributes := #[] }
def k9m0 : Method := { name := "<init>", desc := "()V", sig := { parameters := [], returnType := none }, accessFlags := 4, code := some k9c0 }
/-- java/lang/Record -/
def k9 : Class := { plain "java/lang/Record" (some 0) with
  accessFlags := 1057
  interfaces := #[]
  cf := some (fileOf pool9 7 #[] #[{ accessFlags := 4, nameIndex := 5, descriptorIndex := 6, attributes := #[] }] 1057 2 #[] #[])
  fields := #[]
  methods := #[k9m0]
  instanceTypes := #[]
  staticTypes := #[]
  resolved := Array.replicate 22 none
  statics := none }

def pool10 : Array CpInfo := pool [(1, .methodref 2 3), (0, .class_ 4), (0, .nameAndType 5 6), (0, u "java/lang/Record"), (0, u "<init>"), (0, u "()V"), (0, .fieldref 8 9), (0, .class_ 10), (0, .nameAndType 11 12), (0, u "com/example/gridsteward/gridsteward/Holder"), (0, u "subject"), (0, u "Ljava/lang/String;"), (0, .fieldref 8 14), (0, .nameAndType 15 12), (0, u "issuer"), (0, .fieldref 8 17), (0, .nameAndType 18 12), (0, u "issuerKey"), (35, u "(Ljava/lang/String;Ljava/lang/String;Ljava/lang/String;)V"), (0, .methodref 56 57), (0, .class_ 58), (0, .nameAndType 59 60), (0, u "java/lang/String"), (0, u "equals"), (0, u "(Ljava/lang/Object;)Z"), (0, .methodref 8 62), (0, .nameAndType 63 64), (0, u "unknownOrEqual"), (0, u "(Ljava/lang/String;Ljava/lang/String;)Z"), (46, u "agrees"), (0, u "(Lcom/example/gridsteward/gridsteward/Holder;)Z")] 26

def k10c0 : Code := { maxStack := 2, maxLocals := 4, code := prog_10_method_1_code, exceptionTable := #[], attributes := #[] }
def k10m0 : Method := { name := "<init>", desc := "(Ljava/lang/String;Ljava/lang/String;Ljava/lang/String;)V", sig := { parameters := [(.object "java/lang/String"), (.object "java/lang/String"), (.object "java/lang/String")], returnType := none }, accessFlags := 0, code := some k10c0 }
def k10c1 : Code := { maxStack := 2, maxLocals := 2, code := prog_10_method_4_code, exceptionTable := #[], attributes := #[] }
def k10m1 : Method := { name := "agrees", desc := "(Lcom/example/gridsteward/gridsteward/Holder;)Z", sig := { parameters := [(.object "com/example/gridsteward/gridsteward/Holder")], returnType := some .boolean }, accessFlags := 0, code := some k10c1 }
def k10c2 : Code := { maxStack := 2, maxLocals := 2, code := prog_10_method_7_code, exceptionTable := #[], attributes := #[] }
def k10m2 : Method := { name := "unknownOrEqual", desc := "(Ljava/lang/String;Ljava/lang/String;)Z", sig := { parameters := [(.object "java/lang/String"), (.object "java/lang/String")], returnType := some .boolean }, accessFlags := 10, code := some k10c2 }
/-- com/example/gridsteward/gridsteward/Holder -/
def k10 : Class := { plain "com/example/gridsteward/gridsteward/Holder" (some 9) with
  accessFlags := 48
  interfaces := #[]
  cf := some (fileOf pool10 8 #[] #[{ accessFlags := 0, nameIndex := 5, descriptorIndex := 54, attributes := #[] }, { accessFlags := 0, nameIndex := 111, descriptorIndex := 112, attributes := #[] }, { accessFlags := 10, nameIndex := 63, descriptorIndex := 64, attributes := #[] }] 48 2 #[] #[{ accessFlags := 18, nameIndex := 11, descriptorIndex := 12, attributes := #[] }, { accessFlags := 18, nameIndex := 15, descriptorIndex := 12, attributes := #[] }, { accessFlags := 18, nameIndex := 18, descriptorIndex := 12, attributes := #[] }])
  fields := #[{ name := "subject", type := (.object "java/lang/String"), accessFlags := 18, slot := 0, constantValue := 0 }, { name := "issuer", type := (.object "java/lang/String"), accessFlags := 18, slot := 1, constantValue := 0 }, { name := "issuerKey", type := (.object "java/lang/String"), accessFlags := 18, slot := 2, constantValue := 0 }]
  methods := #[k10m0, k10m1, k10m2]
  instanceTypes := #[(.object "java/lang/String"), (.object "java/lang/String"), (.object "java/lang/String")]
  staticTypes := #[]
  resolved := Array.replicate 139 none
  statics := none }

def pool11 : Array CpInfo := pool [(4, .class_ 6), (1, u "java/lang/Object"), (0, u "<init>"), (0, u "()V"), (5, .class_ 16), (1, u "java/lang/StringLatin1"), (104, u "$assertionsDisabled"), (0, u "Z"), (98, .class_ 223), (1, u "java/lang/StringLatin1$LinesSpliterator"), (57, u "equals"), (0, u "([B[B)Z"), (107, .class_ 391), (0, u "java/lang/StringLatin1$CharsSpliterator")] 3

def k11m0 : Method := { name := "<init>", desc := "()V", sig := { parameters := [], returnType := none }, accessFlags := 0, code := none }
def k11c1 : Code := { maxStack := 3, maxLocals := 3, code := jdk_43_method_13_code, exceptionTable := #[], attributes := #[] }
def k11m1 : Method := { name := "equals", desc := "([B[B)Z", sig := { parameters := [(.array .byte), (.array .byte)], returnType := some .boolean }, accessFlags := 9, code := some k11c1 }
/-- java/lang/StringLatin1 -/
def k11 : Class := { plain "java/lang/StringLatin1" (some 0) with
  accessFlags := 48
  interfaces := #[]
  cf := some (fileOf pool11 14 #[.nestMembers #[390, 221]] #[{ accessFlags := 0, nameIndex := 7, descriptorIndex := 8, attributes := #[] }, { accessFlags := 9, nameIndex := 281, descriptorIndex := 282, attributes := #[] }] 48 4 #[] #[{ accessFlags := 4120, nameIndex := 121, descriptorIndex := 122, attributes := #[] }])
  fields := #[{ name := "$assertionsDisabled", type := .boolean, accessFlags := 4120, slot := 0, constantValue := 0 }]
  methods := #[k11m0, k11m1]
  instanceTypes := #[]
  staticTypes := #[.boolean]
  resolved := Array.replicate 395 none
  statics := none }

def pool12 : Array CpInfo := pool [(2, .class_ 4), (1, u "java/lang/Object"), (0, u "<init>"), (0, u "()V"), (17, .class_ 26), (1, u "jdk/internal/util/Preconditions"), (28, .class_ 56), (0, u "jdk/internal/util/Preconditions$4"), (57, .class_ 115), (0, u "jdk/internal/util/Preconditions$1"), (7, u "SIOOBE_FORMATTER"), (0, u "Ljava/util/function/BiFunction;"), (0, .class_ 126), (0, u "jdk/internal/util/Preconditions$2"), (3, u "AIOOBE_FORMATTER"), (0, .class_ 132), (0, u "jdk/internal/util/Preconditions$3"), (3, u "IOOBE_FORMATTER")] 57

def k12m0 : Method := { name := "<init>", desc := "()V", sig := { parameters := [], returnType := none }, accessFlags := 1, code := none }
/-- jdk/internal/util/Preconditions -/
def k12 : Class := { plain "jdk/internal/util/Preconditions" (some 0) with
  accessFlags := 33
  interfaces := #[]
  cf := some (fileOf pool12 24 #[.nestMembers #[55, 131, 125, 114]] #[{ accessFlags := 1, nameIndex := 5, descriptorIndex := 6, attributes := #[] }] 33 2 #[] #[{ accessFlags := 25, nameIndex := 123, descriptorIndex := 124, attributes := #[] }, { accessFlags := 25, nameIndex := 130, descriptorIndex := 124, attributes := #[] }, { accessFlags := 25, nameIndex := 136, descriptorIndex := 124, attributes := #[] }])
  fields := #[{ name := "SIOOBE_FORMATTER", type := (.object "java/util/function/BiFunction"), accessFlags := 25, slot := 0, constantValue := 0 }, { name := "AIOOBE_FORMATTER", type := (.object "java/util/function/BiFunction"), accessFlags := 25, slot := 1, constantValue := 0 }, { name := "IOOBE_FORMATTER", type := (.object "java/util/function/BiFunction"), accessFlags := 25, slot := 2, constantValue := 0 }]
  methods := #[k12m0]
  instanceTypes := #[]
  staticTypes := #[(.object "java/util/function/BiFunction"), (.object "java/util/function/BiFunction"), (.object "java/util/function/BiFunction")]
  resolved := Array.replicate 194 none
  statics := some 1 }

def pool13 : Array CpInfo := pool [(9, u "<init>"), (6, .class_ 18), (1, u "java/lang/Object"), (0, u "()V"), (1, .class_ 23), (1, u "jdk/internal/util/ArraysSupport"), (0, u "LOG2_ARRAY_LONG_INDEX_SCALE"), (0, u "I"), (2, u "U"), (0, u "Ljdk/internal/misc/Unsafe;"), (8, u "BIG_ENDIAN"), (0, u "Z"), (8, u "LOG2_BYTE_BIT_SIZE"), (4, u "LOG2_ARRAY_INT_INDEX_SCALE"), (54, u "JLA"), (0, u "Ljdk/internal/access/JavaLangAccess;"), (11, u "LOG2_ARRAY_BOOLEAN_INDEX_SCALE"), (9, u "LOG2_ARRAY_BYTE_INDEX_SCALE"), (5, u "LOG2_ARRAY_CHAR_INDEX_SCALE"), (5, u "LOG2_ARRAY_SHORT_INDEX_SCALE"), (18, u "LOG2_ARRAY_FLOAT_INDEX_SCALE"), (24, u "LOG2_ARRAY_DOUBLE_INDEX_SCALE"), (89, u "T_BOOLEAN"), (2, u "T_CHAR"), (1, u "T_FLOAT"), (1, u "T_DOUBLE"), (1, u "T_BYTE"), (1, u "T_SHORT"), (1, u "T_INT"), (1, u "T_LONG"), (1, u "SOFT_MAX_ARRAY_LENGTH")] 83

def k13m0 : Method := { name := "<init>", desc := "()V", sig := { parameters := [], returnType := none }, accessFlags := 2, code := none }
/-- jdk/internal/util/ArraysSupport -/
def k13 : Class := { plain "jdk/internal/util/ArraysSupport" (some 0) with
  accessFlags := 33
  interfaces := #[]
  cf := some (fileOf pool13 21 #[] #[{ accessFlags := 2, nameIndex := 9, descriptorIndex := 19, attributes := #[] }] 33 16 #[] #[{ accessFlags := 24, nameIndex := 28, descriptorIndex := 29, attributes := #[] }, { accessFlags := 26, nameIndex := 38, descriptorIndex := 39, attributes := #[] }, { accessFlags := 25, nameIndex := 121, descriptorIndex := 25, attributes := #[] }, { accessFlags := 25, nameIndex := 131, descriptorIndex := 25, attributes := #[] }, { accessFlags := 25, nameIndex := 137, descriptorIndex := 25, attributes := #[] }, { accessFlags := 25, nameIndex := 143, descriptorIndex := 25, attributes := #[] }, { accessFlags := 25, nameIndex := 53, descriptorIndex := 25, attributes := #[] }, { accessFlags := 25, nameIndex := 24, descriptorIndex := 25, attributes := #[] }, { accessFlags := 25, nameIndex := 162, descriptorIndex := 25, attributes := #[] }, { accessFlags := 25, nameIndex := 187, descriptorIndex := 25, attributes := #[] }, { accessFlags := 26, nameIndex := 48, descriptorIndex := 25, attributes := #[] }, { accessFlags := 25, nameIndex := 277, descriptorIndex := 25, attributes := #[] }, { accessFlags := 25, nameIndex := 280, descriptorIndex := 25, attributes := #[] }, { accessFlags := 25, nameIndex := 282, descriptorIndex := 25, attributes := #[] }, { accessFlags := 25, nameIndex := 284, descriptorIndex := 25, attributes := #[] }, { accessFlags := 25, nameIndex := 286, descriptorIndex := 25, attributes := #[] }, { accessFlags := 25, nameIndex := 288, descriptorIndex := 25, attributes := #[] }, { accessFlags := 25, nameIndex := 290, descriptorIndex := 25, attributes := #[] }, { accessFlags := 25, nameIndex := 292, descriptorIndex := 25, attributes := #[] }, { accessFlags := 26, nameIndex := 108, descriptorIndex := 109, attributes := #[] }, { accessFlags := 25, nameIndex := 294, descriptorIndex := 25, attributes := #[] }])
  fields := #[{ name := "U", type := (.object "jdk/internal/misc/Unsafe"), accessFlags := 24, slot := 0, constantValue := 0 }, { name := "BIG_ENDIAN", type := .boolean, accessFlags := 26, slot := 1, constantValue := 0 }, { name := "LOG2_ARRAY_BOOLEAN_INDEX_SCALE", type := .int, accessFlags := 25, slot := 2, constantValue := 0 }, { name := "LOG2_ARRAY_BYTE_INDEX_SCALE", type := .int, accessFlags := 25, slot := 3, constantValue := 0 }, { name := "LOG2_ARRAY_CHAR_INDEX_SCALE", type := .int, accessFlags := 25, slot := 4, constantValue := 0 }, { name := "LOG2_ARRAY_SHORT_INDEX_SCALE", type := .int, accessFlags := 25, slot := 5, constantValue := 0 }, { name := "LOG2_ARRAY_INT_INDEX_SCALE", type := .int, accessFlags := 25, slot := 6, constantValue := 0 }, { name := "LOG2_ARRAY_LONG_INDEX_SCALE", type := .int, accessFlags := 25, slot := 7, constantValue := 0 }, { name := "LOG2_ARRAY_FLOAT_INDEX_SCALE", type := .int, accessFlags := 25, slot := 8, constantValue := 0 }, { name := "LOG2_ARRAY_DOUBLE_INDEX_SCALE", type := .int, accessFlags := 25, slot := 9, constantValue := 0 }, { name := "LOG2_BYTE_BIT_SIZE", type := .int, accessFlags := 26, slot := 10, constantValue := 0 }, { name := "T_BOOLEAN", type := .int, accessFlags := 25, slot := 11, constantValue := 0 }, { name := "T_CHAR", type := .int, accessFlags := 25, slot := 12, constantValue := 0 }, { name := "T_FLOAT", type := .int, accessFlags := 25, slot := 13, constantValue := 0 }, { name := "T_DOUBLE", type := .int, accessFlags := 25, slot := 14, constantValue := 0 }, { name := "T_BYTE", type := .int, accessFlags := 25, slot := 15, constantValue := 0 }, { name := "T_SHORT", type := .int, accessFlags := 25, slot := 16, constantValue := 0 }, { name := "T_INT", type := .int, accessFlags := 25, slot := 17, constantValue := 0 }, { name := "T_LONG", type := .int, accessFlags := 25, slot := 18, constantValue := 0 }, { name := "JLA", type := (.object "jdk/internal/access/JavaLangAccess"), accessFlags := 26, slot := 19, constantValue := 0 }, { name := "SOFT_MAX_ARRAY_LENGTH", type := .int, accessFlags := 25, slot := 20, constantValue := 0 }]
  methods := #[k13m0]
  instanceTypes := #[]
  staticTypes := #[(.object "jdk/internal/misc/Unsafe"), .boolean, .int, .int, .int, .int, .int, .int, .int, .int, .int, .int, .int, .int, .int, .int, .int, .int, .int, (.object "jdk/internal/access/JavaLangAccess"), .int]
  resolved := Array.replicate 378 none
  statics := none }

def pool14 : Array CpInfo := pool [(1, u "java/lang/Cloneable"), (0, .class_ 1), (0, u "java/lang/Object"), (0, .class_ 3)] 3

/-- java/lang/Cloneable -/
def k14 : Class := { plain "java/lang/Cloneable" (some 0) with
  accessFlags := 1537
  interfaces := #[]
  cf := some (fileOf pool14 2 #[] #[] 1537 4 #[] #[])
  fields := #[]
  methods := #[]
  instanceTypes := #[]
  staticTypes := #[]
  resolved := Array.replicate 8 none
  statics := none }

/-- the primitive byte -/
def k15 : Class := { plain "byte" none with kind := .primitive 'B', accessFlags := 0x411 }
/-- [B -/
def k16 : Class := { plain "[B" (some 0) with kind := .array 15 .byte, interfaces := #[14, 2], accessFlags := 1041 }

/-- the primitive char -/
def k17 : Class := { plain "char" none with kind := .primitive 'C', accessFlags := 0x411 }
/-- [C -/
def k18 : Class := { plain "[C" (some 0) with kind := .array 17 .char, interfaces := #[14, 2], accessFlags := 1041 }

/-- the primitive int -/
def k19 : Class := { plain "int" none with kind := .primitive 'I', accessFlags := 0x411 }
/-- [I -/
def k20 : Class := { plain "[I" (some 0) with kind := .array 19 .int, interfaces := #[14, 2], accessFlags := 1041 }

def heap : Heap := #[{ cls := 7, slots := #[.long 0, .int 1, .null, .int 0, .null, .int 0, .int 0], vm := .statics 7 },
  { cls := 12, slots := #[.null, .null, .null], vm := .statics 12 }]
def classes : Array Class := #[k0, k1, k2, k3, k4, k5, k6, k7, k8, k9, k10, k11, k12, k13, k14, k15, k16, k17, k18, k19, k20]
def interned : List (Array UInt16 × Addr) := []
def slotsUsed : Nat := 10
def theMethod : MethodId := ⟨1, 1⟩
def args0 : Array Value := #[.int 1, .int 2, .int 3, .int 4]
def aboutOver (below : List Frame) : State where
  vm := { classes := classes, interned := interned.toArray }
  heap := heap
  slotsUsed := slotsUsed
  threads := #[{ frames := .invoking theMethod args0 :: below }]
def below0 : List Frame := [.native { method := ⟨0, 0⟩, args := #[] }]
def about1 : State := aboutOver below0
def p0 : Program := .bare "" "" ""
def e0 : Env := launch0.env 0 0 0
theorem w_frames : about1.frames = Frame.invoking theMethod args0 :: below0 := rfl
set_option maxRecDepth 65536 in
theorem w_args : argsFit about1.vm theMethod args0 = true := by decide +kernel
set_option maxRecDepth 65536 in
theorem w_heap : heapFits about1 = true := by decide +kernel
set_option maxRecDepth 65536 in
theorem w_runnable : about1.curStatus? = some .runnable := by decide +kernel
set_option maxRecDepth 65536 in
theorem w_alone : about1.alone = true := by decide +kernel
set_option maxRecDepth 65536 in
theorem w_named : about1.methodNamed? x = some theMethod := by decide +kernel
set_option maxRecDepth 65536 in
theorem w_hears : about1.hears theMethod below0 = true := by decide +kernel
set_option maxRecDepth 65536 in
theorem w_ripe : about1.ripe theMethod args0 below0 = true := by decide +kernel
theorem w_running : about1.status = .running := rfl
set_option maxRecDepth 65536 in
theorem w_room : about1.hasRoom e0.platform room_1 = true :=
  launch0.hasRoom_least _ room_1 (by decide +kernel) (by decide +kernel) (by decide +kernel) (by decide +kernel) (by decide +kernel) (by decide +kernel)
theorem allAtoms_all (ts : List Jvm.Cond) (a : Array Jvm.Value) (st : Jvm.State) : (allAtoms ts).before a st = ts.all (fun c => c.before a st) := by
  induction ts with
  | nil => rfl
  | cons c t ih =>
    show (Jvm.Cond.and c (allAtoms t)).before a st = _
    rw [Jvm.Cond.before_and, ih, List.all_cons]
def words1 : List Jvm.Cond := Jvm.Cond.code x code maxLocals ret :: tables_1
/-- a 'code' word, met by the world's own term for the bytes: nothing is compared byte by byte -/
theorem code_word {y : MethodName} {bytes : ByteArray} {mx : Nat} {rt : Option FieldType} {a : Array Value} {s : State} {m : MethodId} {meth : Method} {c : Code} (h1 : s.methodNamed? y = some m) (h2 : s.vm.method? m = some meth) (h3 : meth.code = some c) (h4 : c.code = bytes)
    (h5 : (c.maxLocals == mx && c.exceptionTable.isEmpty && decide (c.maxStack ≤ mostOperands) && decide (meth.sig.returnType = rt) && !meth.locks && decide (parseMethodDescriptor y.desc = some meth.sig)) = true) : (Jvm.Cond.code y bytes mx rt).before a s = true := by
  simp only [Bool.and_eq_true, beq_iff_eq, Bool.not_eq_true', decide_eq_true_eq] at h5
  obtain ⟨⟨⟨⟨⟨g1, g2⟩, g3⟩, g4⟩, g5⟩, g6⟩ := h5
  simp [Cond.before, Cond.holds, Cond.value, h1, h2, h3, h4, g1, g2, g3, g4, g5, g6]
def isCode : Jvm.Cond → Bool
  | .code _ _ _ _ => true
  | _ => false
theorem all_split {L : List Jvm.Cond} {P : Jvm.Cond → Bool} (h1 : L.all (fun c => isCode c || P c) = true) (h2 : ∀ c ∈ L.filter isCode, P c = true) : L.all P = true := by
  refine List.all_eq_true.mpr fun c hc => ?_
  have h := List.all_eq_true.mp h1 c hc
  rcases Bool.eq_false_or_eq_true (isCode c) with hi | hi
  · exact h2 c (List.mem_filter.mpr ⟨hc, hi⟩)
  · simpa [hi] using h
set_option maxRecDepth 65536 in
theorem w_c0 : (Jvm.Cond.code x code maxLocals ret).before args0 about1 = true := code_word (m := ⟨1, 1⟩) (meth := k1m1) (c := k1c1) (by decide +kernel) rfl rfl rfl (by decide +kernel)
set_option maxRecDepth 65536 in
theorem w_c1 : (Jvm.Cond.code ({ cls := "com/example/gridsteward/gridsteward/HolderAgreesPinLaw", name := "chars", desc := "(II)[C" } : Jvm.MethodName) method_3_code (3 : Nat) (Option.some (Jvm.ClassFile.FieldType.array Jvm.ClassFile.FieldType.char))).before args0 about1 = true := code_word (m := ⟨1, 2⟩) (meth := k1m2) (c := k1c2) (by decide +kernel) rfl rfl rfl (by decide +kernel)
set_option maxRecDepth 65536 in
theorem w_c2 : (Jvm.Cond.code ({ cls := "java/lang/String", name := "<init>", desc := "([C)V" } : Jvm.MethodName) jdk_42_method_3_code (2 : Nat) (Option.none : Option Jvm.ClassFile.FieldType)).before args0 about1 = true := code_word (m := ⟨7, 1⟩) (meth := k7m1) (c := k7c1) (by decide +kernel) rfl rfl rfl (by decide +kernel)
set_option maxRecDepth 65536 in
theorem w_c3 : (Jvm.Cond.code ({ cls := "java/lang/String", name := "<init>", desc := "([CIILjava/lang/Void;)V" } : Jvm.MethodName) jdk_42_method_149_code (6 : Nat) (Option.none : Option Jvm.ClassFile.FieldType)).before args0 about1 = true := code_word (m := ⟨7, 3⟩) (meth := k7m3) (c := k7c3) (by decide +kernel) rfl rfl rfl (by decide +kernel)
set_option maxRecDepth 65536 in
theorem w_c4 : (Jvm.Cond.code ({ cls := "java/lang/Object", name := "<init>", desc := "()V" } : Jvm.MethodName) object_method_1_code (1 : Nat) (Option.none : Option Jvm.ClassFile.FieldType)).before args0 about1 = true := code_word (m := ⟨0, 0⟩) (meth := k0m0) (c := k0c0) (by decide +kernel) rfl rfl rfl (by decide +kernel)
set_option maxRecDepth 65536 in
theorem w_c5 : (Jvm.Cond.code ({ cls := "java/lang/StringUTF16", name := "compress", desc := "([CII)[B" } : Jvm.MethodName) jdk_52_method_16_code (6 : Nat) (Option.some (Jvm.ClassFile.FieldType.array Jvm.ClassFile.FieldType.byte))).before args0 about1 = true := code_word (m := ⟨8, 2⟩) (meth := k8m2) (c := k8c2) (by decide +kernel) rfl rfl rfl (by decide +kernel)
set_option maxRecDepth 65536 in
theorem w_c6 : (Jvm.Cond.code ({ cls := "java/lang/StringUTF16", name := "compress", desc := "([CI[BII)I" } : Jvm.MethodName) jdk_52_method_21_code (7 : Nat) (Option.some Jvm.ClassFile.FieldType.int)).before args0 about1 = true := code_word (m := ⟨8, 3⟩) (meth := k8m3) (c := k8c3) (by decide +kernel) rfl rfl rfl (by decide +kernel)
set_option maxRecDepth 65536 in
theorem w_c7 : (Jvm.Cond.code ({ cls := "java/lang/StringUTF16", name := "coderFromArrayLen", desc := "([BI)B" } : Jvm.MethodName) jdk_52_method_15_code (2 : Nat) (Option.some Jvm.ClassFile.FieldType.byte)).before args0 about1 = true := code_word (m := ⟨8, 1⟩) (meth := k8m1) (c := k8c1) (by decide +kernel) rfl rfl rfl (by decide +kernel)
set_option maxRecDepth 65536 in
theorem w_c8 : (Jvm.Cond.code ({ cls := "com/example/gridsteward/gridsteward/Holder", name := "<init>", desc := "(Ljava/lang/String;Ljava/lang/String;Ljava/lang/String;)V" } : Jvm.MethodName) prog_10_method_1_code (4 : Nat) (Option.none : Option Jvm.ClassFile.FieldType)).before args0 about1 = true := code_word (m := ⟨10, 0⟩) (meth := k10m0) (c := k10c0) (by decide +kernel) rfl rfl rfl (by decide +kernel)
set_option maxRecDepth 65536 in
theorem w_c9 : (Jvm.Cond.code ({ cls := "java/lang/Record", name := "<init>", desc := "()V" } : Jvm.MethodName) jdk_30_method_1_code (1 : Nat) (Option.none : Option Jvm.ClassFile.FieldType)).before args0 about1 = true := code_word (m := ⟨9, 0⟩) (meth := k9m0) (c := k9c0) (by decide +kernel) rfl rfl rfl (by decide +kernel)
set_option maxRecDepth 65536 in
theorem w_c10 : (Jvm.Cond.code ({ cls := "com/example/gridsteward/gridsteward/HolderAgreesPinLaw", name := "same", desc := "([C[C)Z" } : Jvm.MethodName) method_4_code (2 : Nat) (Option.some Jvm.ClassFile.FieldType.boolean)).before args0 about1 = true := code_word (m := ⟨1, 3⟩) (meth := k1m3) (c := k1c3) (by decide +kernel) rfl rfl rfl (by decide +kernel)
set_option maxRecDepth 65536 in
theorem w_c11 : (Jvm.Cond.code ({ cls := "com/example/gridsteward/gridsteward/Holder", name := "agrees", desc := "(Lcom/example/gridsteward/gridsteward/Holder;)Z" } : Jvm.MethodName) prog_10_method_4_code (2 : Nat) (Option.some Jvm.ClassFile.FieldType.boolean)).before args0 about1 = true := code_word (m := ⟨10, 1⟩) (meth := k10m1) (c := k10c1) (by decide +kernel) rfl rfl rfl (by decide +kernel)
set_option maxRecDepth 65536 in
theorem w_c12 : (Jvm.Cond.code ({ cls := "java/lang/String", name := "equals", desc := "(Ljava/lang/Object;)Z" } : Jvm.MethodName) jdk_42_method_66_code (3 : Nat) (Option.some Jvm.ClassFile.FieldType.boolean)).before args0 about1 = true := code_word (m := ⟨7, 2⟩) (meth := k7m2) (c := k7c2) (by decide +kernel) rfl rfl rfl (by decide +kernel)
set_option maxRecDepth 65536 in
theorem w_c13 : (Jvm.Cond.code ({ cls := "java/lang/StringLatin1", name := "equals", desc := "([B[B)Z" } : Jvm.MethodName) jdk_43_method_13_code (3 : Nat) (Option.some Jvm.ClassFile.FieldType.boolean)).before args0 about1 = true := code_word (m := ⟨11, 1⟩) (meth := k11m1) (c := k11c1) (by decide +kernel) rfl rfl rfl (by decide +kernel)
set_option maxRecDepth 65536 in
theorem w_c14 : (Jvm.Cond.code ({ cls := "com/example/gridsteward/gridsteward/Holder", name := "unknownOrEqual", desc := "(Ljava/lang/String;Ljava/lang/String;)Z" } : Jvm.MethodName) prog_10_method_7_code (2 : Nat) (Option.some Jvm.ClassFile.FieldType.boolean)).before args0 about1 = true := code_word (m := ⟨10, 2⟩) (meth := k10m2) (c := k10c2) (by decide +kernel) rfl rfl rfl (by decide +kernel)
def codes1 : List Jvm.Cond := [Jvm.Cond.code x code maxLocals ret, Jvm.Cond.code ({ cls := "com/example/gridsteward/gridsteward/HolderAgreesPinLaw", name := "chars", desc := "(II)[C" } : Jvm.MethodName) method_3_code (3 : Nat) (Option.some (Jvm.ClassFile.FieldType.array Jvm.ClassFile.FieldType.char)), Jvm.Cond.code ({ cls := "java/lang/String", name := "<init>", desc := "([C)V" } : Jvm.MethodName) jdk_42_method_3_code (2 : Nat) (Option.none : Option Jvm.ClassFile.FieldType), Jvm.Cond.code ({ cls := "java/lang/String", name := "<init>", desc := "([CIILjava/lang/Void;)V" } : Jvm.MethodName) jdk_42_method_149_code (6 : Nat) (Option.none : Option Jvm.ClassFile.FieldType), Jvm.Cond.code ({ cls := "java/lang/Object", name := "<init>", desc := "()V" } : Jvm.MethodName) object_method_1_code (1 : Nat) (Option.none : Option Jvm.ClassFile.FieldType), Jvm.Cond.code ({ cls := "java/lang/StringUTF16", name := "compress", desc := "([CII)[B" } : Jvm.MethodName) jdk_52_method_16_code (6 : Nat) (Option.some (Jvm.ClassFile.FieldType.array Jvm.ClassFile.FieldType.byte)), Jvm.Cond.code ({ cls := "java/lang/StringUTF16", name := "compress", desc := "([CI[BII)I" } : Jvm.MethodName) jdk_52_method_21_code (7 : Nat) (Option.some Jvm.ClassFile.FieldType.int), Jvm.Cond.code ({ cls := "java/lang/StringUTF16", name := "coderFromArrayLen", desc := "([BI)B" } : Jvm.MethodName) jdk_52_method_15_code (2 : Nat) (Option.some Jvm.ClassFile.FieldType.byte), Jvm.Cond.code ({ cls := "com/example/gridsteward/gridsteward/Holder", name := "<init>", desc := "(Ljava/lang/String;Ljava/lang/String;Ljava/lang/String;)V" } : Jvm.MethodName) prog_10_method_1_code (4 : Nat) (Option.none : Option Jvm.ClassFile.FieldType), Jvm.Cond.code ({ cls := "java/lang/Record", name := "<init>", desc := "()V" } : Jvm.MethodName) jdk_30_method_1_code (1 : Nat) (Option.none : Option Jvm.ClassFile.FieldType), Jvm.Cond.code ({ cls := "com/example/gridsteward/gridsteward/HolderAgreesPinLaw", name := "same", desc := "([C[C)Z" } : Jvm.MethodName) method_4_code (2 : Nat) (Option.some Jvm.ClassFile.FieldType.boolean), Jvm.Cond.code ({ cls := "com/example/gridsteward/gridsteward/Holder", name := "agrees", desc := "(Lcom/example/gridsteward/gridsteward/Holder;)Z" } : Jvm.MethodName) prog_10_method_4_code (2 : Nat) (Option.some Jvm.ClassFile.FieldType.boolean), Jvm.Cond.code ({ cls := "java/lang/String", name := "equals", desc := "(Ljava/lang/Object;)Z" } : Jvm.MethodName) jdk_42_method_66_code (3 : Nat) (Option.some Jvm.ClassFile.FieldType.boolean), Jvm.Cond.code ({ cls := "java/lang/StringLatin1", name := "equals", desc := "([B[B)Z" } : Jvm.MethodName) jdk_43_method_13_code (3 : Nat) (Option.some Jvm.ClassFile.FieldType.boolean), Jvm.Cond.code ({ cls := "com/example/gridsteward/gridsteward/Holder", name := "unknownOrEqual", desc := "(Ljava/lang/String;Ljava/lang/String;)Z" } : Jvm.MethodName) prog_10_method_7_code (2 : Nat) (Option.some Jvm.ClassFile.FieldType.boolean)]
set_option maxRecDepth 65536 in
theorem codes_eq : words1.filter isCode = codes1 := rfl
theorem w_codes : ∀ c ∈ words1.filter isCode, c.before args0 about1 = true := by
  rw [codes_eq]
  intro c hc
  simp only [codes1, List.mem_cons, List.not_mem_nil, or_false] at hc
  rcases hc with rfl | rfl | rfl | rfl | rfl | rfl | rfl | rfl | rfl | rfl | rfl | rfl | rfl | rfl | rfl
  · exact w_c0
  · exact w_c1
  · exact w_c2
  · exact w_c3
  · exact w_c4
  · exact w_c5
  · exact w_c6
  · exact w_c7
  · exact w_c8
  · exact w_c9
  · exact w_c10
  · exact w_c11
  · exact w_c12
  · exact w_c13
  · exact w_c14
set_option maxRecDepth 65536 in
theorem w_t1 : (words1.take 24).all (fun c => isCode c || c.before args0 about1) = true := by decide +kernel
set_option maxRecDepth 65536 in
theorem w_t2 : ((words1.drop 24).take 24).all (fun c => isCode c || c.before args0 about1) = true := by decide +kernel
set_option maxRecDepth 65536 in
theorem w_t3 : (((words1.drop 24).drop 24).take 24).all (fun c => isCode c || c.before args0 about1) = true := by decide +kernel
set_option maxRecDepth 65536 in
theorem w_t4 : (((words1.drop 24).drop 24).drop 24).all (fun c => isCode c || c.before args0 about1) = true := by decide +kernel
theorem w_tables : (allAtoms (Jvm.Cond.code x code maxLocals ret :: tables_1)).before args0 about1 = true := by
  rw [allAtoms_all]
  show words1.all (fun c => c.before args0 about1) = true
  refine all_split ?_ w_codes
  rw [← List.take_append_drop 24 words1, List.all_append, w_t1, ← List.take_append_drop 24 (words1.drop 24), List.all_append, w_t2, ← List.take_append_drop 24 ((words1.drop 24).drop 24), List.all_append, w_t3, w_t4]
  rfl
set_option maxRecDepth 65536 in
theorem w_rest : rest_1_c.before args0 about1 = true := by decide +kernel
set_option maxRecDepth 65536 in
theorem w_case : (Jvm.Cond.and given_1 narrow_1).before args0 about1 = true := by decide +kernel
theorem w_applies : (headSpec (Jvm.Cond.code x code maxLocals ret :: tables_1) room_1).applies x e0.platform about1 = true :=
  (Spec.applies_iff w_frames).mpr ⟨w_running, w_runnable, w_alone, w_named, w_hears, w_ripe, w_room, w_tables⟩
theorem atStart : AtStart classFile x code maxLocals ret World_1 tables_1 room_1 Calls_1 rest_1 Pre_1 launch0 p0 e0 about1 theMethod args0 below0 :=
  ⟨lists_1, trivial, launch0.admits_env _ _ _, launch0.least_env, fairChoices_fair.cas, fairChoices_fair.clock, w_frames, w_args, w_heap, w_applies, trivial, w_rest, w_case⟩
end start1
theorem witness_1 : WitnessClaimed_1 := ⟨start1.p0, start1.e0, start1.about1, start1.theMethod, start1.args0, start1.below0, start1.atStart⟩
end Jvm.Pilot.@@N@@
