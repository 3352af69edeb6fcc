import JvmDerived
import JvmDerived.Pilot.@@N@@Statement
import JvmDerived.Pilot.@@N@@Code
set_option linter.unusedVariables false
set_option linter.unusedSimpArgs false
open Jvm Jvm.FP
namespace OwnQ
open Jvm.FP.Core
/-- the datum of i quarters -/
def C4 (i : Int) : Datum := roundRatio b64 (decide (i < 0)) i.natAbs 1 (-2)
theorem norm (n : Nat) (h0 : n ≠ 0) (h : n < 2 ^ 53) : ∃ k, k ≤ 52 ∧ 2 ^ 52 ≤ n * 2 ^ k ∧ n * 2 ^ k < 2 ^ 53 := by
  have l1 := Nat.log2_self_le h0
  have l2 := @Nat.lt_log2_self n
  have l3 : n.log2 < 53 := (Nat.log2_lt h0).mpr h
  refine ⟨52 - n.log2, by omega, ?_, ?_⟩
  · calc 2 ^ 52 = 2 ^ n.log2 * 2 ^ (52 - n.log2) := by rw [← Nat.pow_add]; congr 1; omega
      _ ≤ _ := Nat.mul_le_mul_right _ l1
  · calc n * 2 ^ (52 - n.log2) < 2 ^ (n.log2 + 1) * 2 ^ (52 - n.log2) := Nat.mul_lt_mul_of_pos_right l2 (Nat.two_pow_pos _)
      _ = 2 ^ 53 := by rw [← Nat.pow_add]; congr 1; omega
theorem fitsN {s : Bool} {c : Nat} {q : Int} (h1 : 2 ^ 52 ≤ c) (h2 : c < 2 ^ 53) (h3 : -1074 ≤ q) (h4 : q ≤ 971) : fits b64 (.fin s c q) :=
  ⟨h2, h3, h4, Or.inr h1⟩
/-- whole times a power of two, the power near zero -/
theorem form (s : Bool) (n : Nat) (h : n < 2 ^ 53) (e : Int) (he : -1000 ≤ e) (he' : e ≤ 900) : ∃ k : Nat, ((k : Int) ≤ 52 ∨ n = 0) ∧ roundRatio b64 s n 1 e = .fin s (n * 2 ^ k) (e - k) := by
  by_cases h0 : n = 0
  · subst h0
    refine ⟨(e + 1074).toNat, Or.inr rfl, ?_⟩
    rw [show e - ((e + 1074).toNat : Int) = -1074 by omega, Nat.zero_mul]
    rfl
  · obtain ⟨k, k1, k2, k3⟩ := norm n h0 h
    refine ⟨k, Or.inl (by omega), roundRatio_exact good_b64 (by decide) (fitsN k2 k3 (by omega) (by omega)) ?_⟩
    rw [show (e - (e - (k : Int))).toNat = k by omega, show ((e - (k : Int)) - e).toNat = 0 by omega]
    simp
theorem v4 : val64 4616189618054758400 = .fin false (2 ^ 52) (-50) := by decide +kernel
theorem quo {s t : Bool} {c d : Nat} {q r : Int} (hd : d ≠ 0) : quotient b64 (.fin s c q) (.fin t d r) = roundRatio b64 (s != t) c d (q - r) := by
  simp only [quotient, if_neg hd]
theorem quot (a : Int) (h : a.natAbs < 2 ^ 53) : quotient b64 (round b64 (ofInt a)) (.fin false (2 ^ 52) (-50)) = C4 a := by
  show quotient b64 (roundRatio b64 (decide (a < 0)) a.natAbs 1 0) _ = _
  obtain ⟨k, k1, k2⟩ := form (decide (a < 0)) a.natAbs h 0 (by decide) (by decide)
  rw [k2]
  rw [quo (by decide), Bool.bne_false]
  unfold C4
  refine roundRatio_congr (by decide) (by decide) ?_
  rcases k1 with k1 | k1
  · rw [show ((0 - (k : Int) - (-50)) - (-2)).toNat = 52 - k by omega, show ((-2) - (0 - (k : Int) - (-50))).toNat = 0 by omega, Nat.mul_one, Nat.pow_zero, Nat.mul_one, Nat.mul_assoc, ← Nat.pow_add, show k + (52 - k) = 52 by omega]
  · rw [k1]; simp
theorem sum4 (a b : Int) (ha : a.natAbs < 2 ^ 53) (hb : b.natAbs < 2 ^ 53) : round b64 (exactSum (C4 a) (C4 b)) = C4 (a + b) := by
  obtain ⟨k, -, k2⟩ := form (decide (a < 0)) a.natAbs ha (-2) (by decide) (by decide)
  obtain ⟨j, -, j2⟩ := form (decide (b < 0)) b.natAbs hb (-2) (by decide) (by decide)
  have sg : ∀ (x : Int) (m : Nat), signed (decide (x < 0)) (x.natAbs * m) = x * m := by
    intro x m
    unfold signed
    by_cases hx : x < 0
    · rw [if_pos (decide_eq_true hx), Int.natCast_mul, ← Int.neg_mul, show -(x.natAbs : Int) = x by omega]
    · rw [if_neg (by simpa using hx), Int.natCast_mul, show (x.natAbs : Int) = x by omega]
  have m : min ((-2 : Int) - k) (-2 - j) = -2 - (max k j : Nat) := by omega
  have e : sumUnits (decide (a < 0)) (a.natAbs * 2 ^ k) (-2 - k) (decide (b < 0)) (b.natAbs * 2 ^ j) (-2 - j) (min ((-2 : Int) - k) (-2 - j)) = (a + b) * ((2 ^ (max k j) : Nat) : Int) := by
    unfold sumUnits inUnits
    rw [m, show ((-2 : Int) - k - (-2 - (max k j : Nat))).toNat = max k j - k by omega, show ((-2 : Int) - j - (-2 - (max k j : Nat))).toNat = max k j - j by omega, Nat.mul_assoc, Nat.mul_assoc, ← Nat.pow_add, ← Nat.pow_add,
      show k + (max k j - k) = max k j by omega, show j + (max k j - j) = max k j by omega, sg, sg, Int.add_mul]
  unfold C4
  rw [k2, j2]
  show roundRatio b64 (sumSign _ _ (sumUnits _ _ _ _ _ _ _)) (sumUnits _ _ _ _ _ _ _).natAbs 1 (min _ _) = _
  rw [e, m]
  have pp : (0 : Int) < ((2 ^ (max k j) : Nat) : Int) := by exact_mod_cast Nat.two_pow_pos _
  have sgn : sumSign (decide (a < 0)) (decide (b < 0)) ((a + b) * ((2 ^ (max k j) : Nat) : Int)) = decide (a + b < 0) := by
    unfold sumSign
    by_cases z : a + b = 0
    · rw [z, Int.zero_mul, if_pos rfl]
      by_cases ha' : a < 0
      · have : ¬ b < 0 := by omega
        simp [ha', this]
      · simp [ha']
    · rw [if_neg (by intro q; rcases Int.mul_eq_zero.mp q with q | q <;> omega)]
      by_cases n : a + b < 0
      · rw [decide_eq_true n, decide_eq_true (Int.mul_neg_of_neg_of_pos n pp)]
      · rw [decide_eq_false n, decide_eq_false (by have := Int.mul_nonneg (show 0 ≤ a + b by omega) (Int.le_of_lt pp); omega)]
  rw [sgn]
  refine roundRatio_congr (by decide) (by decide) ?_
  rw [show ((-2 : Int) - (max k j : Nat) - (-2)).toNat = 0 by omega, show ((-2 : Int) - (-2 - (max k j : Nat))).toNat = max k j by omega, Int.natAbs_mul, Int.natAbs_natCast]
  simp
theorem C4_nn (a : Int) : C4 a ≠ .nan := roundRatio_ne_nan _ _ _ _ _
end OwnQ
namespace Jvm.Pilot.@@N@@
open Jvm Jvm.ClassFile Sem Op Lib Jvm.Free Jvm.Stand Jvm.LawKit Jvm.RoadKit Bundle Jvm.Pilot.@@N@@.Jvm.D
section Own
variable {p : Program} {l : Launch} {e : Env} {R : Room} {s : State} {m : MethodId} {args : Array Value} {below : List Frame} {meth : Method} {c : Code} {T : State} {locs : List Loc} {cells slots : Nat} {Z : State} {a0 : Array Value} {h : Heap}
theorem wd (hw : ∀ d ∈ tables_1, d.before a0 Z = true) (k : Nat) {d : Jvm.Cond} (q : tables_1[k]? = some d) : d.before a0 Z = true := hw d (List.mem_of_getElem? q)
theorem old_sz {n0 : Nat} (O : Old Z n0 h) : n0 ≤ h.size := O.1 ▸ O.2.1
/-- what is left to show from the state t on -/
def Run (p : Program) (e : Env) (below : List Frame) (A : Outcome → State → Prop) (t : State) : Prop := ∃ u o, Steps p.tables e below t u ∧ u.status = .running ∧ Ended u below o ∧ A o u
theorem go {A : Outcome → State → Prop} {t t' : State} (st : ∀ u, Steps p.tables e below t' u → Steps p.tables e below t u) (k : Run p e below A t') : Run p e below A t := by
  obtain ⟨u, o, k1, k2⟩ := k
  exact ⟨u, o, st u k1, k2⟩
theorem goT {A : Outcome → State → Prop} {t t' : State} (st : Steps p.tables e below t t') (k : Run p e below A t') : Run p e below A t := by
  obtain ⟨u, o, k1, k2⟩ := k
  exact ⟨u, o, st.trans k1, k2⟩
theorem goTsw {A : Outcome → State → Prop} (h : At T m c below) (hx : p.tables.exec = Jvm.exec) {pc pc' len : Nat} {Ls : Array Slot} {rest : List Value} {i : Int32} {dflt low high o : Int} {offs : Array Int} (hd : decode c.code pc = .ok (.tableswitch dflt low high offs, len)) (hin : ¬ (i.toInt < low ∨ i.toInt > high)) (hoff : offs[(i.toInt - low).toNat]? = some o) (ho : 0 ≤ (pc : Int) + o) (hp : ((pc : Int) + o).toNat = pc')
    (k : Run p e below A (T.setTop (mkF m pc' Ls rest))) : Run p e below A (T.setTop (mkF m pc Ls (.int i :: rest))) := go (fun _ => XS.tswIn (g := mkF m pc Ls (.int i :: rest)) h hx rfl (pc0 := pc) rfl hd rfl hin hoff ho hp) k
theorem goTswD {A : Outcome → State → Prop} (h : At T m c below) (hx : p.tables.exec = Jvm.exec) {pc pc' len : Nat} {Ls : Array Slot} {rest : List Value} {i : Int32} {dflt low high : Int} {offs : Array Int} (hd : decode c.code pc = .ok (.tableswitch dflt low high offs, len)) (hout : i.toInt < low ∨ i.toInt > high) (ho : 0 ≤ (pc : Int) + dflt) (hp : ((pc : Int) + dflt).toNat = pc')
    (k : Run p e below A (T.setTop (mkF m pc' Ls rest))) : Run p e below A (T.setTop (mkF m pc Ls (.int i :: rest))) := go (fun _ => XS.tswOut (g := mkF m pc Ls (.int i :: rest)) h hx rfl (pc0 := pc) rfl hd rfl hout ho hp) k
def Ends (s : State) (Q : Option Value → Heap → List Loc → Prop) (k n : Nat) (o : Outcome) (U : State) : Prop := ∃ v L, o = .returned v ∧ Q v U.heap L ∧ FrameEnd s o U L k n
def Meets (l : Launch) (y : MethodName) (bytes : ByteArray) (maxL : Nat) (ret : Option FieldType) (ws : List Jvm.Cond) (rm : Room) (Z : State) (as' : Array Value) (h0 : Heap) (Q : Option Value → Heap → List Loc → Prop) (k n : Nat) : Prop :=
  MetFree l y (head1 (Jvm.Cond.code y bytes maxL ret :: ws) rm) (fun a U => a = as' ∧ Z.Warmed39 U.vm ∧ U.heap = h0) (fun _ _ _ _ _ => True) (fun _ U o U' => ∃ v L, o = .returned v ∧ Q v U'.heap L ∧ FrameEnd U o U' L k n)
theorem enter {y : MethodName} {bytes : ByteArray} {maxL : Nat} {ret : Option FieldType} {ws : List Jvm.Cond} {rm : Room} {as' : Array Value} {h0 : Heap} {Q : Option Value → Heap → List Loc → Prop} {k n : Nat} {Ls : Array Slot} (pf : plainFor y = true) (ef : ∀ m, entryFrame m as' maxL = mkF m 0 Ls [])
    (body : ∀ (p : Program) (e : Env) (s : State) (m : MethodId) (below : List Frame) (meth : Method) (c : Code) (T : State), p.tables.exec = Jvm.exec → c.code = bytes → c.maxLocals = maxL → s.vm.findClass y.cls = some m.cls → meth.name = y.name → meth.sig.returnType = ret → meth.locks = false → Z.Warmed39 s.vm → Stand p l e rm s m as' below meth c T [] 0 0 → T.heap = h0 → Run p e below (Ends s Q k n) (T.setTop (mkF m 0 Ls []))) :
    Meets l y bytes maxL ret ws rm Z as' h0 Q k n := by
  refine MetFree.of_bodySF pf hisR ?_
  intro p e s m args below meth c s₁ Bd hml0 hP hK
  obtain ⟨rfl, hZ, hh⟩ := hP
  obtain ⟨u, o, k1, k2, k3, k4⟩ := body p e s m below meth c s₁ Bd.exec Bd.bytes hml0 (findClass_of_methodNamed Bd.named) (name_of_methodNamed Bd.named Bd.method).1 Bd.returns (BodyLoose.notSynchronized Bd) hZ (Stand.of_body Bd) (by rw [← hh, Bd.state]; rfl)
  exact ⟨u, o, castTop (ef m) k1, k2, k3, k4⟩
theorem smono (X : Stand p l e R s m args below meth c T locs cells slots) {k n : Nat} (hk : cells ≤ k) (hn : slots ≤ n) : Stand p l e R s m args below meth c T locs k n :=
  ⟨X.admits, X.cas, X.clock, X.frames, X.room, X.hears, X.method, X.code, X.here, X.tail, X.warmed, X.limits, X.bytes, X.same.mono hk hn⟩
theorem retI (X : Stand p l e R s m args below meth c T locs cells slots) (hx : p.tables.exec = Jvm.exec) {pc : Nat} {Ls : Array Slot} {z : Int32} {rest : List Value} (hret : meth.sig.returnType = some .int) (hd : decode c.code pc = .ok (.ireturn, 1)) {fs : List Frame}
    (hl : ∀ (f : JFrame) (acts : List Action), f.method = m → f.locked = none → f.entered = [] → (doReturn e (T.setTop f) acts (some (.int z))).1 = T.setFrames fs) : Steps p.tables e below (T.setTop (mkF m pc Ls (.int z :: rest))) (T.setFrames fs) :=
  retOut X hx hret rfl (Or.inl ⟨rfl, Or.inl rfl, _, rfl⟩) hd hl
theorem endI (X : Stand p l e R s m args below meth c T locs cells slots) (hx : p.tables.exec = Jvm.exec) (hlk : meth.locks = false) {Q : Option Value → Heap → List Loc → Prop} {k n pc : Nat} {Ls : Array Slot} {z : Int32} {rest : List Value} (hret : meth.sig.returnType = some .int) (hd : decode c.code pc = .ok (.ireturn, 1)) (hq : Q (some (.int z)) T.heap locs) (hk : cells ≤ k) (hn : slots ≤ n) :
    Run p e below (Ends s Q k n) (T.setTop (mkF m pc Ls (.int z :: rest))) := by
  obtain ⟨fs, hr, hrun, hended, hW, hsame⟩ := X.leave (v := some (.int z)) (fun h => by rw [hret] at h; cases h) hlk
  exact ⟨_, _, retI X hx hret hd hr, hrun, hended, _, _, rfl, hq, ⟨_, rfl⟩, hW, hsame.mono hk hn⟩
theorem endN (X : Stand p l e R s m args below meth c T locs cells slots) (hx : p.tables.exec = Jvm.exec) (hlk : meth.locks = false) {Q : Option Value → Heap → List Loc → Prop} {k n pc : Nat} {Ls : Array Slot} {z : Int32} {rest : List Value} {t : FieldType} (hret : meth.sig.returnType = some t) (ht : t = .boolean ∨ t = .byte ∨ t = .char ∨ t = .short) (hd : decode c.code pc = .ok (.ireturn, 1)) (hq : Q (some (.int (nar t z))) T.heap locs) (hk : cells ≤ k) (hn : slots ≤ n) :
    Run p e below (Ends s Q k n) (T.setTop (mkF m pc Ls (.int z :: rest))) := by
  obtain ⟨fs, hr, hrun, hended, hW, hsame⟩ := X.leave (v := some (.int (nar t z))) (fun h => by rw [hret] at h; cases h) hlk
  exact ⟨_, _, retN X hx hret ht hd hr, hrun, hended, _, _, rfl, hq, ⟨_, rfl⟩, hW, hsame.mono hk hn⟩
theorem endA (X : Stand p l e R s m args below meth c T locs cells slots) (hx : p.tables.exec = Jvm.exec) (hlk : meth.locks = false) {Q : Option Value → Heap → List Loc → Prop} {k n pc : Nat} {Ls : Array Slot} {w : Value} {rest : List Value} {t : FieldType} (hret : meth.sig.returnType = some t) (ht : t.isReference = true) (hv : w.isRef = true) (hd : decode c.code pc = .ok (.areturn, 1)) (hq : Q (some w) T.heap locs) (hk : cells ≤ k) (hn : slots ≤ n) :
    Run p e below (Ends s Q k n) (T.setTop (mkF m pc Ls (w :: rest))) := by
  obtain ⟨fs, hr, hrun, hended, hW, hsame⟩ := X.leave (v := some w) (fun h => by rw [hret] at h; cases h) hlk
  have hn' : narrow t w = w := by cases w <;> first | (cases hv; done) | (cases t <;> first | rfl | (cases ht; done))
  exact ⟨_, _, retOut X hx hret hn' (Or.inr (Or.inr (Or.inr (Or.inr ⟨rfl, ht, hv⟩)))) hd hr, hrun, hended, _, _, rfl, hq, ⟨_, rfl⟩, hW, hsame.mono hk hn⟩
theorem endJ (X : Stand p l e R s m args below meth c T locs cells slots) (hx : p.tables.exec = Jvm.exec) (hlk : meth.locks = false) {Q : Option Value → Heap → List Loc → Prop} {k n pc : Nat} {Ls : Array Slot} {z : Int64} {rest : List Value} (hret : meth.sig.returnType = some .long) (hd : decode c.code pc = .ok (.lreturn, 1)) (hq : Q (some (.long z)) T.heap locs) (hk : cells ≤ k) (hn : slots ≤ n) :
    Run p e below (Ends s Q k n) (T.setTop (mkF m pc Ls (.long z :: rest))) := by
  obtain ⟨fs, hr, hrun, hended, hW, hsame⟩ := X.leave (v := some (.long z)) (fun h => by rw [hret] at h; cases h) hlk
  exact ⟨_, _, retOut X hx hret rfl (Or.inr (Or.inl ⟨rfl, rfl, _, rfl⟩)) hd hr, hrun, hended, _, _, rfl, hq, ⟨_, rfl⟩, hW, hsame.mono hk hn⟩
theorem endD (X : Stand p l e R s m args below meth c T locs cells slots) (hx : p.tables.exec = Jvm.exec) (hlk : meth.locks = false) {Q : Option Value → Heap → List Loc → Prop} {k n pc : Nat} {Ls : Array Slot} {z : UInt64} {rest : List Value} (hret : meth.sig.returnType = some .double) (hd : decode c.code pc = .ok (.dreturn, 1)) (hq : Q (some (.double z)) T.heap locs) (hk : cells ≤ k) (hn : slots ≤ n) :
    Run p e below (Ends s Q k n) (T.setTop (mkF m pc Ls (.double z :: rest))) := by
  obtain ⟨fs, hr, hrun, hended, hW, hsame⟩ := X.leave (v := some (.double z)) (fun h => by rw [hret] at h; cases h) hlk
  exact ⟨_, _, retOut X hx hret rfl (Or.inr (Or.inr (Or.inl ⟨rfl, rfl, _, rfl⟩))) hd hr, hrun, hended, _, _, rfl, hq, ⟨_, rfl⟩, hW, hsame.mono hk hn⟩
theorem endV (X : Stand p l e R s m args below meth c T locs cells slots) (hx : p.tables.exec = Jvm.exec) (hlk : meth.locks = false) {Q : Option Value → Heap → List Loc → Prop} {k n pc : Nat} {Ls : Array Slot} (hret : meth.sig.returnType = none) (hd : decode c.code pc = .ok (.return_, 1)) (hq : Q none T.heap locs) (hk : cells ≤ k) (hn : slots ≤ n) :
    Run p e below (Ends s Q k n) (T.setTop (mkF m pc Ls [])) := by
  obtain ⟨fs, hr, hrun, hended, hW, hsame⟩ := X.leave (v := none) (fun _ => rfl) hlk
  exact ⟨_, _, X.returnOut hx hret hd hr, hrun, hended, _, _, rfl, hq, ⟨_, rfl⟩, hW, hsame.mono hk hn⟩
abbrev Pay (l : Launch) (R : Room) (p : Program) (e : Env) (below : List Frame) (s : State) (args : Array Value) (y : MethodName) (len W : Nat) (as' : Array Value) (h : Heap) (Q : Option Value → Heap → List Loc → Prop) (rc rs : Nat) : Prop :=
  Back l R p e below s args y len W (fun A a => a = as' ∧ A.U.heap = h ∧ A.cells + rc ≤ R.cells ∧ A.slots + rs ≤ R.slots) (fun A _ v B => ∃ L, Q v B.U.heap L ∧ B.locs = A.locs ++ L ∧ B.cells = A.cells + rc ∧ B.slots = A.slots + rs)
theorem Pay.more {y : MethodName} {len W rc rs rs' : Nat} {as' : Array Value} {Q : Option Value → Heap → List Loc → Prop} (hK : Pay l R p e below s args y len W as' h Q rc rs) (q : rs ≤ rs') : Pay l R p e below s args y len W as' h Q rc rs' := fun m meth c A g ig mk a X hg hsz hd hW hn hp => by
  obtain ⟨v, B, X', ⟨L, q1, q2, q3, q4⟩, st⟩ := hK m meth c A g ig mk a X hg hsz hd hW hn ⟨hp.1, hp.2.1, hp.2.2.1, Nat.le_trans (Nat.add_le_add_left q _) hp.2.2.2⟩
  exact ⟨v, (B.U, B.locs, B.cells, A.slots + rs'), smono X' (Nat.le_refl _) (by rw [q4]; exact Nat.add_le_add_left q _), ⟨L, q1, q2, q3, rfl⟩, st⟩
theorem narR {v : Value} {C : String} (h : v.isRef = true) : narrow (.object C) v = v := by cases v <;> first | rfl | (cases h; done)
theorem catR {v : Value} (h : v.isRef = true) : v.category = 1 := by cases v <;> first | rfl | (cases h; done)
theorem fitR {v : Value} {C : String} (h : v.isRef = true) : fits (.object C) v = true := by cases v <;> first | rfl | (cases h; done)
theorem callSt (X : Stand p l e R s m args below meth c T locs cells slots) (hx : p.tables.exec = Jvm.exec) (hZ : Z.Warmed39 s.vm) {own : String} {index : Nat} {y : MethodName} {bytes : ByteArray} {maxL : Nat} {ret : Option FieldType} {rm : Room} {Q : Option Value → Heap → List Loc → Prop} (hown : s.vm.findClass own = some m.cls)
    (w1 : (Jvm.Cond.methodLink own index y).before a0 Z = true) (w2 : (Jvm.Cond.static y).before a0 Z = true) (w3 : (Jvm.Cond.initialized y.cls).before a0 Z = true) (w4 : (Jvm.Cond.code y bytes maxL ret).before a0 Z = true) (hy : y.cls ≠ "java/lang/invoke/MethodHandle" ∧ y.cls ≠ "java/lang/invoke/VarHandle") (eT : T.heap = h) {argsL rest : List Value}
    (hM : Meets l y bytes maxL ret [] rm Z argsL.toArray h Q rm.cells rm.slots) {W : Nat} (hf : rm.frames + 1 ≤ R.frames) (hl : W + (maxL + 11) + rm.locals ≤ R.locals) (hc : cells + rm.cells ≤ R.cells) (hn : slots + rm.slots ≤ R.slots)
    {pc : Nat} {Ls : Array Slot} {st : List Value} (hsize : Ls.size = c.maxLocals) (hlen : ∀ sig, parseMethodDescriptor y.desc = some sig → argsL.length = sig.parameters.length) (hst : st = argsL.reverse ++ rest) (hW : (rest.map fun v => v.category).sum ≤ W) (hd : decode c.code pc = .ok (.invokestatic index, 3)) {A : Outcome → State → Prop}
    (kk : ∀ (v : Option Value) (T' : State) (L : List Loc) (h' : Heap), Stand p l e R s m args below meth c T' (locs ++ L) (cells + rm.cells) (slots + rm.slots) → T'.heap = h' → Q v h' L → Run p e below A (T'.setTop (mkF m (pc + 3) Ls (v.toList ++ rest)))) : Run p e below A (T.setTop (mkF m pc Ls st)) := by
  obtain ⟨v, _, ⟨T18, L18, k18, n18⟩, -, X18, ⟨Lc18, hQ18, l18, y18, z18⟩, st18⟩ := Jvm.LawKit.callS X hx hown (mvT hZ w1) (mvT hZ w2) (mvT hZ w3) (mvT hZ w4) hy (backOf (W := W) hM hZ w4 w3 hf hl) (g := mkF m pc Ls st) rfl hsize (argsL := argsL) (rest := rest) hlen hst (by show 2 * 0 + _ ≤ _; omega) hd (fun _ _ => ⟨rfl, eT, hc, hn⟩)
  dsimp only [Pt.U, Pt.locs, Pt.cells, Pt.slots] at X18 l18 y18 z18 st18 hQ18
  subst l18 y18 z18
  exact go st18 (kk v _ _ _ X18 rfl hQ18)
theorem callVi (X : Stand p l e R s m args below meth c T locs cells slots) (hx : p.tables.exec = Jvm.exec) (hZ : Z.Warmed39 s.vm) {own C : String} {index : Nat} {y z : MethodName} {bytes : ByteArray} {maxL : Nat} {ret : Option FieldType} {rm : Room} {Q : Option Value → Heap → List Loc → Prop} (hown : s.vm.findClass own = some m.cls)
    (w1 : (Jvm.Cond.methodLink own index y).before a0 Z = true) (w2 : (Jvm.Cond.declares y).before a0 Z = true) (nf : NotFace s y) (w5 : (Jvm.Cond.selects C y z).before a0 Z = true) (w6 : (Jvm.Cond.instanceMethod z).before a0 Z = true) (w4 : (Jvm.Cond.code z bytes maxL ret).before a0 Z = true) (w3 : (Jvm.Cond.initialized z.cls).before a0 Z = true) (hy : y.cls ≠ "java/lang/invoke/MethodHandle" ∧ y.cls ≠ "java/lang/invoke/VarHandle") (eT : T.heap = h) {a : Addr} (E : Exa Z h a C) {argsL rest : List Value}
    (hM : Meets l z bytes maxL ret [] rm Z (.ref a :: argsL).toArray h Q rm.cells rm.slots) {W : Nat} (hf : rm.frames + 1 ≤ R.frames) (hl : W + (maxL + 11) + rm.locals ≤ R.locals) (hc : cells + rm.cells ≤ R.cells) (hn : slots + rm.slots ≤ R.slots)
    {pc : Nat} {Ls : Array Slot} {st : List Value} (hsize : Ls.size = c.maxLocals) (hlen : ∀ sig, parseMethodDescriptor y.desc = some sig → argsL.length = sig.parameters.length) (hst : st = argsL.reverse ++ .ref a :: rest) (hW : (rest.map fun v => v.category).sum ≤ W) (hd : decode c.code pc = .ok (.invokevirtual index, 3)) {A : Outcome → State → Prop}
    (kk : ∀ (v : Option Value) (T' : State) (L : List Loc) (h' : Heap), Stand p l e R s m args below meth c T' (locs ++ L) (cells + rm.cells) (slots + rm.slots) → T'.heap = h' → Q v h' L → Run p e below A (T'.setTop (mkF m (pc + 3) Ls (v.toList ++ rest)))) : Run p e below A (T.setTop (mkF m pc Ls st)) := by
  obtain ⟨cq, kq, qa, qb, qc⟩ := isOf hZ eT E
  obtain ⟨v, _, ⟨T18, L18, k18, n18⟩, -, X18, ⟨Lc18, hQ18, l18, y18, z18⟩, st18⟩ := X.virtualBack hx (y := y) (z := z) hown (mvT hZ w1) (mvT hZ w2) nf (mvT hZ w5) (mvT hZ w6) hy (backOf (W := W) hM hZ w4 w3 hf hl) qa qc (g := mkF m pc Ls st) rfl hsize (Steps.refl _) (argsL := argsL) (rest := rest) hlen hst (by show 2 * 0 + _ ≤ _; omega) hd (fun _ _ => ⟨rfl, eT, hc, hn⟩)
  dsimp only [Pt.U, Pt.locs, Pt.cells, Pt.slots] at X18 l18 y18 z18 st18 hQ18
  subst l18 y18 z18
  exact goT st18 (kk v _ _ _ X18 rfl hQ18)
theorem callSp (X : Stand p l e R s m args below meth c T locs cells slots) (hx : p.tables.exec = Jvm.exec) (hZ : Z.Warmed39 s.vm) {own : String} {index : Nat} {y : MethodName} (hy1 : y.name = "<init>") {bytes : ByteArray} {maxL : Nat} {rm : Room} {Q : Option Value → Heap → List Loc → Prop} (hown : s.vm.findClass own = some m.cls)
    (w1 : (Jvm.Cond.methodLink own index y).before a0 Z = true) (w6 : (Jvm.Cond.instanceMethod y).before a0 Z = true) (w4 : (Jvm.Cond.code y bytes maxL none).before a0 Z = true) (w3 : (Jvm.Cond.initialized y.cls).before a0 Z = true) (hy : y.cls ≠ "java/lang/invoke/MethodHandle" ∧ y.cls ≠ "java/lang/invoke/VarHandle") (eT : T.heap = h) {a : Addr} {argsL rest : List Value}
    (hM : Meets l y bytes maxL none [] rm Z (.ref a :: argsL).toArray h Q rm.cells rm.slots) {W : Nat} (hf : rm.frames + 1 ≤ R.frames) (hl : W + (maxL + 11) + rm.locals ≤ R.locals) (hc : cells + rm.cells ≤ R.cells) (hn : slots + rm.slots ≤ R.slots)
    {pc : Nat} {Ls : Array Slot} {st : List Value} (hsize : Ls.size = c.maxLocals) (hlen : ∀ sig, parseMethodDescriptor y.desc = some sig → argsL.length = sig.parameters.length) (hst : st = argsL.reverse ++ .ref a :: rest) (hW : (rest.map fun v => v.category).sum ≤ W) (hd : decode c.code pc = .ok (.invokespecial index, 3)) {A : Outcome → State → Prop}
    (kk : ∀ (v : Option Value) (T' : State) (L : List Loc) (h' : Heap), Stand p l e R s m args below meth c T' (locs ++ L) (cells + rm.cells) (slots + rm.slots) → T'.heap = h' → Q v h' L → Run p e below A (T'.setTop (mkF m (pc + 3) Ls (v.toList ++ rest)))) : Run p e below A (T.setTop (mkF m pc Ls st)) := by
  obtain ⟨v, _, ⟨T18, L18, k18, n18⟩, -, X18, ⟨Lc18, hQ18, l18, y18, z18⟩, st18⟩ := X.specialBack hx (y := y) hy1 hown (mvT hZ w1) (mvT hZ w6) (mvT hZ w4) hy (backOf (W := W) hM hZ w4 w3 hf hl) (g := mkF m pc Ls st) rfl hsize (Steps.refl _) (a := a) (argsL := argsL) (rest := rest) hlen hst (by show 2 * 0 + _ ≤ _; omega) hd (fun _ _ => ⟨rfl, eT, hc, hn⟩)
  dsimp only [Pt.U, Pt.locs, Pt.cells, Pt.slots] at X18 l18 y18 z18 st18 hQ18
  subst l18 y18 z18
  exact goT st18 (kk v _ _ _ X18 rfl hQ18)
theorem callSpN (X : Stand p l e R s m args below meth c T locs cells slots) (hx : p.tables.exec = Jvm.exec) (hZ : Z.Warmed39 s.vm) {own host : String} {index : Nat} {y : MethodName} (hy1 : y.name = "<init>") {bytes : ByteArray} {maxL : Nat} {rm : Room} {Q : Option Value → Heap → List Loc → Prop} (hown : s.vm.findClass own = some m.cls)
    (w1 : (Jvm.Cond.methodLinkNest own index y host).before a0 Z = true) (w6 : (Jvm.Cond.instanceMethod y).before a0 Z = true) (w4 : (Jvm.Cond.code y bytes maxL none).before a0 Z = true) (w3 : (Jvm.Cond.initialized y.cls).before a0 Z = true) (hy : y.cls ≠ "java/lang/invoke/MethodHandle" ∧ y.cls ≠ "java/lang/invoke/VarHandle") (eT : T.heap = h) {a : Addr} {argsL rest : List Value}
    (hM : Meets l y bytes maxL none [] rm Z (.ref a :: argsL).toArray h Q rm.cells rm.slots) {W : Nat} (hf : rm.frames + 1 ≤ R.frames) (hl : W + (maxL + 11) + rm.locals ≤ R.locals) (hc : cells + rm.cells ≤ R.cells) (hn : slots + rm.slots ≤ R.slots)
    {pc : Nat} {Ls : Array Slot} {st : List Value} (hsize : Ls.size = c.maxLocals) (hlen : ∀ sig, parseMethodDescriptor y.desc = some sig → argsL.length = sig.parameters.length) (hst : st = argsL.reverse ++ .ref a :: rest) (hW : (rest.map fun v => v.category).sum ≤ W) (hd : decode c.code pc = .ok (.invokespecial index, 3)) {A : Outcome → State → Prop}
    (kk : ∀ (v : Option Value) (T' : State) (L : List Loc) (h' : Heap), Stand p l e R s m args below meth c T' (locs ++ L) (cells + rm.cells) (slots + rm.slots) → T'.heap = h' → Q v h' L → Run p e below A (T'.setTop (mkF m (pc + 3) Ls (v.toList ++ rest)))) : Run p e below A (T.setTop (mkF m pc Ls st)) := by
  obtain ⟨v, _, ⟨T18, L18, k18, n18⟩, -, X18, ⟨Lc18, hQ18, l18, y18, z18⟩, st18⟩ := X.specialBackNest hx (y := y) hy1 hown (Cond.methodLinkNest_wide hZ w1 :) (mvT hZ w6) (mvT hZ w4) hy (backOf (W := W) hM hZ w4 w3 hf hl) (g := mkF m pc Ls st) rfl hsize (Steps.refl _) (a := a) (argsL := argsL) (rest := rest) hlen hst (by show 2 * 0 + _ ≤ _; omega) hd (fun _ _ => ⟨rfl, eT, hc, hn⟩)
  dsimp only [Pt.U, Pt.locs, Pt.cells, Pt.slots] at X18 l18 y18 z18 st18 hQ18
  subst l18 y18 z18
  exact goT st18 (kk v _ _ _ X18 rfl hQ18)
theorem callPr (X : Stand p l e R s m args below meth c T locs cells slots) (hx : p.tables.exec = Jvm.exec) (hZ : Z.Warmed39 s.vm) {own C : String} {index : Nat} {y : MethodName} {bytes : ByteArray} {maxL : Nat} {ret : Option FieldType} {rm : Room} {Q : Option Value → Heap → List Loc → Prop} (hown : s.vm.findClass own = some m.cls)
    (w1 : (Jvm.Cond.methodLink own index y).before a0 Z = true) (w2 : (Jvm.Cond.privateMethod y).before a0 Z = true) (w5 : (Jvm.Cond.selects y.cls y y).before a0 Z = true) (w6 : (Jvm.Cond.instanceMethod y).before a0 Z = true) (w4 : (Jvm.Cond.code y bytes maxL ret).before a0 Z = true) (w3 : (Jvm.Cond.initialized y.cls).before a0 Z = true) (hy : y.cls ≠ "java/lang/invoke/MethodHandle" ∧ y.cls ≠ "java/lang/invoke/VarHandle") (eT : T.heap = h) {a : Addr} (E : Exa Z h a C) {argsL rest : List Value}
    (hM : Meets l y bytes maxL ret [] rm Z (.ref a :: argsL).toArray h Q rm.cells rm.slots) {W : Nat} (hf : rm.frames + 1 ≤ R.frames) (hl : W + (maxL + 11) + rm.locals ≤ R.locals) (hc : cells + rm.cells ≤ R.cells) (hn : slots + rm.slots ≤ R.slots)
    {pc : Nat} {Ls : Array Slot} {st : List Value} (hsize : Ls.size = c.maxLocals) (hlen : ∀ sig, parseMethodDescriptor y.desc = some sig → argsL.length = sig.parameters.length) (hst : st = argsL.reverse ++ .ref a :: rest) (hW : (rest.map fun v => v.category).sum ≤ W) (hd : decode c.code pc = .ok (.invokevirtual index, 3)) {A : Outcome → State → Prop}
    (kk : ∀ (v : Option Value) (T' : State) (L : List Loc) (h' : Heap), Stand p l e R s m args below meth c T' (locs ++ L) (cells + rm.cells) (slots + rm.slots) → T'.heap = h' → Q v h' L → Run p e below A (T'.setTop (mkF m (pc + 3) Ls (v.toList ++ rest)))) : Run p e below A (T.setTop (mkF m pc Ls st)) := by
  obtain ⟨cl, hcl, hob⟩ := Exa.cell E
  obtain ⟨v, _, ⟨T18, L18, k18, n18⟩, -, X18, ⟨Lc18, hQ18, l18, y18, z18⟩, st18⟩ := X.privateBack hx (y := y) hown (mvT hZ w1) (mvT hZ w6) (mvT hZ w5) (Cond.privateMethod_at (mvP hZ w2 (args := #[]))) (mvT hZ w4) hy (backOf (W := W) hM hZ w4 w3 hf hl) (g := mkF m pc Ls st) rfl hsize (Steps.refl _) (a := a) (by rw [eT]; exact hcl) hob (argsL := argsL) (rest := rest) hlen hst (by show 2 * 0 + _ ≤ _; omega) hd (fun _ _ => ⟨rfl, eT, hc, hn⟩)
  dsimp only [Pt.U, Pt.locs, Pt.cells, Pt.slots] at X18 l18 y18 z18 st18 hQ18
  subst l18 y18 z18
  exact goT st18 (kk v _ _ _ X18 rfl hQ18)
theorem callIf (X : Stand p l e R s m args below meth c T locs cells slots) (hx : p.tables.exec = Jvm.exec) (hZ : Z.Warmed39 s.vm) {own C : String} {index count : Nat} {y z : MethodName} {bytes : ByteArray} {maxL : Nat} {ret : Option FieldType} {rm : Room} {Q : Option Value → Heap → List Loc → Prop} (hown : s.vm.findClass own = some m.cls)
    (w1 : (Jvm.Cond.methodLink own index y).before a0 Z = true) (w2 : (Jvm.Cond.declares y).before a0 Z = true) (w7 : (Jvm.Cond.interfaceMethod y.cls y.cls y.name y.desc).before a0 Z = true) (k7 : ((Jvm.Cond.interfaceMethod y.cls y.cls y.name y.desc).onTables && (Jvm.Cond.interfaceMethod y.cls y.cls y.name y.desc).keepsFace) = true) (w5 : (Jvm.Cond.selects C y z).before a0 Z = true) (w6 : (Jvm.Cond.instanceMethod z).before a0 Z = true) (w8 : (Jvm.Cond.publicMethod z).before a0 Z = true) (w9 : (Jvm.Cond.unhidden C y.name y.desc).before a0 Z = true) (w10 : (Jvm.Cond.castable C y.cls).before a0 Z = true)
    (w4 : (Jvm.Cond.code z bytes maxL ret).before a0 Z = true) (w3 : (Jvm.Cond.initialized z.cls).before a0 Z = true) (hy : y.cls ≠ "java/lang/invoke/MethodHandle" ∧ y.cls ≠ "java/lang/invoke/VarHandle") (eT : T.heap = h) {a : Addr} (E : Exa Z h a C) {argsL rest : List Value}
    (hM : Meets l z bytes maxL ret [] rm Z (.ref a :: argsL).toArray h Q rm.cells rm.slots) {W : Nat} (hf : rm.frames + 1 ≤ R.frames) (hl : W + (maxL + 11) + rm.locals ≤ R.locals) (hc : cells + rm.cells ≤ R.cells) (hn : slots + rm.slots ≤ R.slots)
    {pc : Nat} {Ls : Array Slot} {st : List Value} (hsize : Ls.size = c.maxLocals) (hlen : ∀ sig, parseMethodDescriptor y.desc = some sig → argsL.length = sig.parameters.length) (hst : st = argsL.reverse ++ .ref a :: rest) (hW : (rest.map fun v => v.category).sum ≤ W) (hd : decode c.code pc = .ok (.invokeinterface index count, 5)) {A : Outcome → State → Prop}
    (kk : ∀ (v : Option Value) (T' : State) (L : List Loc) (h' : Heap), Stand p l e R s m args below meth c T' (locs ++ L) (cells + rm.cells) (slots + rm.slots) → T'.heap = h' → Q v h' L → Run p e below A (T'.setTop (mkF m (pc + 5) Ls (v.toList ++ rest)))) : Run p e below A (T.setTop (mkF m pc Ls st)) := by
  obtain ⟨cq, kq, qa, qb, qc⟩ := isOf hZ eT E
  obtain ⟨v, _, ⟨T18, L18, k18, n18⟩, -, X18, ⟨Lc18, hQ18, l18, y18, z18⟩, st18⟩ := X.interfaceBack hx (xi := y) (y := z) hown (mvT hZ w1) (mvT hZ w2) (mvT hZ w7 k7) (mvT hZ w5) (mvT hZ w6) (mvT hZ w8) (mvT hZ w9) (mvT hZ w10) hy (backOf (W := W) hM hZ w4 w3 hf hl) qa qb qc (g := mkF m pc Ls st) rfl hsize (Steps.refl _) (argsL := argsL) (rest := rest) hlen hst (by show 2 * 0 + _ ≤ _; omega) hd (fun _ _ => ⟨rfl, eT, hc, hn⟩)
  dsimp only [Pt.U, Pt.locs, Pt.cells, Pt.slots] at X18 l18 y18 z18 st18 hQ18
  subst l18 y18 z18
  exact goT st18 (kk v _ _ _ X18 rfl hQ18)
theorem callViK (X : Stand p l e R s m args below meth c T locs cells slots) (hx : p.tables.exec = Jvm.exec) (hZ : Z.Warmed39 s.vm) {own C : String} {index : Nat} {y z : MethodName} {Q : Option Value → Heap → List Loc → Prop} (hown : s.vm.findClass own = some m.cls)
    (w1 : (Jvm.Cond.methodLink own index y).before a0 Z = true) (w2 : (Jvm.Cond.declares y).before a0 Z = true) (nf : NotFace s y) (w5 : (Jvm.Cond.selects C y z).before a0 Z = true) (w6 : (Jvm.Cond.instanceMethod z).before a0 Z = true) (hy : y.cls ≠ "java/lang/invoke/MethodHandle" ∧ y.cls ≠ "java/lang/invoke/VarHandle") (eT : T.heap = h) {a : Addr} (E : Exa Z h a C) {argsL rest : List Value}
    {rc rs W : Nat} (hK : Pay l R p e below s args z 3 W (.ref a :: argsL).toArray h Q rc rs) (hc : cells + rc ≤ R.cells) (hn : slots + rs ≤ R.slots)
    {pc : Nat} {Ls : Array Slot} {st : List Value} (hsize : Ls.size = c.maxLocals) (hlen : ∀ sig, parseMethodDescriptor y.desc = some sig → argsL.length = sig.parameters.length) (hst : st = argsL.reverse ++ .ref a :: rest) (hW : (rest.map fun v => v.category).sum ≤ W) (hd : decode c.code pc = .ok (.invokevirtual index, 3)) {A : Outcome → State → Prop}
    (kk : ∀ (v : Option Value) (T' : State) (L : List Loc) (h' : Heap), Stand p l e R s m args below meth c T' (locs ++ L) (cells + rc) (slots + rs) → T'.heap = h' → Q v h' L → Run p e below A (T'.setTop (mkF m (pc + 3) Ls (v.toList ++ rest)))) : Run p e below A (T.setTop (mkF m pc Ls st)) := by
  obtain ⟨cq, kq, qa, qb, qc⟩ := isOf hZ eT E
  obtain ⟨v, _, ⟨T18, L18, k18, n18⟩, -, X18, ⟨Lc18, hQ18, l18, y18, z18⟩, st18⟩ := X.virtualBack hx (y := y) (z := z) hown (mvT hZ w1) (mvT hZ w2) nf (mvT hZ w5) (mvT hZ w6) hy hK qa qc (g := mkF m pc Ls st) rfl hsize (Steps.refl _) (argsL := argsL) (rest := rest) hlen hst (by show 2 * 0 + _ ≤ _; omega) hd (fun _ _ => ⟨rfl, eT, hc, hn⟩)
  dsimp only [Pt.U, Pt.locs, Pt.cells, Pt.slots] at X18 l18 y18 z18 st18 hQ18
  subst l18 y18 z18
  exact goT st18 (kk v _ _ _ X18 rfl hQ18)
theorem callSpK (X : Stand p l e R s m args below meth c T locs cells slots) (hx : p.tables.exec = Jvm.exec) (hZ : Z.Warmed39 s.vm) {own : String} {index : Nat} {y : MethodName} (hy1 : y.name = "<init>") {bytes : ByteArray} {maxL : Nat} {Q : Option Value → Heap → List Loc → Prop} (hown : s.vm.findClass own = some m.cls)
    (w1 : (Jvm.Cond.methodLink own index y).before a0 Z = true) (w6 : (Jvm.Cond.instanceMethod y).before a0 Z = true) (w4 : (Jvm.Cond.code y bytes maxL none).before a0 Z = true) (hy : y.cls ≠ "java/lang/invoke/MethodHandle" ∧ y.cls ≠ "java/lang/invoke/VarHandle") (eT : T.heap = h) {a : Addr} {argsL rest : List Value}
    {rc rs W : Nat} (hK : Pay l R p e below s args y 3 W (.ref a :: argsL).toArray h Q rc rs) (hc : cells + rc ≤ R.cells) (hn : slots + rs ≤ R.slots)
    {pc : Nat} {Ls : Array Slot} {st : List Value} (hsize : Ls.size = c.maxLocals) (hlen : ∀ sig, parseMethodDescriptor y.desc = some sig → argsL.length = sig.parameters.length) (hst : st = argsL.reverse ++ .ref a :: rest) (hW : (rest.map fun v => v.category).sum ≤ W) (hd : decode c.code pc = .ok (.invokespecial index, 3)) {A : Outcome → State → Prop}
    (kk : ∀ (v : Option Value) (T' : State) (L : List Loc) (h' : Heap), Stand p l e R s m args below meth c T' (locs ++ L) (cells + rc) (slots + rs) → T'.heap = h' → Q v h' L → Run p e below A (T'.setTop (mkF m (pc + 3) Ls (v.toList ++ rest)))) : Run p e below A (T.setTop (mkF m pc Ls st)) := by
  obtain ⟨v, _, ⟨T18, L18, k18, n18⟩, -, X18, ⟨Lc18, hQ18, l18, y18, z18⟩, st18⟩ := X.specialBack hx (y := y) hy1 hown (mvT hZ w1) (mvT hZ w6) (mvT hZ w4) hy hK (g := mkF m pc Ls st) rfl hsize (Steps.refl _) (a := a) (argsL := argsL) (rest := rest) hlen hst (by show 2 * 0 + _ ≤ _; omega) hd (fun _ _ => ⟨rfl, eT, hc, hn⟩)
  dsimp only [Pt.U, Pt.locs, Pt.cells, Pt.slots] at X18 l18 y18 z18 st18 hQ18
  subst l18 y18 z18
  exact goT st18 (kk v _ _ _ X18 rfl hQ18)
/-- no subclass, by the words of the one's superclasses and of the other's 'instantiable' -/
theorem ns_root {O K : String} {n : Nat} (w : (Jvm.Cond.noSuperclass O).before a0 Z = true) (wk : (Jvm.Cond.instantiable K n).before a0 Z = true) (hn : O ≠ K) : NS Z O K := by
  obtain ⟨c, k, h1, h2, h3, -, -⟩ := Cond.noSuperclass_spec w
  obtain ⟨t, kt, g1, -⟩ := Cond.instantiable_spec wk
  have ne := ids_ne h1 g1 hn
  refine ⟨c, t, h1, g1, fun fuel => ?_⟩
  cases fuel with
  | zero => rfl
  | succ f => simp [Vm.isSubclassAux, ne, h2, h3]
theorem ns_no {C S K : String} {n : Nat} (w : (Jvm.Cond.superclass C S).before a0 Z = true) (wk : (Jvm.Cond.instantiable K n).before a0 Z = true) (q : NS Z C K) (hn : C ≠ K) : ∃ c t, Z.vm.findClass C = some c ∧ Z.vm.findClass K = some t ∧ Z.vm.assignable c t = false := by
  obtain ⟨c, t, h0, g0, n3⟩ := q
  obtain ⟨p, k, kp, h1, h2, h3, h4, h5, -, h7⟩ := Cond.superclass_spec h0 w
  obtain ⟨t', kt, g1, g2, g3, g4, -⟩ := Cond.instantiable_spec wk
  cases g0.symm.trans g1
  have ne := ids_ne h0 g0 hn
  have g5 : kt.isInterface = false := by
    cases hi : kt.isInterface with
    | false => rfl
    | true => simp [hi] at g4
  refine ⟨c, t, h0, g0, ?_⟩
  show Z.vm.assignableAux (255 + 1) c t = false
  simp [Vm.assignableAux, ne, h2, g2, h5, g3, g5, Vm.isSubclass, n3]
/-- a static that holds an object of one class, out of the case's words -/
theorem sta_exa {C n d K : String} (w1 : (Jvm.Cond.initialized C).before a0 Z = true) (w2 : (Jvm.Cond.laysStatic C n d).before a0 Z = true) (hx : (Jvm.Cond.exactly (Jvm.Term.static C n d) K).value a0 Z none Z [] = some true) :
    ∃ a, (Jvm.Term.static C n d).eval a0 Z none [] Z = some (.ref a) ∧ Sta Z Z.heap C n d (.ref a) ∧ Exa Z Z.heap a K := by
  obtain ⟨a, ev⟩ := exa_v hx
  exact ⟨a, ev, Sta.start ev (Or.inr ⟨w1, w2⟩), Exa.start ev hx⟩
theorem fld_int {t : Jvm.Term} {a : Addr} {C n d : String} {k : Int32} (ev : t.eval a0 Z none [] Z = some (.ref a)) (hq : (Jvm.Cond.eq (Jvm.Term.field t C n d) (Jvm.Term.int k)).value a0 Z none Z [] = some true) : Fld Z Z.heap a C n d (.int k) := by
  refine Fld.start ?_
  have e1 : (Jvm.Term.field t C n d).eval a0 Z none [] Z = Z.fieldOf? a C n d := fld_at ev
  have e2 : (Jvm.Term.int k).eval a0 Z none [] Z = some (.int k) := Term.int_eval k
  simp only [Cond.value, e1, e2] at hq
  cases hf : Z.fieldOf? a C n d with
  | none => simp [hf] at hq
  | some x => cases x <;> simp [hf] at hq ⊢; exact hq
end Own
def pt (x : Int32) : Int64 := (x % (1048576 : Int32)).toInt64
theorem pt_b (x : Int32) : (pt x).toInt.natAbs < 1048576 := by
  have e : (pt x).toInt = x.toInt.tmod 1048576 := by
    unfold pt
    rw [c_i2l, Int32.toInt_mod]; rfl
  rw [e, Int.natAbs_tmod]
  exact Nat.mod_lt _ (by decide)
theorem own_ad {x y : Int64} {n m : Nat} (hx : x.toInt.natAbs < n) (hy : y.toInt.natAbs < m) (hn : n ≤ 100000000) (hm : m ≤ 100000000) : (x + y).toInt = x.toInt + y.toInt ∧ (x + y).toInt.natAbs < n + m := by
  have e := add64 (a := x) (b := y) ⟨by omega, by omega⟩ ⟨by omega, by omega⟩
  exact ⟨e, by omega⟩
theorem q_div (x : Int64) (h : x.toInt.natAbs < 100000000) : FP.Core.val64 (FP.ddiv (FP.l2d x) (4616189618054758400 : UInt64)) = OwnQ.C4 x.toInt := by
  show FP.Core.val64 (FP.Core.ddiv (FP.Core.l2d x) _) = _
  rw [FP.Core.val64_ddiv, FP.Core.val64_l2d, OwnQ.v4]
  exact OwnQ.quot _ (by omega)
theorem q_add {x y : UInt64} {i j : Int} (hx : FP.Core.val64 x = OwnQ.C4 i) (hy : FP.Core.val64 y = OwnQ.C4 j) (hi : i.natAbs < 100000000) (hj : j.natAbs < 100000000) : FP.Core.val64 (FP.dadd x y) = OwnQ.C4 (i + j) := by
  show FP.Core.val64 (FP.Core.dadd x y) = _
  rw [FP.Core.val64_dadd, hx, hy]
  exact OwnQ.sum4 _ _ (by omega) (by omega)
theorem q_nn {x : UInt64} {i : Int} (hx : FP.Core.val64 x = OwnQ.C4 i) : Jvm.Free.Fl.NoNaN64 x := Jvm.Free.Fl.val64_no.mpr (hx ▸ OwnQ.C4_nn i)
theorem d_m2_0 : decode method_2_code 0 = .ok (.iload_n 0, 1) := by decide +kernel
theorem d_m2_1 : decode method_2_code 1 = .ok (.ldc 7, 2) := by decide +kernel
theorem d_m2_3 : decode method_2_code 3 = .ok (.irem, 1) := by decide +kernel
theorem d_m2_4 : decode method_2_code 4 = .ok (.i2l, 1) := by decide +kernel
theorem d_m2_5 : decode method_2_code 5 = .ok (.lreturn, 1) := by decide +kernel
theorem pn_0 : plainName "com/example/visit_by_value/visitbyvalue/core/PageWeightTotalPinLaw" = true := by first | (simp [plainName, overriddenIn]; done) | decide +kernel
def Q_rm_part (p1 : Int32) (h0 : Heap) (n0 : Nat) (v : Option Value) (h : Heap) (L : List Loc) : Prop := v = some (.long (pt p1)) ∧ Fr n0 L ∧ h = h0
set_option maxRecDepth 65536 in
set_option maxHeartbeats 40000000 in
theorem rm_part (l : Launch) (Z : State) (a0 : Array Value) (hw : ∀ d ∈ tables_1, d.before a0 Z = true) (ws : List Jvm.Cond) (p1 : Int32) (h0 : Heap) (n0 : Nat) (O0 : Old Z n0 h0)  :
    Meets l (⟨"com/example/visit_by_value/visitbyvalue/core/PageWeightTotalPinLaw", "part", "(I)J"⟩ : MethodName) method_2_code 1 (some .long) ws ({ frames := 0, cells := 0, slots := 0, locals := 0 } : Room) Z #[(.int p1)] h0 (Q_rm_part p1 h0 n0) 0 0 := by
  refine enter (Ls := #[.val (.int p1)]) (plainFor_of_name pn_0) (fun m => by first | (simp [entryFrame, mkF, argsToLocals, Value.category]; done) | rfl) ?_
  intro p e s m below meth c T0 hx hby hml hown hnm hret hlk hZ X0 e0
  have N0 := Fr.nil n0
  replace hown : s.vm.findClass "com/example/visit_by_value/visitbyvalue/core/PageWeightTotalPinLaw" = some m.cls := hown
  show Run p e below _ (T0.setTop (mkF m 0 #[.val (.int p1)] []))
  refine go (fun _ => XS.iloadN X0.here hx rfl (hb hby d_m2_0) rfl) ?_
  show Run p e below _ (T0.setTop (mkF m 1 #[.val (.int p1)] [(.int p1)]))
  refine go (fun _ => X0.ldcI hx hown (mvT hZ (wd hw 4 rfl)) rfl (hb hby d_m2_1)) ?_
  show Run p e below _ (T0.setTop (mkF m 3 #[.val (.int p1)] [(.int (1048576 : Int32)), (.int p1)]))
  refine go (fun _ => iremM X0 hx rfl (hb hby d_m2_3) rfl (by decide)) ?_
  show Run p e below _ (T0.setTop (mkF m 4 #[.val (.int p1)] [(.int (p1 % (1048576 : Int32)))]))
  refine go (fun _ => XS.i2l X0.here hx rfl (hb hby d_m2_4) rfl) ?_
  show Run p e below _ (T0.setTop (mkF m 5 #[.val (.int p1)] [(.long ((p1 % (1048576 : Int32)).toInt64))]))
  exact endJ X0 hx hlk hret (hb hby d_m2_5) (⟨rfl, N0, e0⟩) (by decide) (by decide)
theorem d_j30_m1_0 : decode jdk_30_method_1_code 0 = .ok (.aload_n 0, 1) := by decide +kernel
theorem d_j30_m1_1 : decode jdk_30_method_1_code 1 = .ok (.invokespecial 1, 3) := by decide +kernel
theorem d_j30_m1_4 : decode jdk_30_method_1_code 4 = .ok (.return_, 1) := by decide +kernel
theorem pn_1 : plainName "java/lang/Record" = true := by first | (simp [plainName, overriddenIn]; done) | decide +kernel
def Q_rm_rec (a : Addr) (h0 : Heap) (n0 : Nat) (v : Option Value) (h : Heap) (L : List Loc) : Prop := v = none ∧ Fr n0 L ∧ h = h0
set_option maxRecDepth 65536 in
set_option maxHeartbeats 40000000 in
theorem rm_rec (l : Launch) (Z : State) (a0 : Array Value) (hw : ∀ d ∈ tables_1, d.before a0 Z = true) (ws : List Jvm.Cond) (a : Addr) (h0 : Heap) (n0 : Nat) (O0 : Old Z n0 h0)  :
    Meets l (⟨"java/lang/Record", "<init>", "()V"⟩ : MethodName) jdk_30_method_1_code 1 none ws ({ frames := 1, cells := 0, slots := 0, locals := 12 } : Room) Z #[(.ref a)] h0 (Q_rm_rec a h0 n0) 0 0 := by
  refine enter (Ls := #[.val (.ref a)]) (plainFor_of_name pn_1) (fun m => by first | (simp [entryFrame, mkF, argsToLocals, Value.category]; done) | rfl) ?_
  intro p e s m below meth c T0 hx hby hml hown hnm hret hlk hZ X0 e0
  have N0 := Fr.nil n0
  replace hown : s.vm.findClass "java/lang/Record" = some m.cls := hown
  show Run p e below _ (T0.setTop (mkF m 0 #[.val (.ref a)] []))
  refine go (fun _ => XS.aloadN X0.here hx rfl (hb hby d_j30_m1_0) rfl rfl) ?_
  show Run p e below _ (T0.setTop (mkF m 1 #[.val (.ref a)] [(.ref a)]))
  obtain ⟨T1, X1, e1, st1⟩ := initO X0 hx hZ hown (wd hw 17 rfl) (wd hw 18 rfl) (wd hw 19 rfl) e0 (g := (mkF m 1 #[.val (.ref a)] [(.ref a)])) rfl (by rw [hml]; rfl) rfl (hb hby d_j30_m1_1) (by decide) (W := 0) (by show 2 * 0 + _ ≤ _; exact Nat.le_of_eq rfl) (by decide)
  refine go st1 ?_
  show Run p e below _ (T1.setTop (mkF m 4 #[.val (.ref a)] []))
  exact endV X1 hx hlk hret (hb hby d_j30_m1_4) (⟨rfl, N0, e1⟩) (by decide) (by decide)
theorem d_p15_m1_0 : decode prog_15_method_1_code 0 = .ok (.aload_n 0, 1) := by decide +kernel
theorem d_p15_m1_1 : decode prog_15_method_1_code 1 = .ok (.invokespecial 1, 3) := by decide +kernel
theorem pd_0 : parseMethodDescriptor "()V" = some ⟨[], none⟩ := by decide +kernel
theorem d_p15_m1_4 : decode prog_15_method_1_code 4 = .ok (.aload_n 0, 1) := by decide +kernel
theorem d_p15_m1_5 : decode prog_15_method_1_code 5 = .ok (.dload_n 1, 1) := by decide +kernel
theorem d_p15_m1_6 : decode prog_15_method_1_code 6 = .ok (.putfield 7, 3) := by decide +kernel
theorem d_p15_m1_9 : decode prog_15_method_1_code 9 = .ok (.aload_n 0, 1) := by decide +kernel
theorem d_p15_m1_10 : decode prog_15_method_1_code 10 = .ok (.dload_n 3, 1) := by decide +kernel
theorem d_p15_m1_11 : decode prog_15_method_1_code 11 = .ok (.putfield 13, 3) := by decide +kernel
theorem d_p15_m1_14 : decode prog_15_method_1_code 14 = .ok (.aload_n 0, 1) := by decide +kernel
theorem d_p15_m1_15 : decode prog_15_method_1_code 15 = .ok (.dload 5, 2) := by decide +kernel
theorem d_p15_m1_17 : decode prog_15_method_1_code 17 = .ok (.putfield 16, 3) := by decide +kernel
theorem d_p15_m1_20 : decode prog_15_method_1_code 20 = .ok (.aload_n 0, 1) := by decide +kernel
theorem d_p15_m1_21 : decode prog_15_method_1_code 21 = .ok (.dload 7, 2) := by decide +kernel
theorem d_p15_m1_23 : decode prog_15_method_1_code 23 = .ok (.putfield 19, 3) := by decide +kernel
theorem d_p15_m1_26 : decode prog_15_method_1_code 26 = .ok (.return_, 1) := by decide +kernel
theorem pn_2 : plainName "com/example/visit_by_value/visitbyvalue/core/PageWeight" = true := by first | (simp [plainName, overriddenIn]; done) | decide +kernel
def Q_rm_init (Z : State) (a : Addr) (d1 d2 d3 d4 : UInt64) (h0 : Heap) (n0 : Nat) (v : Option Value) (h : Heap) (L : List Loc) : Prop := v = none ∧ Fr n0 L ∧ Keep h0 h [a] ∧ Exa Z h a "com/example/visit_by_value/visitbyvalue/core/PageWeight" ∧ Fld Z h a "com/example/visit_by_value/visitbyvalue/core/PageWeight" "url" "D" (.double d1) ∧ Fld Z h a "com/example/visit_by_value/visitbyvalue/core/PageWeight" "title" "D" (.double d2) ∧ Fld Z h a "com/example/visit_by_value/visitbyvalue/core/PageWeight" "body" "D" (.double d3) ∧ Fld Z h a "com/example/visit_by_value/visitbyvalue/core/PageWeight" "links" "D" (.double d4)
set_option maxRecDepth 65536 in
set_option maxHeartbeats 40000000 in
theorem rm_init (l : Launch) (Z : State) (a0 : Array Value) (hw : ∀ d ∈ tables_1, d.before a0 Z = true) (ws : List Jvm.Cond) (a : Addr) (d1 d2 d3 d4 : UInt64) (h0 : Heap) (n0 : Nat) (O0 : Old Z n0 h0) (E_a : Exa Z h0 a "com/example/visit_by_value/visitbyvalue/core/PageWeight") (F_url_a : Fld Z h0 a "com/example/visit_by_value/visitbyvalue/core/PageWeight" "url" "D" (.double (0 : UInt64))) (F_title_a : Fld Z h0 a "com/example/visit_by_value/visitbyvalue/core/PageWeight" "title" "D" (.double (0 : UInt64))) (F_body_a : Fld Z h0 a "com/example/visit_by_value/visitbyvalue/core/PageWeight" "body" "D" (.double (0 : UInt64))) (F_links_a : Fld Z h0 a "com/example/visit_by_value/visitbyvalue/core/PageWeight" "links" "D" (.double (0 : UInt64))) (g_a : n0 ≤ a) :
    Meets l (⟨"com/example/visit_by_value/visitbyvalue/core/PageWeight", "<init>", "(DDDD)V"⟩ : MethodName) prog_15_method_1_code 9 none ws ({ frames := 2, cells := 0, slots := 0, locals := 24 } : Room) Z #[(.ref a), (.double d1), (.double d2), (.double d3), (.double d4)] h0 (Q_rm_init Z a d1 d2 d3 d4 h0 n0) 0 0 := by
  refine enter (Ls := #[.val (.ref a), .val (.double d1), .second, .val (.double d2), .second, .val (.double d3), .second, .val (.double d4), .second]) (plainFor_of_name pn_2) (fun m => by first | (simp [entryFrame, mkF, argsToLocals, Value.category]; done) | rfl) ?_
  intro p e s m below meth c T0 hx hby hml hown hnm hret hlk hZ X0 e0
  have N0 := Fr.nil n0
  replace hown : s.vm.findClass "com/example/visit_by_value/visitbyvalue/core/PageWeight" = some m.cls := hown
  show Run p e below _ (T0.setTop (mkF m 0 #[.val (.ref a), .val (.double d1), .second, .val (.double d2), .second, .val (.double d3), .second, .val (.double d4), .second] []))
  have K0 := Keep.refl h0 [a]
  refine go (fun _ => XS.aloadN X0.here hx rfl (hb hby d_p15_m1_0) rfl rfl) ?_
  show Run p e below _ (T0.setTop (mkF m 1 #[.val (.ref a), .val (.double d1), .second, .val (.double d2), .second, .val (.double d3), .second, .val (.double d4), .second] [(.ref a)]))
  refine callSp X0 hx hZ rfl hown (wd hw 12 rfl) (wd hw 13 rfl) (wd hw 16 rfl) (wd hw 15 rfl) (by decide) e0 (a := a) (argsL := []) (rest := []) (rm_rec l Z a0 hw [] a h0 n0 O0) (W := 0) (by decide) (by decide) (by decide) (by decide) (by rw [hml]; rfl) (lenOf pd_0 rfl) rfl (Nat.le_of_eq rfl) (hb hby d_p15_m1_1) ?_
  intro v2 T2 L2 h2 X2 e2 q2
  obtain ⟨rfl, n2, k2⟩ := q2
  have e2 := e2.trans k2
  have N2 := Fr.app N0 n2
  show Run p e below _ (T2.setTop (mkF m 4 #[.val (.ref a), .val (.double d1), .second, .val (.double d2), .second, .val (.double d3), .second, .val (.double d4), .second] []))
  refine go (fun _ => XS.aloadN X2.here hx rfl (hb hby d_p15_m1_4) rfl rfl) ?_
  show Run p e below _ (T2.setTop (mkF m 5 #[.val (.ref a), .val (.double d1), .second, .val (.double d2), .second, .val (.double d3), .second, .val (.double d4), .second] [(.ref a)]))
  refine go (fun _ => XS.dloadN X2.here hx rfl (hb hby d_p15_m1_5) rfl) ?_
  show Run p e below _ (T2.setTop (mkF m 6 #[.val (.ref a), .val (.double d1), .second, .val (.double d2), .second, .val (.double d3), .second, .val (.double d4), .second] [(.double d1), (.ref a)]))
  obtain ⟨T3, h3, X3, e3, W3, st3⟩ := putF X2 hx hZ hown (host := "") (Or.inl (wd hw 20 rfl)) Via.refl e2 F_url_a E_a (Or.inr ⟨(wd hw 21 rfl), rfl, hnm⟩) (wd hw 7 rfl) (ty := .double) (by decide) rfl rfl (g := (mkF m 6 #[.val (.ref a), .val (.double d1), .second, .val (.double d2), .second, .val (.double d3), .second, .val (.double d4), .second] [(.double d1), (.ref a)])) rfl rfl (hb hby d_p15_m1_6)
  have O0 := O0.wr W3 g_a
  have E_a := E_a.wr W3
  have F_url_a := F_url_a.same W3
  have F_title_a := F_title_a.other W3 (Or.inr (slot_ne (Or.inr (wd hw 23 rfl)) (Or.inr (wd hw 21 rfl)) (by decide) (t := .double) (t' := .double) (by decide) (by decide)))
  have F_body_a := F_body_a.other W3 (Or.inr (slot_ne (Or.inr (wd hw 25 rfl)) (Or.inr (wd hw 21 rfl)) (by decide) (t := .double) (t' := .double) (by decide) (by decide)))
  have F_links_a := F_links_a.other W3 (Or.inr (slot_ne (Or.inr (wd hw 27 rfl)) (Or.inr (wd hw 21 rfl)) (by decide) (t := .double) (t' := .double) (by decide) (by decide)))
  have K0 := K0.wr W3 (Or.inl (by simp))
  have N3 := Fr.snoc X3 N2 g_a
  refine go st3 ?_
  show Run p e below _ (T3.setTop (mkF m 9 #[.val (.ref a), .val (.double d1), .second, .val (.double d2), .second, .val (.double d3), .second, .val (.double d4), .second] []))
  refine go (fun _ => XS.aloadN X3.here hx rfl (hb hby d_p15_m1_9) rfl rfl) ?_
  show Run p e below _ (T3.setTop (mkF m 10 #[.val (.ref a), .val (.double d1), .second, .val (.double d2), .second, .val (.double d3), .second, .val (.double d4), .second] [(.ref a)]))
  refine go (fun _ => XS.dloadN X3.here hx rfl (hb hby d_p15_m1_10) rfl) ?_
  show Run p e below _ (T3.setTop (mkF m 11 #[.val (.ref a), .val (.double d1), .second, .val (.double d2), .second, .val (.double d3), .second, .val (.double d4), .second] [(.double d2), (.ref a)]))
  obtain ⟨T4, h4, X4, e4, W4, st4⟩ := putF X3 hx hZ hown (host := "") (Or.inl (wd hw 22 rfl)) Via.refl e3 F_title_a E_a (Or.inr ⟨(wd hw 23 rfl), rfl, hnm⟩) (wd hw 7 rfl) (ty := .double) (by decide) rfl rfl (g := (mkF m 11 #[.val (.ref a), .val (.double d1), .second, .val (.double d2), .second, .val (.double d3), .second, .val (.double d4), .second] [(.double d2), (.ref a)])) rfl rfl (hb hby d_p15_m1_11)
  have O0 := O0.wr W4 g_a
  have E_a := E_a.wr W4
  have F_url_a := F_url_a.other W4 (Or.inr (slot_ne (Or.inr (wd hw 21 rfl)) (Or.inr (wd hw 23 rfl)) (by decide) (t := .double) (t' := .double) (by decide) (by decide)))
  have F_title_a := F_title_a.same W4
  have F_body_a := F_body_a.other W4 (Or.inr (slot_ne (Or.inr (wd hw 25 rfl)) (Or.inr (wd hw 23 rfl)) (by decide) (t := .double) (t' := .double) (by decide) (by decide)))
  have F_links_a := F_links_a.other W4 (Or.inr (slot_ne (Or.inr (wd hw 27 rfl)) (Or.inr (wd hw 23 rfl)) (by decide) (t := .double) (t' := .double) (by decide) (by decide)))
  have K0 := K0.wr W4 (Or.inl (by simp))
  have N4 := Fr.snoc X4 N3 g_a
  refine go st4 ?_
  show Run p e below _ (T4.setTop (mkF m 14 #[.val (.ref a), .val (.double d1), .second, .val (.double d2), .second, .val (.double d3), .second, .val (.double d4), .second] []))
  refine go (fun _ => XS.aloadN X4.here hx rfl (hb hby d_p15_m1_14) rfl rfl) ?_
  show Run p e below _ (T4.setTop (mkF m 15 #[.val (.ref a), .val (.double d1), .second, .val (.double d2), .second, .val (.double d3), .second, .val (.double d4), .second] [(.ref a)]))
  refine go (fun _ => XS.dload X4.here hx rfl (hb hby d_p15_m1_15) rfl) ?_
  show Run p e below _ (T4.setTop (mkF m 17 #[.val (.ref a), .val (.double d1), .second, .val (.double d2), .second, .val (.double d3), .second, .val (.double d4), .second] [(.double d3), (.ref a)]))
  obtain ⟨T5, h5, X5, e5, W5, st5⟩ := putF X4 hx hZ hown (host := "") (Or.inl (wd hw 24 rfl)) Via.refl e4 F_body_a E_a (Or.inr ⟨(wd hw 25 rfl), rfl, hnm⟩) (wd hw 7 rfl) (ty := .double) (by decide) rfl rfl (g := (mkF m 17 #[.val (.ref a), .val (.double d1), .second, .val (.double d2), .second, .val (.double d3), .second, .val (.double d4), .second] [(.double d3), (.ref a)])) rfl rfl (hb hby d_p15_m1_17)
  have O0 := O0.wr W5 g_a
  have E_a := E_a.wr W5
  have F_url_a := F_url_a.other W5 (Or.inr (slot_ne (Or.inr (wd hw 21 rfl)) (Or.inr (wd hw 25 rfl)) (by decide) (t := .double) (t' := .double) (by decide) (by decide)))
  have F_title_a := F_title_a.other W5 (Or.inr (slot_ne (Or.inr (wd hw 23 rfl)) (Or.inr (wd hw 25 rfl)) (by decide) (t := .double) (t' := .double) (by decide) (by decide)))
  have F_body_a := F_body_a.same W5
  have F_links_a := F_links_a.other W5 (Or.inr (slot_ne (Or.inr (wd hw 27 rfl)) (Or.inr (wd hw 25 rfl)) (by decide) (t := .double) (t' := .double) (by decide) (by decide)))
  have K0 := K0.wr W5 (Or.inl (by simp))
  have N5 := Fr.snoc X5 N4 g_a
  refine go st5 ?_
  show Run p e below _ (T5.setTop (mkF m 20 #[.val (.ref a), .val (.double d1), .second, .val (.double d2), .second, .val (.double d3), .second, .val (.double d4), .second] []))
  refine go (fun _ => XS.aloadN X5.here hx rfl (hb hby d_p15_m1_20) rfl rfl) ?_
  show Run p e below _ (T5.setTop (mkF m 21 #[.val (.ref a), .val (.double d1), .second, .val (.double d2), .second, .val (.double d3), .second, .val (.double d4), .second] [(.ref a)]))
  refine go (fun _ => XS.dload X5.here hx rfl (hb hby d_p15_m1_21) rfl) ?_
  show Run p e below _ (T5.setTop (mkF m 23 #[.val (.ref a), .val (.double d1), .second, .val (.double d2), .second, .val (.double d3), .second, .val (.double d4), .second] [(.double d4), (.ref a)]))
  obtain ⟨T6, h6, X6, e6, W6, st6⟩ := putF X5 hx hZ hown (host := "") (Or.inl (wd hw 26 rfl)) Via.refl e5 F_links_a E_a (Or.inr ⟨(wd hw 27 rfl), rfl, hnm⟩) (wd hw 7 rfl) (ty := .double) (by decide) rfl rfl (g := (mkF m 23 #[.val (.ref a), .val (.double d1), .second, .val (.double d2), .second, .val (.double d3), .second, .val (.double d4), .second] [(.double d4), (.ref a)])) rfl rfl (hb hby d_p15_m1_23)
  have O0 := O0.wr W6 g_a
  have E_a := E_a.wr W6
  have F_url_a := F_url_a.other W6 (Or.inr (slot_ne (Or.inr (wd hw 21 rfl)) (Or.inr (wd hw 27 rfl)) (by decide) (t := .double) (t' := .double) (by decide) (by decide)))
  have F_title_a := F_title_a.other W6 (Or.inr (slot_ne (Or.inr (wd hw 23 rfl)) (Or.inr (wd hw 27 rfl)) (by decide) (t := .double) (t' := .double) (by decide) (by decide)))
  have F_body_a := F_body_a.other W6 (Or.inr (slot_ne (Or.inr (wd hw 25 rfl)) (Or.inr (wd hw 27 rfl)) (by decide) (t := .double) (t' := .double) (by decide) (by decide)))
  have F_links_a := F_links_a.same W6
  have K0 := K0.wr W6 (Or.inl (by simp))
  have N6 := Fr.snoc X6 N5 g_a
  refine go st6 ?_
  show Run p e below _ (T6.setTop (mkF m 26 #[.val (.ref a), .val (.double d1), .second, .val (.double d2), .second, .val (.double d3), .second, .val (.double d4), .second] []))
  exact endV X6 hx hlk hret (hb hby d_p15_m1_26) (by rw [e6]; exact ⟨rfl, N6, K0, E_a, F_url_a, F_title_a, F_body_a, F_links_a⟩) (by decide) (by decide)
theorem d_p15_m2_0 : decode prog_15_method_2_code 0 = .ok (.aload_n 0, 1) := by decide +kernel
theorem d_p15_m2_1 : decode prog_15_method_2_code 1 = .ok (.getfield 7, 3) := by decide +kernel
theorem d_p15_m2_4 : decode prog_15_method_2_code 4 = .ok (.aload_n 0, 1) := by decide +kernel
theorem d_p15_m2_5 : decode prog_15_method_2_code 5 = .ok (.getfield 13, 3) := by decide +kernel
theorem d_p15_m2_8 : decode prog_15_method_2_code 8 = .ok (.dadd, 1) := by decide +kernel
theorem d_p15_m2_9 : decode prog_15_method_2_code 9 = .ok (.aload_n 0, 1) := by decide +kernel
theorem d_p15_m2_10 : decode prog_15_method_2_code 10 = .ok (.getfield 16, 3) := by decide +kernel
theorem d_p15_m2_13 : decode prog_15_method_2_code 13 = .ok (.dadd, 1) := by decide +kernel
theorem d_p15_m2_14 : decode prog_15_method_2_code 14 = .ok (.aload_n 0, 1) := by decide +kernel
theorem d_p15_m2_15 : decode prog_15_method_2_code 15 = .ok (.getfield 19, 3) := by decide +kernel
theorem d_p15_m2_18 : decode prog_15_method_2_code 18 = .ok (.dadd, 1) := by decide +kernel
theorem d_p15_m2_19 : decode prog_15_method_2_code 19 = .ok (.dreturn, 1) := by decide +kernel
def Q_rm_tot (a : Addr) (d1 d2 d3 d4 : UInt64) (h0 : Heap) (n0 : Nat) (v : Option Value) (h : Heap) (L : List Loc) : Prop := v = some (.double (FP.dadd (FP.dadd (FP.dadd d1 d2) d3) d4)) ∧ Fr n0 L ∧ h = h0
set_option maxRecDepth 65536 in
set_option maxHeartbeats 40000000 in
theorem rm_tot (l : Launch) (Z : State) (a0 : Array Value) (hw : ∀ d ∈ tables_1, d.before a0 Z = true) (ws : List Jvm.Cond) (a : Addr) (d1 d2 d3 d4 : UInt64) (h0 : Heap) (n0 : Nat) (O0 : Old Z n0 h0) (E_a : Exa Z h0 a "com/example/visit_by_value/visitbyvalue/core/PageWeight") (F_url_a : Fld Z h0 a "com/example/visit_by_value/visitbyvalue/core/PageWeight" "url" "D" (.double d1)) (F_title_a : Fld Z h0 a "com/example/visit_by_value/visitbyvalue/core/PageWeight" "title" "D" (.double d2)) (F_body_a : Fld Z h0 a "com/example/visit_by_value/visitbyvalue/core/PageWeight" "body" "D" (.double d3)) (F_links_a : Fld Z h0 a "com/example/visit_by_value/visitbyvalue/core/PageWeight" "links" "D" (.double d4)) (u2 : Jvm.Free.Fl.NoNaN64 (FP.dadd d1 d2)) (u3 : Jvm.Free.Fl.NoNaN64 (FP.dadd (FP.dadd d1 d2) d3)) (u4 : Jvm.Free.Fl.NoNaN64 (FP.dadd (FP.dadd (FP.dadd d1 d2) d3) d4)) :
    Meets l (⟨"com/example/visit_by_value/visitbyvalue/core/PageWeight", "total", "()D"⟩ : MethodName) prog_15_method_2_code 1 (some .double) ws ({ frames := 0, cells := 0, slots := 0, locals := 0 } : Room) Z #[(.ref a)] h0 (Q_rm_tot a d1 d2 d3 d4 h0 n0) 0 0 := by
  refine enter (Ls := #[.val (.ref a)]) (plainFor_of_name pn_2) (fun m => by first | (simp [entryFrame, mkF, argsToLocals, Value.category]; done) | rfl) ?_
  intro p e s m below meth c T0 hx hby hml hown hnm hret hlk hZ X0 e0
  have N0 := Fr.nil n0
  replace hown : s.vm.findClass "com/example/visit_by_value/visitbyvalue/core/PageWeight" = some m.cls := hown
  show Run p e below _ (T0.setTop (mkF m 0 #[.val (.ref a)] []))
  refine go (fun _ => XS.aloadN X0.here hx rfl (hb hby d_p15_m2_0) rfl rfl) ?_
  show Run p e below _ (T0.setTop (mkF m 1 #[.val (.ref a)] [(.ref a)]))
  obtain ⟨T7, X7, e7, st7⟩ := getF X0 hx hZ hown (host := "") (Or.inl (wd hw 20 rfl)) Via.refl e0 F_url_a (g := (mkF m 1 #[.val (.ref a)] [(.ref a)])) rfl rfl (hb hby d_p15_m2_1)
  refine go st7 ?_
  show Run p e below _ (T7.setTop (mkF m 4 #[.val (.ref a)] [(.double d1)]))
  refine go (fun _ => XS.aloadN X7.here hx rfl (hb hby d_p15_m2_4) rfl rfl) ?_
  show Run p e below _ (T7.setTop (mkF m 5 #[.val (.ref a)] [(.ref a), (.double d1)]))
  obtain ⟨T8, X8, e8, st8⟩ := getF X7 hx hZ hown (host := "") (Or.inl (wd hw 22 rfl)) Via.refl e7 F_title_a (g := (mkF m 5 #[.val (.ref a)] [(.ref a), (.double d1)])) rfl rfl (hb hby d_p15_m2_5)
  refine go st8 ?_
  show Run p e below _ (T8.setTop (mkF m 8 #[.val (.ref a)] [(.double d2), (.double d1)]))
  refine go (fun _ => XS.daddS X8.here hx rfl (hb hby d_p15_m2_8) rfl u2 rfl) ?_
  show Run p e below _ (T8.setTop (mkF m 9 #[.val (.ref a)] [(.double (FP.dadd d1 d2))]))
  refine go (fun _ => XS.aloadN X8.here hx rfl (hb hby d_p15_m2_9) rfl rfl) ?_
  show Run p e below _ (T8.setTop (mkF m 10 #[.val (.ref a)] [(.ref a), (.double (FP.dadd d1 d2))]))
  obtain ⟨T9, X9, e9, st9⟩ := getF X8 hx hZ hown (host := "") (Or.inl (wd hw 24 rfl)) Via.refl e8 F_body_a (g := (mkF m 10 #[.val (.ref a)] [(.ref a), (.double (FP.dadd d1 d2))])) rfl rfl (hb hby d_p15_m2_10)
  refine go st9 ?_
  show Run p e below _ (T9.setTop (mkF m 13 #[.val (.ref a)] [(.double d3), (.double (FP.dadd d1 d2))]))
  refine go (fun _ => XS.daddS X9.here hx rfl (hb hby d_p15_m2_13) rfl u3 rfl) ?_
  show Run p e below _ (T9.setTop (mkF m 14 #[.val (.ref a)] [(.double (FP.dadd (FP.dadd d1 d2) d3))]))
  refine go (fun _ => XS.aloadN X9.here hx rfl (hb hby d_p15_m2_14) rfl rfl) ?_
  show Run p e below _ (T9.setTop (mkF m 15 #[.val (.ref a)] [(.ref a), (.double (FP.dadd (FP.dadd d1 d2) d3))]))
  obtain ⟨T10, X10, e10, st10⟩ := getF X9 hx hZ hown (host := "") (Or.inl (wd hw 26 rfl)) Via.refl e9 F_links_a (g := (mkF m 15 #[.val (.ref a)] [(.ref a), (.double (FP.dadd (FP.dadd d1 d2) d3))])) rfl rfl (hb hby d_p15_m2_15)
  refine go st10 ?_
  show Run p e below _ (T10.setTop (mkF m 18 #[.val (.ref a)] [(.double d4), (.double (FP.dadd (FP.dadd d1 d2) d3))]))
  refine go (fun _ => XS.daddS X10.here hx rfl (hb hby d_p15_m2_18) rfl u4 rfl) ?_
  show Run p e below _ (T10.setTop (mkF m 19 #[.val (.ref a)] [(.double (FP.dadd (FP.dadd (FP.dadd d1 d2) d3) d4))]))
  exact endD X10 hx hlk hret (hb hby d_p15_m2_19) (⟨rfl, N0, e10⟩) (by decide) (by decide)
theorem pd_1 : parseMethodDescriptor "(I)J" = some ⟨[.int], some .long⟩ := by decide +kernel
theorem pd_2 : parseMethodDescriptor "(DDDD)V" = some ⟨[.double, .double, .double, .double], none⟩ := by decide +kernel
theorem pd_3 : parseMethodDescriptor "()D" = some ⟨[], some .double⟩ := by decide +kernel
def Q_rmlaw (p0 p1 p2 p3 : Int32) (h0 : Heap) (n0 : Nat) (v : Option Value) (h : Heap) (L : List Loc) : Prop := v = some (.int 1) ∧ Fr n0 L
set_option maxRecDepth 65536 in
set_option maxHeartbeats 40000000 in
theorem rmlaw (l : Launch) (Z : State) (a0 : Array Value) (hw : ∀ d ∈ tables_1, d.before a0 Z = true) (ws : List Jvm.Cond) (p0 p1 p2 p3 : Int32) (h0 : Heap) (n0 : Nat) (O0 : Old Z n0 h0)  :
    Meets l x code maxLocals ret ws room_1 Z #[(.int p0), (.int p1), (.int p2), (.int p3)] h0 (Q_rmlaw p0 p1 p2 p3 h0 n0) 16 128 := by
  refine enter (Ls := #[.val (.int p0), .val (.int p1), .val (.int p2), .val (.int p3), .unset, .unset, .unset, .unset, .unset, .unset, .unset, .unset, .unset, .unset, .unset, .unset, .unset, .unset, .unset, .unset, .unset, .unset, .unset, .unset, .unset]) (plainFor_of_name pn_0) (fun m => by first | (simp [entryFrame, mkF, argsToLocals, Value.category, maxLocals]; done) | rfl) ?_
  intro p e s m below meth c T0 hx hby hml hown hnm hret hlk hZ X0 e0
  have N0 := Fr.nil n0
  replace hown : s.vm.findClass "com/example/visit_by_value/visitbyvalue/core/PageWeightTotalPinLaw" = some m.cls := hown
  show Run p e below _ (T0.setTop (mkF m 0 #[.val (.int p0), .val (.int p1), .val (.int p2), .val (.int p3), .unset, .unset, .unset, .unset, .unset, .unset, .unset, .unset, .unset, .unset, .unset, .unset, .unset, .unset, .unset, .unset, .unset, .unset, .unset, .unset, .unset] []))
  refine go (fun _ => XS.iloadN X0.here hx rfl (hb hby at_0) rfl) ?_
  show Run p e below _ (T0.setTop (mkF m 1 #[.val (.int p0), .val (.int p1), .val (.int p2), .val (.int p3), .unset, .unset, .unset, .unset, .unset, .unset, .unset, .unset, .unset, .unset, .unset, .unset, .unset, .unset, .unset, .unset, .unset, .unset, .unset, .unset, .unset] [(.int p0)]))
  refine callSt X0 hx hZ hown (wd hw 0 rfl) (wd hw 1 rfl) (wd hw 2 rfl) (wd hw 3 rfl) (by decide) e0 (argsL := [(.int p0)]) (rest := []) (rm_part l Z a0 hw [] p0 h0 n0 O0) (W := 0) (by decide) (by decide) (by decide) (by decide) (by rw [hml]; rfl) (lenOf pd_1 rfl) rfl (Nat.le_of_eq rfl) (hb hby at_1) ?_
  intro v11 T11 L11 h11 X11 e11 q11
  obtain ⟨rv, n11, k11⟩ := q11
  replace rv : v11 = some (.long (pt p0)) := rv
  subst rv
  have e11 := e11.trans k11
  have N11 := Fr.app N0 n11
  show Run p e below _ (T11.setTop (mkF m 4 #[.val (.int p0), .val (.int p1), .val (.int p2), .val (.int p3), .unset, .unset, .unset, .unset, .unset, .unset, .unset, .unset, .unset, .unset, .unset, .unset, .unset, .unset, .unset, .unset, .unset, .unset, .unset, .unset, .unset] [(.long (pt p0))]))
  refine go (fun _ => XS.lstore X11.here hx rfl (hb hby at_4) rfl (l' := #[.val (.int p0), .val (.int p1), .val (.int p2), .val (.int p3), .val (.long (pt p0)), .second, .unset, .unset, .unset, .unset, .unset, .unset, .unset, .unset, .unset, .unset, .unset, .unset, .unset, .unset, .unset, .unset, .unset, .unset, .unset]) rfl) ?_
  show Run p e below _ (T11.setTop (mkF m 6 #[.val (.int p0), .val (.int p1), .val (.int p2), .val (.int p3), .val (.long (pt p0)), .second, .unset, .unset, .unset, .unset, .unset, .unset, .unset, .unset, .unset, .unset, .unset, .unset, .unset, .unset, .unset, .unset, .unset, .unset, .unset] []))
  refine go (fun _ => XS.iloadN X11.here hx rfl (hb hby at_6) rfl) ?_
  show Run p e below _ (T11.setTop (mkF m 7 #[.val (.int p0), .val (.int p1), .val (.int p2), .val (.int p3), .val (.long (pt p0)), .second, .unset, .unset, .unset, .unset, .unset, .unset, .unset, .unset, .unset, .unset, .unset, .unset, .unset, .unset, .unset, .unset, .unset, .unset, .unset] [(.int p1)]))
  refine callSt X11 hx hZ hown (wd hw 0 rfl) (wd hw 1 rfl) (wd hw 2 rfl) (wd hw 3 rfl) (by decide) e11 (argsL := [(.int p1)]) (rest := []) (rm_part l Z a0 hw [] p1 h0 n0 O0) (W := 0) (by decide) (by decide) (by decide) (by decide) (by rw [hml]; rfl) (lenOf pd_1 rfl) rfl (Nat.le_of_eq rfl) (hb hby at_7) ?_
  intro v12 T12 L12 h12 X12 e12 q12
  obtain ⟨rv, n12, k12⟩ := q12
  replace rv : v12 = some (.long (pt p1)) := rv
  subst rv
  have e12 := e12.trans k12
  have N12 := Fr.app N11 n12
  show Run p e below _ (T12.setTop (mkF m 10 #[.val (.int p0), .val (.int p1), .val (.int p2), .val (.int p3), .val (.long (pt p0)), .second, .unset, .unset, .unset, .unset, .unset, .unset, .unset, .unset, .unset, .unset, .unset, .unset, .unset, .unset, .unset, .unset, .unset, .unset, .unset] [(.long (pt p1))]))
  refine go (fun _ => XS.lstore X12.here hx rfl (hb hby at_10) rfl (l' := #[.val (.int p0), .val (.int p1), .val (.int p2), .val (.int p3), .val (.long (pt p0)), .second, .val (.long (pt p1)), .second, .unset, .unset, .unset, .unset, .unset, .unset, .unset, .unset, .unset, .unset, .unset, .unset, .unset, .unset, .unset, .unset, .unset]) rfl) ?_
  show Run p e below _ (T12.setTop (mkF m 12 #[.val (.int p0), .val (.int p1), .val (.int p2), .val (.int p3), .val (.long (pt p0)), .second, .val (.long (pt p1)), .second, .unset, .unset, .unset, .unset, .unset, .unset, .unset, .unset, .unset, .unset, .unset, .unset, .unset, .unset, .unset, .unset, .unset] []))
  refine go (fun _ => XS.iloadN X12.here hx rfl (hb hby at_12) rfl) ?_
  show Run p e below _ (T12.setTop (mkF m 13 #[.val (.int p0), .val (.int p1), .val (.int p2), .val (.int p3), .val (.long (pt p0)), .second, .val (.long (pt p1)), .second, .unset, .unset, .unset, .unset, .unset, .unset, .unset, .unset, .unset, .unset, .unset, .unset, .unset, .unset, .unset, .unset, .unset] [(.int p2)]))
  refine callSt X12 hx hZ hown (wd hw 0 rfl) (wd hw 1 rfl) (wd hw 2 rfl) (wd hw 3 rfl) (by decide) e12 (argsL := [(.int p2)]) (rest := []) (rm_part l Z a0 hw [] p2 h0 n0 O0) (W := 0) (by decide) (by decide) (by decide) (by decide) (by rw [hml]; rfl) (lenOf pd_1 rfl) rfl (Nat.le_of_eq rfl) (hb hby at_13) ?_
  intro v13 T13 L13 h13 X13 e13 q13
  obtain ⟨rv, n13, k13⟩ := q13
  replace rv : v13 = some (.long (pt p2)) := rv
  subst rv
  have e13 := e13.trans k13
  have N13 := Fr.app N12 n13
  show Run p e below _ (T13.setTop (mkF m 16 #[.val (.int p0), .val (.int p1), .val (.int p2), .val (.int p3), .val (.long (pt p0)), .second, .val (.long (pt p1)), .second, .unset, .unset, .unset, .unset, .unset, .unset, .unset, .unset, .unset, .unset, .unset, .unset, .unset, .unset, .unset, .unset, .unset] [(.long (pt p2))]))
  refine go (fun _ => XS.lstore X13.here hx rfl (hb hby at_16) rfl (l' := #[.val (.int p0), .val (.int p1), .val (.int p2), .val (.int p3), .val (.long (pt p0)), .second, .val (.long (pt p1)), .second, .val (.long (pt p2)), .second, .unset, .unset, .unset, .unset, .unset, .unset, .unset, .unset, .unset, .unset, .unset, .unset, .unset, .unset, .unset]) rfl) ?_
  show Run p e below _ (T13.setTop (mkF m 18 #[.val (.int p0), .val (.int p1), .val (.int p2), .val (.int p3), .val (.long (pt p0)), .second, .val (.long (pt p1)), .second, .val (.long (pt p2)), .second, .unset, .unset, .unset, .unset, .unset, .unset, .unset, .unset, .unset, .unset, .unset, .unset, .unset, .unset, .unset] []))
  refine go (fun _ => XS.iloadN X13.here hx rfl (hb hby at_18) rfl) ?_
  show Run p e below _ (T13.setTop (mkF m 19 #[.val (.int p0), .val (.int p1), .val (.int p2), .val (.int p3), .val (.long (pt p0)), .second, .val (.long (pt p1)), .second, .val (.long (pt p2)), .second, .unset, .unset, .unset, .unset, .unset, .unset, .unset, .unset, .unset, .unset, .unset, .unset, .unset, .unset, .unset] [(.int p3)]))
  refine callSt X13 hx hZ hown (wd hw 0 rfl) (wd hw 1 rfl) (wd hw 2 rfl) (wd hw 3 rfl) (by decide) e13 (argsL := [(.int p3)]) (rest := []) (rm_part l Z a0 hw [] p3 h0 n0 O0) (W := 0) (by decide) (by decide) (by decide) (by decide) (by rw [hml]; rfl) (lenOf pd_1 rfl) rfl (Nat.le_of_eq rfl) (hb hby at_19) ?_
  intro v14 T14 L14 h14 X14 e14 q14
  obtain ⟨rv, n14, k14⟩ := q14
  replace rv : v14 = some (.long (pt p3)) := rv
  subst rv
  have e14 := e14.trans k14
  have N14 := Fr.app N13 n14
  show Run p e below _ (T14.setTop (mkF m 22 #[.val (.int p0), .val (.int p1), .val (.int p2), .val (.int p3), .val (.long (pt p0)), .second, .val (.long (pt p1)), .second, .val (.long (pt p2)), .second, .unset, .unset, .unset, .unset, .unset, .unset, .unset, .unset, .unset, .unset, .unset, .unset, .unset, .unset, .unset] [(.long (pt p3))]))
  refine go (fun _ => XS.lstore X14.here hx rfl (hb hby at_22) rfl (l' := #[.val (.int p0), .val (.int p1), .val (.int p2), .val (.int p3), .val (.long (pt p0)), .second, .val (.long (pt p1)), .second, .val (.long (pt p2)), .second, .val (.long (pt p3)), .second, .unset, .unset, .unset, .unset, .unset, .unset, .unset, .unset, .unset, .unset, .unset, .unset, .unset]) rfl) ?_
  show Run p e below _ (T14.setTop (mkF m 24 #[.val (.int p0), .val (.int p1), .val (.int p2), .val (.int p3), .val (.long (pt p0)), .second, .val (.long (pt p1)), .second, .val (.long (pt p2)), .second, .val (.long (pt p3)), .second, .unset, .unset, .unset, .unset, .unset, .unset, .unset, .unset, .unset, .unset, .unset, .unset, .unset] []))
  refine go (fun _ => XS.lload X14.here hx rfl (hb hby at_24) rfl) ?_
  show Run p e below _ (T14.setTop (mkF m 26 #[.val (.int p0), .val (.int p1), .val (.int p2), .val (.int p3), .val (.long (pt p0)), .second, .val (.long (pt p1)), .second, .val (.long (pt p2)), .second, .val (.long (pt p3)), .second, .unset, .unset, .unset, .unset, .unset, .unset, .unset, .unset, .unset, .unset, .unset, .unset, .unset] [(.long (pt p0))]))
  refine go (fun _ => XS.l2dS X14.here hx rfl (hb hby at_26) rfl rfl) ?_
  show Run p e below _ (T14.setTop (mkF m 27 #[.val (.int p0), .val (.int p1), .val (.int p2), .val (.int p3), .val (.long (pt p0)), .second, .val (.long (pt p1)), .second, .val (.long (pt p2)), .second, .val (.long (pt p3)), .second, .unset, .unset, .unset, .unset, .unset, .unset, .unset, .unset, .unset, .unset, .unset, .unset, .unset] [(.double (FP.l2d (pt p0)))]))
  refine go (fun _ => X14.ldc2DoubleC hx hown (mvT hZ (wd hw 5 rfl)) (g := (mkF m 27 #[.val (.int p0), .val (.int p1), .val (.int p2), .val (.int p3), .val (.long (pt p0)), .second, .val (.long (pt p1)), .second, .val (.long (pt p2)), .second, .val (.long (pt p3)), .second, .unset, .unset, .unset, .unset, .unset, .unset, .unset, .unset, .unset, .unset, .unset, .unset, .unset] [(.double (FP.l2d (pt p0)))])) rfl (hb hby at_27) _) ?_
  show Run p e below _ (T14.setTop (mkF m 30 #[.val (.int p0), .val (.int p1), .val (.int p2), .val (.int p3), .val (.long (pt p0)), .second, .val (.long (pt p1)), .second, .val (.long (pt p2)), .second, .val (.long (pt p3)), .second, .unset, .unset, .unset, .unset, .unset, .unset, .unset, .unset, .unset, .unset, .unset, .unset, .unset] [(.double (4616189618054758400 : UInt64)), (.double (FP.l2d (pt p0)))]))
  have v15 := q_div (pt p0) (Nat.lt_of_lt_of_le (pt_b p0) (by decide))
  refine go (fun _ => XS.ddivS X14.here hx rfl (hb hby at_30) rfl (q_nn v15) rfl) ?_
  show Run p e below _ (T14.setTop (mkF m 31 #[.val (.int p0), .val (.int p1), .val (.int p2), .val (.int p3), .val (.long (pt p0)), .second, .val (.long (pt p1)), .second, .val (.long (pt p2)), .second, .val (.long (pt p3)), .second, .unset, .unset, .unset, .unset, .unset, .unset, .unset, .unset, .unset, .unset, .unset, .unset, .unset] [(.double (FP.ddiv (FP.l2d (pt p0)) (4616189618054758400 : UInt64)))]))
  refine go (fun _ => XS.dstore X14.here hx rfl (hb hby at_31) rfl (l' := #[.val (.int p0), .val (.int p1), .val (.int p2), .val (.int p3), .val (.long (pt p0)), .second, .val (.long (pt p1)), .second, .val (.long (pt p2)), .second, .val (.long (pt p3)), .second, .val (.double (FP.ddiv (FP.l2d (pt p0)) (4616189618054758400 : UInt64))), .second, .unset, .unset, .unset, .unset, .unset, .unset, .unset, .unset, .unset, .unset, .unset]) rfl) ?_
  show Run p e below _ (T14.setTop (mkF m 33 #[.val (.int p0), .val (.int p1), .val (.int p2), .val (.int p3), .val (.long (pt p0)), .second, .val (.long (pt p1)), .second, .val (.long (pt p2)), .second, .val (.long (pt p3)), .second, .val (.double (FP.ddiv (FP.l2d (pt p0)) (4616189618054758400 : UInt64))), .second, .unset, .unset, .unset, .unset, .unset, .unset, .unset, .unset, .unset, .unset, .unset] []))
  refine go (fun _ => XS.lload X14.here hx rfl (hb hby at_33) rfl) ?_
  show Run p e below _ (T14.setTop (mkF m 35 #[.val (.int p0), .val (.int p1), .val (.int p2), .val (.int p3), .val (.long (pt p0)), .second, .val (.long (pt p1)), .second, .val (.long (pt p2)), .second, .val (.long (pt p3)), .second, .val (.double (FP.ddiv (FP.l2d (pt p0)) (4616189618054758400 : UInt64))), .second, .unset, .unset, .unset, .unset, .unset, .unset, .unset, .unset, .unset, .unset, .unset] [(.long (pt p1))]))
  refine go (fun _ => XS.l2dS X14.here hx rfl (hb hby at_35) rfl rfl) ?_
  show Run p e below _ (T14.setTop (mkF m 36 #[.val (.int p0), .val (.int p1), .val (.int p2), .val (.int p3), .val (.long (pt p0)), .second, .val (.long (pt p1)), .second, .val (.long (pt p2)), .second, .val (.long (pt p3)), .second, .val (.double (FP.ddiv (FP.l2d (pt p0)) (4616189618054758400 : UInt64))), .second, .unset, .unset, .unset, .unset, .unset, .unset, .unset, .unset, .unset, .unset, .unset] [(.double (FP.l2d (pt p1)))]))
  refine go (fun _ => X14.ldc2DoubleC hx hown (mvT hZ (wd hw 5 rfl)) (g := (mkF m 36 #[.val (.int p0), .val (.int p1), .val (.int p2), .val (.int p3), .val (.long (pt p0)), .second, .val (.long (pt p1)), .second, .val (.long (pt p2)), .second, .val (.long (pt p3)), .second, .val (.double (FP.ddiv (FP.l2d (pt p0)) (4616189618054758400 : UInt64))), .second, .unset, .unset, .unset, .unset, .unset, .unset, .unset, .unset, .unset, .unset, .unset] [(.double (FP.l2d (pt p1)))])) rfl (hb hby at_36) _) ?_
  show Run p e below _ (T14.setTop (mkF m 39 #[.val (.int p0), .val (.int p1), .val (.int p2), .val (.int p3), .val (.long (pt p0)), .second, .val (.long (pt p1)), .second, .val (.long (pt p2)), .second, .val (.long (pt p3)), .second, .val (.double (FP.ddiv (FP.l2d (pt p0)) (4616189618054758400 : UInt64))), .second, .unset, .unset, .unset, .unset, .unset, .unset, .unset, .unset, .unset, .unset, .unset] [(.double (4616189618054758400 : UInt64)), (.double (FP.l2d (pt p1)))]))
  have v16 := q_div (pt p1) (Nat.lt_of_lt_of_le (pt_b p1) (by decide))
  refine go (fun _ => XS.ddivS X14.here hx rfl (hb hby at_39) rfl (q_nn v16) rfl) ?_
  show Run p e below _ (T14.setTop (mkF m 40 #[.val (.int p0), .val (.int p1), .val (.int p2), .val (.int p3), .val (.long (pt p0)), .second, .val (.long (pt p1)), .second, .val (.long (pt p2)), .second, .val (.long (pt p3)), .second, .val (.double (FP.ddiv (FP.l2d (pt p0)) (4616189618054758400 : UInt64))), .second, .unset, .unset, .unset, .unset, .unset, .unset, .unset, .unset, .unset, .unset, .unset] [(.double (FP.ddiv (FP.l2d (pt p1)) (4616189618054758400 : UInt64)))]))
  refine go (fun _ => XS.dstore X14.here hx rfl (hb hby at_40) rfl (l' := #[.val (.int p0), .val (.int p1), .val (.int p2), .val (.int p3), .val (.long (pt p0)), .second, .val (.long (pt p1)), .second, .val (.long (pt p2)), .second, .val (.long (pt p3)), .second, .val (.double (FP.ddiv (FP.l2d (pt p0)) (4616189618054758400 : UInt64))), .second, .val (.double (FP.ddiv (FP.l2d (pt p1)) (4616189618054758400 : UInt64))), .second, .unset, .unset, .unset, .unset, .unset, .unset, .unset, .unset, .unset]) rfl) ?_
  show Run p e below _ (T14.setTop (mkF m 42 #[.val (.int p0), .val (.int p1), .val (.int p2), .val (.int p3), .val (.long (pt p0)), .second, .val (.long (pt p1)), .second, .val (.long (pt p2)), .second, .val (.long (pt p3)), .second, .val (.double (FP.ddiv (FP.l2d (pt p0)) (4616189618054758400 : UInt64))), .second, .val (.double (FP.ddiv (FP.l2d (pt p1)) (4616189618054758400 : UInt64))), .second, .unset, .unset, .unset, .unset, .unset, .unset, .unset, .unset, .unset] []))
  refine go (fun _ => XS.lload X14.here hx rfl (hb hby at_42) rfl) ?_
  show Run p e below _ (T14.setTop (mkF m 44 #[.val (.int p0), .val (.int p1), .val (.int p2), .val (.int p3), .val (.long (pt p0)), .second, .val (.long (pt p1)), .second, .val (.long (pt p2)), .second, .val (.long (pt p3)), .second, .val (.double (FP.ddiv (FP.l2d (pt p0)) (4616189618054758400 : UInt64))), .second, .val (.double (FP.ddiv (FP.l2d (pt p1)) (4616189618054758400 : UInt64))), .second, .unset, .unset, .unset, .unset, .unset, .unset, .unset, .unset, .unset] [(.long (pt p2))]))
  refine go (fun _ => XS.l2dS X14.here hx rfl (hb hby at_44) rfl rfl) ?_
  show Run p e below _ (T14.setTop (mkF m 45 #[.val (.int p0), .val (.int p1), .val (.int p2), .val (.int p3), .val (.long (pt p0)), .second, .val (.long (pt p1)), .second, .val (.long (pt p2)), .second, .val (.long (pt p3)), .second, .val (.double (FP.ddiv (FP.l2d (pt p0)) (4616189618054758400 : UInt64))), .second, .val (.double (FP.ddiv (FP.l2d (pt p1)) (4616189618054758400 : UInt64))), .second, .unset, .unset, .unset, .unset, .unset, .unset, .unset, .unset, .unset] [(.double (FP.l2d (pt p2)))]))
  refine go (fun _ => X14.ldc2DoubleC hx hown (mvT hZ (wd hw 5 rfl)) (g := (mkF m 45 #[.val (.int p0), .val (.int p1), .val (.int p2), .val (.int p3), .val (.long (pt p0)), .second, .val (.long (pt p1)), .second, .val (.long (pt p2)), .second, .val (.long (pt p3)), .second, .val (.double (FP.ddiv (FP.l2d (pt p0)) (4616189618054758400 : UInt64))), .second, .val (.double (FP.ddiv (FP.l2d (pt p1)) (4616189618054758400 : UInt64))), .second, .unset, .unset, .unset, .unset, .unset, .unset, .unset, .unset, .unset] [(.double (FP.l2d (pt p2)))])) rfl (hb hby at_45) _) ?_
  show Run p e below _ (T14.setTop (mkF m 48 #[.val (.int p0), .val (.int p1), .val (.int p2), .val (.int p3), .val (.long (pt p0)), .second, .val (.long (pt p1)), .second, .val (.long (pt p2)), .second, .val (.long (pt p3)), .second, .val (.double (FP.ddiv (FP.l2d (pt p0)) (4616189618054758400 : UInt64))), .second, .val (.double (FP.ddiv (FP.l2d (pt p1)) (4616189618054758400 : UInt64))), .second, .unset, .unset, .unset, .unset, .unset, .unset, .unset, .unset, .unset] [(.double (4616189618054758400 : UInt64)), (.double (FP.l2d (pt p2)))]))
  have v17 := q_div (pt p2) (Nat.lt_of_lt_of_le (pt_b p2) (by decide))
  refine go (fun _ => XS.ddivS X14.here hx rfl (hb hby at_48) rfl (q_nn v17) rfl) ?_
  show Run p e below _ (T14.setTop (mkF m 49 #[.val (.int p0), .val (.int p1), .val (.int p2), .val (.int p3), .val (.long (pt p0)), .second, .val (.long (pt p1)), .second, .val (.long (pt p2)), .second, .val (.long (pt p3)), .second, .val (.double (FP.ddiv (FP.l2d (pt p0)) (4616189618054758400 : UInt64))), .second, .val (.double (FP.ddiv (FP.l2d (pt p1)) (4616189618054758400 : UInt64))), .second, .unset, .unset, .unset, .unset, .unset, .unset, .unset, .unset, .unset] [(.double (FP.ddiv (FP.l2d (pt p2)) (4616189618054758400 : UInt64)))]))
  refine go (fun _ => XS.dstore X14.here hx rfl (hb hby at_49) rfl (l' := #[.val (.int p0), .val (.int p1), .val (.int p2), .val (.int p3), .val (.long (pt p0)), .second, .val (.long (pt p1)), .second, .val (.long (pt p2)), .second, .val (.long (pt p3)), .second, .val (.double (FP.ddiv (FP.l2d (pt p0)) (4616189618054758400 : UInt64))), .second, .val (.double (FP.ddiv (FP.l2d (pt p1)) (4616189618054758400 : UInt64))), .second, .val (.double (FP.ddiv (FP.l2d (pt p2)) (4616189618054758400 : UInt64))), .second, .unset, .unset, .unset, .unset, .unset, .unset, .unset]) rfl) ?_
  show Run p e below _ (T14.setTop (mkF m 51 #[.val (.int p0), .val (.int p1), .val (.int p2), .val (.int p3), .val (.long (pt p0)), .second, .val (.long (pt p1)), .second, .val (.long (pt p2)), .second, .val (.long (pt p3)), .second, .val (.double (FP.ddiv (FP.l2d (pt p0)) (4616189618054758400 : UInt64))), .second, .val (.double (FP.ddiv (FP.l2d (pt p1)) (4616189618054758400 : UInt64))), .second, .val (.double (FP.ddiv (FP.l2d (pt p2)) (4616189618054758400 : UInt64))), .second, .unset, .unset, .unset, .unset, .unset, .unset, .unset] []))
  refine go (fun _ => XS.lload X14.here hx rfl (hb hby at_51) rfl) ?_
  show Run p e below _ (T14.setTop (mkF m 53 #[.val (.int p0), .val (.int p1), .val (.int p2), .val (.int p3), .val (.long (pt p0)), .second, .val (.long (pt p1)), .second, .val (.long (pt p2)), .second, .val (.long (pt p3)), .second, .val (.double (FP.ddiv (FP.l2d (pt p0)) (4616189618054758400 : UInt64))), .second, .val (.double (FP.ddiv (FP.l2d (pt p1)) (4616189618054758400 : UInt64))), .second, .val (.double (FP.ddiv (FP.l2d (pt p2)) (4616189618054758400 : UInt64))), .second, .unset, .unset, .unset, .unset, .unset, .unset, .unset] [(.long (pt p3))]))
  refine go (fun _ => XS.l2dS X14.here hx rfl (hb hby at_53) rfl rfl) ?_
  show Run p e below _ (T14.setTop (mkF m 54 #[.val (.int p0), .val (.int p1), .val (.int p2), .val (.int p3), .val (.long (pt p0)), .second, .val (.long (pt p1)), .second, .val (.long (pt p2)), .second, .val (.long (pt p3)), .second, .val (.double (FP.ddiv (FP.l2d (pt p0)) (4616189618054758400 : UInt64))), .second, .val (.double (FP.ddiv (FP.l2d (pt p1)) (4616189618054758400 : UInt64))), .second, .val (.double (FP.ddiv (FP.l2d (pt p2)) (4616189618054758400 : UInt64))), .second, .unset, .unset, .unset, .unset, .unset, .unset, .unset] [(.double (FP.l2d (pt p3)))]))
  refine go (fun _ => X14.ldc2DoubleC hx hown (mvT hZ (wd hw 5 rfl)) (g := (mkF m 54 #[.val (.int p0), .val (.int p1), .val (.int p2), .val (.int p3), .val (.long (pt p0)), .second, .val (.long (pt p1)), .second, .val (.long (pt p2)), .second, .val (.long (pt p3)), .second, .val (.double (FP.ddiv (FP.l2d (pt p0)) (4616189618054758400 : UInt64))), .second, .val (.double (FP.ddiv (FP.l2d (pt p1)) (4616189618054758400 : UInt64))), .second, .val (.double (FP.ddiv (FP.l2d (pt p2)) (4616189618054758400 : UInt64))), .second, .unset, .unset, .unset, .unset, .unset, .unset, .unset] [(.double (FP.l2d (pt p3)))])) rfl (hb hby at_54) _) ?_
  show Run p e below _ (T14.setTop (mkF m 57 #[.val (.int p0), .val (.int p1), .val (.int p2), .val (.int p3), .val (.long (pt p0)), .second, .val (.long (pt p1)), .second, .val (.long (pt p2)), .second, .val (.long (pt p3)), .second, .val (.double (FP.ddiv (FP.l2d (pt p0)) (4616189618054758400 : UInt64))), .second, .val (.double (FP.ddiv (FP.l2d (pt p1)) (4616189618054758400 : UInt64))), .second, .val (.double (FP.ddiv (FP.l2d (pt p2)) (4616189618054758400 : UInt64))), .second, .unset, .unset, .unset, .unset, .unset, .unset, .unset] [(.double (4616189618054758400 : UInt64)), (.double (FP.l2d (pt p3)))]))
  have v18 := q_div (pt p3) (Nat.lt_of_lt_of_le (pt_b p3) (by decide))
  refine go (fun _ => XS.ddivS X14.here hx rfl (hb hby at_57) rfl (q_nn v18) rfl) ?_
  show Run p e below _ (T14.setTop (mkF m 58 #[.val (.int p0), .val (.int p1), .val (.int p2), .val (.int p3), .val (.long (pt p0)), .second, .val (.long (pt p1)), .second, .val (.long (pt p2)), .second, .val (.long (pt p3)), .second, .val (.double (FP.ddiv (FP.l2d (pt p0)) (4616189618054758400 : UInt64))), .second, .val (.double (FP.ddiv (FP.l2d (pt p1)) (4616189618054758400 : UInt64))), .second, .val (.double (FP.ddiv (FP.l2d (pt p2)) (4616189618054758400 : UInt64))), .second, .unset, .unset, .unset, .unset, .unset, .unset, .unset] [(.double (FP.ddiv (FP.l2d (pt p3)) (4616189618054758400 : UInt64)))]))
  refine go (fun _ => XS.dstore X14.here hx rfl (hb hby at_58) rfl (l' := #[.val (.int p0), .val (.int p1), .val (.int p2), .val (.int p3), .val (.long (pt p0)), .second, .val (.long (pt p1)), .second, .val (.long (pt p2)), .second, .val (.long (pt p3)), .second, .val (.double (FP.ddiv (FP.l2d (pt p0)) (4616189618054758400 : UInt64))), .second, .val (.double (FP.ddiv (FP.l2d (pt p1)) (4616189618054758400 : UInt64))), .second, .val (.double (FP.ddiv (FP.l2d (pt p2)) (4616189618054758400 : UInt64))), .second, .val (.double (FP.ddiv (FP.l2d (pt p3)) (4616189618054758400 : UInt64))), .second, .unset, .unset, .unset, .unset, .unset]) rfl) ?_
  show Run p e below _ (T14.setTop (mkF m 60 #[.val (.int p0), .val (.int p1), .val (.int p2), .val (.int p3), .val (.long (pt p0)), .second, .val (.long (pt p1)), .second, .val (.long (pt p2)), .second, .val (.long (pt p3)), .second, .val (.double (FP.ddiv (FP.l2d (pt p0)) (4616189618054758400 : UInt64))), .second, .val (.double (FP.ddiv (FP.l2d (pt p1)) (4616189618054758400 : UInt64))), .second, .val (.double (FP.ddiv (FP.l2d (pt p2)) (4616189618054758400 : UInt64))), .second, .val (.double (FP.ddiv (FP.l2d (pt p3)) (4616189618054758400 : UInt64))), .second, .unset, .unset, .unset, .unset, .unset] []))
  obtain ⟨T19, h19, X19, e19, E19, A19, D19, -, st19⟩ := newO X14 hx hZ hown (wd hw 6 rfl) (wd hw 7 rfl) (wd hw 8 rfl) e14 (g := (mkF m 60 #[.val (.int p0), .val (.int p1), .val (.int p2), .val (.int p3), .val (.long (pt p0)), .second, .val (.long (pt p1)), .second, .val (.long (pt p2)), .second, .val (.long (pt p3)), .second, .val (.double (FP.ddiv (FP.l2d (pt p0)) (4616189618054758400 : UInt64))), .second, .val (.double (FP.ddiv (FP.l2d (pt p1)) (4616189618054758400 : UInt64))), .second, .val (.double (FP.ddiv (FP.l2d (pt p2)) (4616189618054758400 : UInt64))), .second, .val (.double (FP.ddiv (FP.l2d (pt p3)) (4616189618054758400 : UInt64))), .second, .unset, .unset, .unset, .unset, .unset] [])) rfl (hb hby at_60) (by decide) (by decide)
  obtain ⟨b19, y19⟩ : ∃ z, z = h0.size := ⟨_, rfl⟩
  rw [← y19] at A19 D19 st19
  have g_b19 : n0 ≤ b19 := y19.symm ▸ old_sz O0
  have O0 := O0.ext E19
  have E_b19 := A19
  have F_url_b19 : Fld Z h19 b19 "com/example/visit_by_value/visitbyvalue/core/PageWeight" "url" "D" (.double (0 : UInt64)) := D19 (Or.inr (wd hw 21 rfl)) (ty := .double) (by decide)
  have F_title_b19 : Fld Z h19 b19 "com/example/visit_by_value/visitbyvalue/core/PageWeight" "title" "D" (.double (0 : UInt64)) := D19 (Or.inr (wd hw 23 rfl)) (ty := .double) (by decide)
  have F_body_b19 : Fld Z h19 b19 "com/example/visit_by_value/visitbyvalue/core/PageWeight" "body" "D" (.double (0 : UInt64)) := D19 (Or.inr (wd hw 25 rfl)) (ty := .double) (by decide)
  have F_links_b19 : Fld Z h19 b19 "com/example/visit_by_value/visitbyvalue/core/PageWeight" "links" "D" (.double (0 : UInt64)) := D19 (Or.inr (wd hw 27 rfl)) (ty := .double) (by decide)
  refine go st19 ?_
  show Run p e below _ (T19.setTop (mkF m 63 #[.val (.int p0), .val (.int p1), .val (.int p2), .val (.int p3), .val (.long (pt p0)), .second, .val (.long (pt p1)), .second, .val (.long (pt p2)), .second, .val (.long (pt p3)), .second, .val (.double (FP.ddiv (FP.l2d (pt p0)) (4616189618054758400 : UInt64))), .second, .val (.double (FP.ddiv (FP.l2d (pt p1)) (4616189618054758400 : UInt64))), .second, .val (.double (FP.ddiv (FP.l2d (pt p2)) (4616189618054758400 : UInt64))), .second, .val (.double (FP.ddiv (FP.l2d (pt p3)) (4616189618054758400 : UInt64))), .second, .unset, .unset, .unset, .unset, .unset] [(.ref b19)]))
  refine go (fun _ => XS.dup X19.here hx rfl (hb hby at_63) rfl rfl) ?_
  show Run p e below _ (T19.setTop (mkF m 64 #[.val (.int p0), .val (.int p1), .val (.int p2), .val (.int p3), .val (.long (pt p0)), .second, .val (.long (pt p1)), .second, .val (.long (pt p2)), .second, .val (.long (pt p3)), .second, .val (.double (FP.ddiv (FP.l2d (pt p0)) (4616189618054758400 : UInt64))), .second, .val (.double (FP.ddiv (FP.l2d (pt p1)) (4616189618054758400 : UInt64))), .second, .val (.double (FP.ddiv (FP.l2d (pt p2)) (4616189618054758400 : UInt64))), .second, .val (.double (FP.ddiv (FP.l2d (pt p3)) (4616189618054758400 : UInt64))), .second, .unset, .unset, .unset, .unset, .unset] [(.ref b19), (.ref b19)]))
  refine go (fun _ => XS.dload X19.here hx rfl (hb hby at_64) rfl) ?_
  show Run p e below _ (T19.setTop (mkF m 66 #[.val (.int p0), .val (.int p1), .val (.int p2), .val (.int p3), .val (.long (pt p0)), .second, .val (.long (pt p1)), .second, .val (.long (pt p2)), .second, .val (.long (pt p3)), .second, .val (.double (FP.ddiv (FP.l2d (pt p0)) (4616189618054758400 : UInt64))), .second, .val (.double (FP.ddiv (FP.l2d (pt p1)) (4616189618054758400 : UInt64))), .second, .val (.double (FP.ddiv (FP.l2d (pt p2)) (4616189618054758400 : UInt64))), .second, .val (.double (FP.ddiv (FP.l2d (pt p3)) (4616189618054758400 : UInt64))), .second, .unset, .unset, .unset, .unset, .unset] [(.double (FP.ddiv (FP.l2d (pt p0)) (4616189618054758400 : UInt64))), (.ref b19), (.ref b19)]))
  refine go (fun _ => XS.dload X19.here hx rfl (hb hby at_66) rfl) ?_
  show Run p e below _ (T19.setTop (mkF m 68 #[.val (.int p0), .val (.int p1), .val (.int p2), .val (.int p3), .val (.long (pt p0)), .second, .val (.long (pt p1)), .second, .val (.long (pt p2)), .second, .val (.long (pt p3)), .second, .val (.double (FP.ddiv (FP.l2d (pt p0)) (4616189618054758400 : UInt64))), .second, .val (.double (FP.ddiv (FP.l2d (pt p1)) (4616189618054758400 : UInt64))), .second, .val (.double (FP.ddiv (FP.l2d (pt p2)) (4616189618054758400 : UInt64))), .second, .val (.double (FP.ddiv (FP.l2d (pt p3)) (4616189618054758400 : UInt64))), .second, .unset, .unset, .unset, .unset, .unset] [(.double (FP.ddiv (FP.l2d (pt p1)) (4616189618054758400 : UInt64))), (.double (FP.ddiv (FP.l2d (pt p0)) (4616189618054758400 : UInt64))), (.ref b19), (.ref b19)]))
  refine go (fun _ => XS.dload X19.here hx rfl (hb hby at_68) rfl) ?_
  show Run p e below _ (T19.setTop (mkF m 70 #[.val (.int p0), .val (.int p1), .val (.int p2), .val (.int p3), .val (.long (pt p0)), .second, .val (.long (pt p1)), .second, .val (.long (pt p2)), .second, .val (.long (pt p3)), .second, .val (.double (FP.ddiv (FP.l2d (pt p0)) (4616189618054758400 : UInt64))), .second, .val (.double (FP.ddiv (FP.l2d (pt p1)) (4616189618054758400 : UInt64))), .second, .val (.double (FP.ddiv (FP.l2d (pt p2)) (4616189618054758400 : UInt64))), .second, .val (.double (FP.ddiv (FP.l2d (pt p3)) (4616189618054758400 : UInt64))), .second, .unset, .unset, .unset, .unset, .unset] [(.double (FP.ddiv (FP.l2d (pt p2)) (4616189618054758400 : UInt64))), (.double (FP.ddiv (FP.l2d (pt p1)) (4616189618054758400 : UInt64))), (.double (FP.ddiv (FP.l2d (pt p0)) (4616189618054758400 : UInt64))), (.ref b19), (.ref b19)]))
  refine go (fun _ => XS.dload X19.here hx rfl (hb hby at_70) rfl) ?_
  show Run p e below _ (T19.setTop (mkF m 72 #[.val (.int p0), .val (.int p1), .val (.int p2), .val (.int p3), .val (.long (pt p0)), .second, .val (.long (pt p1)), .second, .val (.long (pt p2)), .second, .val (.long (pt p3)), .second, .val (.double (FP.ddiv (FP.l2d (pt p0)) (4616189618054758400 : UInt64))), .second, .val (.double (FP.ddiv (FP.l2d (pt p1)) (4616189618054758400 : UInt64))), .second, .val (.double (FP.ddiv (FP.l2d (pt p2)) (4616189618054758400 : UInt64))), .second, .val (.double (FP.ddiv (FP.l2d (pt p3)) (4616189618054758400 : UInt64))), .second, .unset, .unset, .unset, .unset, .unset] [(.double (FP.ddiv (FP.l2d (pt p3)) (4616189618054758400 : UInt64))), (.double (FP.ddiv (FP.l2d (pt p2)) (4616189618054758400 : UInt64))), (.double (FP.ddiv (FP.l2d (pt p1)) (4616189618054758400 : UInt64))), (.double (FP.ddiv (FP.l2d (pt p0)) (4616189618054758400 : UInt64))), (.ref b19), (.ref b19)]))
  refine callSp X19 hx hZ rfl hown (wd hw 9 rfl) (wd hw 10 rfl) (wd hw 11 rfl) (wd hw 8 rfl) (by decide) e19 (a := b19) (argsL := [(.double (FP.ddiv (FP.l2d (pt p0)) (4616189618054758400 : UInt64))), (.double (FP.ddiv (FP.l2d (pt p1)) (4616189618054758400 : UInt64))), (.double (FP.ddiv (FP.l2d (pt p2)) (4616189618054758400 : UInt64))), (.double (FP.ddiv (FP.l2d (pt p3)) (4616189618054758400 : UInt64)))]) (rest := [(.ref b19)]) (rm_init l Z a0 hw [] b19 (FP.ddiv (FP.l2d (pt p0)) (4616189618054758400 : UInt64)) (FP.ddiv (FP.l2d (pt p1)) (4616189618054758400 : UInt64)) (FP.ddiv (FP.l2d (pt p2)) (4616189618054758400 : UInt64)) (FP.ddiv (FP.l2d (pt p3)) (4616189618054758400 : UInt64)) h19 n0 O0 E_b19 F_url_b19 F_title_b19 F_body_b19 F_links_b19 g_b19) (W := 1) (by decide) (by decide) (by decide) (by decide) (by rw [hml]; rfl) (lenOf pd_2 rfl) rfl (Nat.le_of_eq rfl) (hb hby at_72) ?_
  intro v20 T20 L20 h20 X20 e20 q20
  obtain ⟨rfl, n20, K20, E_b19, F_url_b19, F_title_b19, F_body_b19, F_links_b19⟩ := q20
  have O0 := O0.keep K20 (allS g_b19 all0)
  have N20 := Fr.app N14 n20
  show Run p e below _ (T20.setTop (mkF m 75 #[.val (.int p0), .val (.int p1), .val (.int p2), .val (.int p3), .val (.long (pt p0)), .second, .val (.long (pt p1)), .second, .val (.long (pt p2)), .second, .val (.long (pt p3)), .second, .val (.double (FP.ddiv (FP.l2d (pt p0)) (4616189618054758400 : UInt64))), .second, .val (.double (FP.ddiv (FP.l2d (pt p1)) (4616189618054758400 : UInt64))), .second, .val (.double (FP.ddiv (FP.l2d (pt p2)) (4616189618054758400 : UInt64))), .second, .val (.double (FP.ddiv (FP.l2d (pt p3)) (4616189618054758400 : UInt64))), .second, .unset, .unset, .unset, .unset, .unset] [(.ref b19)]))
  refine go (fun _ => XS.astore X20.here hx rfl (hb hby at_75) rfl rfl (l' := #[.val (.int p0), .val (.int p1), .val (.int p2), .val (.int p3), .val (.long (pt p0)), .second, .val (.long (pt p1)), .second, .val (.long (pt p2)), .second, .val (.long (pt p3)), .second, .val (.double (FP.ddiv (FP.l2d (pt p0)) (4616189618054758400 : UInt64))), .second, .val (.double (FP.ddiv (FP.l2d (pt p1)) (4616189618054758400 : UInt64))), .second, .val (.double (FP.ddiv (FP.l2d (pt p2)) (4616189618054758400 : UInt64))), .second, .val (.double (FP.ddiv (FP.l2d (pt p3)) (4616189618054758400 : UInt64))), .second, .val (.ref b19), .unset, .unset, .unset, .unset]) rfl) ?_
  show Run p e below _ (T20.setTop (mkF m 77 #[.val (.int p0), .val (.int p1), .val (.int p2), .val (.int p3), .val (.long (pt p0)), .second, .val (.long (pt p1)), .second, .val (.long (pt p2)), .second, .val (.long (pt p3)), .second, .val (.double (FP.ddiv (FP.l2d (pt p0)) (4616189618054758400 : UInt64))), .second, .val (.double (FP.ddiv (FP.l2d (pt p1)) (4616189618054758400 : UInt64))), .second, .val (.double (FP.ddiv (FP.l2d (pt p2)) (4616189618054758400 : UInt64))), .second, .val (.double (FP.ddiv (FP.l2d (pt p3)) (4616189618054758400 : UInt64))), .second, .val (.ref b19), .unset, .unset, .unset, .unset] []))
  refine go (fun _ => XS.lload X20.here hx rfl (hb hby at_77) rfl) ?_
  show Run p e below _ (T20.setTop (mkF m 79 #[.val (.int p0), .val (.int p1), .val (.int p2), .val (.int p3), .val (.long (pt p0)), .second, .val (.long (pt p1)), .second, .val (.long (pt p2)), .second, .val (.long (pt p3)), .second, .val (.double (FP.ddiv (FP.l2d (pt p0)) (4616189618054758400 : UInt64))), .second, .val (.double (FP.ddiv (FP.l2d (pt p1)) (4616189618054758400 : UInt64))), .second, .val (.double (FP.ddiv (FP.l2d (pt p2)) (4616189618054758400 : UInt64))), .second, .val (.double (FP.ddiv (FP.l2d (pt p3)) (4616189618054758400 : UInt64))), .second, .val (.ref b19), .unset, .unset, .unset, .unset] [(.long (pt p0))]))
  refine go (fun _ => XS.lload X20.here hx rfl (hb hby at_79) rfl) ?_
  show Run p e below _ (T20.setTop (mkF m 81 #[.val (.int p0), .val (.int p1), .val (.int p2), .val (.int p3), .val (.long (pt p0)), .second, .val (.long (pt p1)), .second, .val (.long (pt p2)), .second, .val (.long (pt p3)), .second, .val (.double (FP.ddiv (FP.l2d (pt p0)) (4616189618054758400 : UInt64))), .second, .val (.double (FP.ddiv (FP.l2d (pt p1)) (4616189618054758400 : UInt64))), .second, .val (.double (FP.ddiv (FP.l2d (pt p2)) (4616189618054758400 : UInt64))), .second, .val (.double (FP.ddiv (FP.l2d (pt p3)) (4616189618054758400 : UInt64))), .second, .val (.ref b19), .unset, .unset, .unset, .unset] [(.long (pt p1)), (.long (pt p0))]))
  refine go (fun _ => XS.ladd X20.here hx rfl (hb hby at_81) rfl) ?_
  show Run p e below _ (T20.setTop (mkF m 82 #[.val (.int p0), .val (.int p1), .val (.int p2), .val (.int p3), .val (.long (pt p0)), .second, .val (.long (pt p1)), .second, .val (.long (pt p2)), .second, .val (.long (pt p3)), .second, .val (.double (FP.ddiv (FP.l2d (pt p0)) (4616189618054758400 : UInt64))), .second, .val (.double (FP.ddiv (FP.l2d (pt p1)) (4616189618054758400 : UInt64))), .second, .val (.double (FP.ddiv (FP.l2d (pt p2)) (4616189618054758400 : UInt64))), .second, .val (.double (FP.ddiv (FP.l2d (pt p3)) (4616189618054758400 : UInt64))), .second, .val (.ref b19), .unset, .unset, .unset, .unset] [(.long ((pt p0) + (pt p1)))]))
  refine go (fun _ => XS.lload X20.here hx rfl (hb hby at_82) rfl) ?_
  show Run p e below _ (T20.setTop (mkF m 84 #[.val (.int p0), .val (.int p1), .val (.int p2), .val (.int p3), .val (.long (pt p0)), .second, .val (.long (pt p1)), .second, .val (.long (pt p2)), .second, .val (.long (pt p3)), .second, .val (.double (FP.ddiv (FP.l2d (pt p0)) (4616189618054758400 : UInt64))), .second, .val (.double (FP.ddiv (FP.l2d (pt p1)) (4616189618054758400 : UInt64))), .second, .val (.double (FP.ddiv (FP.l2d (pt p2)) (4616189618054758400 : UInt64))), .second, .val (.double (FP.ddiv (FP.l2d (pt p3)) (4616189618054758400 : UInt64))), .second, .val (.ref b19), .unset, .unset, .unset, .unset] [(.long (pt p2)), (.long ((pt p0) + (pt p1)))]))
  refine go (fun _ => XS.ladd X20.here hx rfl (hb hby at_84) rfl) ?_
  show Run p e below _ (T20.setTop (mkF m 85 #[.val (.int p0), .val (.int p1), .val (.int p2), .val (.int p3), .val (.long (pt p0)), .second, .val (.long (pt p1)), .second, .val (.long (pt p2)), .second, .val (.long (pt p3)), .second, .val (.double (FP.ddiv (FP.l2d (pt p0)) (4616189618054758400 : UInt64))), .second, .val (.double (FP.ddiv (FP.l2d (pt p1)) (4616189618054758400 : UInt64))), .second, .val (.double (FP.ddiv (FP.l2d (pt p2)) (4616189618054758400 : UInt64))), .second, .val (.double (FP.ddiv (FP.l2d (pt p3)) (4616189618054758400 : UInt64))), .second, .val (.ref b19), .unset, .unset, .unset, .unset] [(.long (((pt p0) + (pt p1)) + (pt p2)))]))
  refine go (fun _ => XS.lload X20.here hx rfl (hb hby at_85) rfl) ?_
  show Run p e below _ (T20.setTop (mkF m 87 #[.val (.int p0), .val (.int p1), .val (.int p2), .val (.int p3), .val (.long (pt p0)), .second, .val (.long (pt p1)), .second, .val (.long (pt p2)), .second, .val (.long (pt p3)), .second, .val (.double (FP.ddiv (FP.l2d (pt p0)) (4616189618054758400 : UInt64))), .second, .val (.double (FP.ddiv (FP.l2d (pt p1)) (4616189618054758400 : UInt64))), .second, .val (.double (FP.ddiv (FP.l2d (pt p2)) (4616189618054758400 : UInt64))), .second, .val (.double (FP.ddiv (FP.l2d (pt p3)) (4616189618054758400 : UInt64))), .second, .val (.ref b19), .unset, .unset, .unset, .unset] [(.long (pt p3)), (.long (((pt p0) + (pt p1)) + (pt p2)))]))
  refine go (fun _ => XS.ladd X20.here hx rfl (hb hby at_87) rfl) ?_
  show Run p e below _ (T20.setTop (mkF m 88 #[.val (.int p0), .val (.int p1), .val (.int p2), .val (.int p3), .val (.long (pt p0)), .second, .val (.long (pt p1)), .second, .val (.long (pt p2)), .second, .val (.long (pt p3)), .second, .val (.double (FP.ddiv (FP.l2d (pt p0)) (4616189618054758400 : UInt64))), .second, .val (.double (FP.ddiv (FP.l2d (pt p1)) (4616189618054758400 : UInt64))), .second, .val (.double (FP.ddiv (FP.l2d (pt p2)) (4616189618054758400 : UInt64))), .second, .val (.double (FP.ddiv (FP.l2d (pt p3)) (4616189618054758400 : UInt64))), .second, .val (.ref b19), .unset, .unset, .unset, .unset] [(.long ((((pt p0) + (pt p1)) + (pt p2)) + (pt p3)))]))
  refine go (fun _ => XS.lstore X20.here hx rfl (hb hby at_88) rfl (l' := #[.val (.int p0), .val (.int p1), .val (.int p2), .val (.int p3), .val (.long (pt p0)), .second, .val (.long (pt p1)), .second, .val (.long (pt p2)), .second, .val (.long (pt p3)), .second, .val (.double (FP.ddiv (FP.l2d (pt p0)) (4616189618054758400 : UInt64))), .second, .val (.double (FP.ddiv (FP.l2d (pt p1)) (4616189618054758400 : UInt64))), .second, .val (.double (FP.ddiv (FP.l2d (pt p2)) (4616189618054758400 : UInt64))), .second, .val (.double (FP.ddiv (FP.l2d (pt p3)) (4616189618054758400 : UInt64))), .second, .val (.ref b19), .val (.long ((((pt p0) + (pt p1)) + (pt p2)) + (pt p3))), .second, .unset, .unset]) rfl) ?_
  show Run p e below _ (T20.setTop (mkF m 90 #[.val (.int p0), .val (.int p1), .val (.int p2), .val (.int p3), .val (.long (pt p0)), .second, .val (.long (pt p1)), .second, .val (.long (pt p2)), .second, .val (.long (pt p3)), .second, .val (.double (FP.ddiv (FP.l2d (pt p0)) (4616189618054758400 : UInt64))), .second, .val (.double (FP.ddiv (FP.l2d (pt p1)) (4616189618054758400 : UInt64))), .second, .val (.double (FP.ddiv (FP.l2d (pt p2)) (4616189618054758400 : UInt64))), .second, .val (.double (FP.ddiv (FP.l2d (pt p3)) (4616189618054758400 : UInt64))), .second, .val (.ref b19), .val (.long ((((pt p0) + (pt p1)) + (pt p2)) + (pt p3))), .second, .unset, .unset] []))
  refine go (fun _ => XS.lload X20.here hx rfl (hb hby at_90) rfl) ?_
  show Run p e below _ (T20.setTop (mkF m 92 #[.val (.int p0), .val (.int p1), .val (.int p2), .val (.int p3), .val (.long (pt p0)), .second, .val (.long (pt p1)), .second, .val (.long (pt p2)), .second, .val (.long (pt p3)), .second, .val (.double (FP.ddiv (FP.l2d (pt p0)) (4616189618054758400 : UInt64))), .second, .val (.double (FP.ddiv (FP.l2d (pt p1)) (4616189618054758400 : UInt64))), .second, .val (.double (FP.ddiv (FP.l2d (pt p2)) (4616189618054758400 : UInt64))), .second, .val (.double (FP.ddiv (FP.l2d (pt p3)) (4616189618054758400 : UInt64))), .second, .val (.ref b19), .val (.long ((((pt p0) + (pt p1)) + (pt p2)) + (pt p3))), .second, .unset, .unset] [(.long ((((pt p0) + (pt p1)) + (pt p2)) + (pt p3)))]))
  refine go (fun _ => XS.l2dS X20.here hx rfl (hb hby at_92) rfl rfl) ?_
  show Run p e below _ (T20.setTop (mkF m 93 #[.val (.int p0), .val (.int p1), .val (.int p2), .val (.int p3), .val (.long (pt p0)), .second, .val (.long (pt p1)), .second, .val (.long (pt p2)), .second, .val (.long (pt p3)), .second, .val (.double (FP.ddiv (FP.l2d (pt p0)) (4616189618054758400 : UInt64))), .second, .val (.double (FP.ddiv (FP.l2d (pt p1)) (4616189618054758400 : UInt64))), .second, .val (.double (FP.ddiv (FP.l2d (pt p2)) (4616189618054758400 : UInt64))), .second, .val (.double (FP.ddiv (FP.l2d (pt p3)) (4616189618054758400 : UInt64))), .second, .val (.ref b19), .val (.long ((((pt p0) + (pt p1)) + (pt p2)) + (pt p3))), .second, .unset, .unset] [(.double (FP.l2d ((((pt p0) + (pt p1)) + (pt p2)) + (pt p3))))]))
  refine go (fun _ => X20.ldc2DoubleC hx hown (mvT hZ (wd hw 5 rfl)) (g := (mkF m 93 #[.val (.int p0), .val (.int p1), .val (.int p2), .val (.int p3), .val (.long (pt p0)), .second, .val (.long (pt p1)), .second, .val (.long (pt p2)), .second, .val (.long (pt p3)), .second, .val (.double (FP.ddiv (FP.l2d (pt p0)) (4616189618054758400 : UInt64))), .second, .val (.double (FP.ddiv (FP.l2d (pt p1)) (4616189618054758400 : UInt64))), .second, .val (.double (FP.ddiv (FP.l2d (pt p2)) (4616189618054758400 : UInt64))), .second, .val (.double (FP.ddiv (FP.l2d (pt p3)) (4616189618054758400 : UInt64))), .second, .val (.ref b19), .val (.long ((((pt p0) + (pt p1)) + (pt p2)) + (pt p3))), .second, .unset, .unset] [(.double (FP.l2d ((((pt p0) + (pt p1)) + (pt p2)) + (pt p3))))])) rfl (hb hby at_93) _) ?_
  show Run p e below _ (T20.setTop (mkF m 96 #[.val (.int p0), .val (.int p1), .val (.int p2), .val (.int p3), .val (.long (pt p0)), .second, .val (.long (pt p1)), .second, .val (.long (pt p2)), .second, .val (.long (pt p3)), .second, .val (.double (FP.ddiv (FP.l2d (pt p0)) (4616189618054758400 : UInt64))), .second, .val (.double (FP.ddiv (FP.l2d (pt p1)) (4616189618054758400 : UInt64))), .second, .val (.double (FP.ddiv (FP.l2d (pt p2)) (4616189618054758400 : UInt64))), .second, .val (.double (FP.ddiv (FP.l2d (pt p3)) (4616189618054758400 : UInt64))), .second, .val (.ref b19), .val (.long ((((pt p0) + (pt p1)) + (pt p2)) + (pt p3))), .second, .unset, .unset] [(.double (4616189618054758400 : UInt64)), (.double (FP.l2d ((((pt p0) + (pt p1)) + (pt p2)) + (pt p3))))]))
  obtain ⟨s2, b2⟩ := own_ad (pt_b p0) (pt_b p1) (by decide) (by decide)
  obtain ⟨s3, b3⟩ := own_ad b2 (pt_b p2) (by decide) (by decide)
  obtain ⟨s4, b4⟩ := own_ad b3 (pt_b p3) (by decide) (by decide)
  have v21 := q_div ((((pt p0) + (pt p1)) + (pt p2)) + (pt p3)) (Nat.lt_of_lt_of_le b4 (by decide))
  refine go (fun _ => XS.ddivS X20.here hx rfl (hb hby at_96) rfl (q_nn v21) rfl) ?_
  show Run p e below _ (T20.setTop (mkF m 97 #[.val (.int p0), .val (.int p1), .val (.int p2), .val (.int p3), .val (.long (pt p0)), .second, .val (.long (pt p1)), .second, .val (.long (pt p2)), .second, .val (.long (pt p3)), .second, .val (.double (FP.ddiv (FP.l2d (pt p0)) (4616189618054758400 : UInt64))), .second, .val (.double (FP.ddiv (FP.l2d (pt p1)) (4616189618054758400 : UInt64))), .second, .val (.double (FP.ddiv (FP.l2d (pt p2)) (4616189618054758400 : UInt64))), .second, .val (.double (FP.ddiv (FP.l2d (pt p3)) (4616189618054758400 : UInt64))), .second, .val (.ref b19), .val (.long ((((pt p0) + (pt p1)) + (pt p2)) + (pt p3))), .second, .unset, .unset] [(.double (FP.ddiv (FP.l2d ((((pt p0) + (pt p1)) + (pt p2)) + (pt p3))) (4616189618054758400 : UInt64)))]))
  refine go (fun _ => XS.dstore X20.here hx rfl (hb hby at_97) rfl (l' := #[.val (.int p0), .val (.int p1), .val (.int p2), .val (.int p3), .val (.long (pt p0)), .second, .val (.long (pt p1)), .second, .val (.long (pt p2)), .second, .val (.long (pt p3)), .second, .val (.double (FP.ddiv (FP.l2d (pt p0)) (4616189618054758400 : UInt64))), .second, .val (.double (FP.ddiv (FP.l2d (pt p1)) (4616189618054758400 : UInt64))), .second, .val (.double (FP.ddiv (FP.l2d (pt p2)) (4616189618054758400 : UInt64))), .second, .val (.double (FP.ddiv (FP.l2d (pt p3)) (4616189618054758400 : UInt64))), .second, .val (.ref b19), .val (.long ((((pt p0) + (pt p1)) + (pt p2)) + (pt p3))), .second, .val (.double (FP.ddiv (FP.l2d ((((pt p0) + (pt p1)) + (pt p2)) + (pt p3))) (4616189618054758400 : UInt64))), .second]) rfl) ?_
  show Run p e below _ (T20.setTop (mkF m 99 #[.val (.int p0), .val (.int p1), .val (.int p2), .val (.int p3), .val (.long (pt p0)), .second, .val (.long (pt p1)), .second, .val (.long (pt p2)), .second, .val (.long (pt p3)), .second, .val (.double (FP.ddiv (FP.l2d (pt p0)) (4616189618054758400 : UInt64))), .second, .val (.double (FP.ddiv (FP.l2d (pt p1)) (4616189618054758400 : UInt64))), .second, .val (.double (FP.ddiv (FP.l2d (pt p2)) (4616189618054758400 : UInt64))), .second, .val (.double (FP.ddiv (FP.l2d (pt p3)) (4616189618054758400 : UInt64))), .second, .val (.ref b19), .val (.long ((((pt p0) + (pt p1)) + (pt p2)) + (pt p3))), .second, .val (.double (FP.ddiv (FP.l2d ((((pt p0) + (pt p1)) + (pt p2)) + (pt p3))) (4616189618054758400 : UInt64))), .second] []))
  refine go (fun _ => XS.aload X20.here hx rfl (hb hby at_99) rfl rfl) ?_
  show Run p e below _ (T20.setTop (mkF m 101 #[.val (.int p0), .val (.int p1), .val (.int p2), .val (.int p3), .val (.long (pt p0)), .second, .val (.long (pt p1)), .second, .val (.long (pt p2)), .second, .val (.long (pt p3)), .second, .val (.double (FP.ddiv (FP.l2d (pt p0)) (4616189618054758400 : UInt64))), .second, .val (.double (FP.ddiv (FP.l2d (pt p1)) (4616189618054758400 : UInt64))), .second, .val (.double (FP.ddiv (FP.l2d (pt p2)) (4616189618054758400 : UInt64))), .second, .val (.double (FP.ddiv (FP.l2d (pt p3)) (4616189618054758400 : UInt64))), .second, .val (.ref b19), .val (.long ((((pt p0) + (pt p1)) + (pt p2)) + (pt p3))), .second, .val (.double (FP.ddiv (FP.l2d ((((pt p0) + (pt p1)) + (pt p2)) + (pt p3))) (4616189618054758400 : UInt64))), .second] [(.ref b19)]))
  have a2 := q_add v15 v16 (Nat.lt_of_lt_of_le (pt_b p0) (by decide)) (Nat.lt_of_lt_of_le (pt_b p1) (by decide))
  rw [← s2] at a2
  have a3 := q_add a2 v17 (Nat.lt_of_lt_of_le b2 (by decide)) (Nat.lt_of_lt_of_le (pt_b p2) (by decide))
  rw [← s3] at a3
  have a4 := q_add a3 v18 (Nat.lt_of_lt_of_le b3 (by decide)) (Nat.lt_of_lt_of_le (pt_b p3) (by decide))
  rw [← s4] at a4
  refine callVi X20 hx hZ hown (wd hw 28 rfl) (wd hw 29 rfl) (notFace_of_selects (args := #[]) (mvT hZ (wd hw 31 rfl))) (wd hw 31 rfl) (wd hw 30 rfl) (wd hw 32 rfl) (wd hw 8 rfl) (by decide) e20 E_b19 (argsL := []) (rest := []) (rm_tot l Z a0 hw [] b19 (FP.ddiv (FP.l2d (pt p0)) (4616189618054758400 : UInt64)) (FP.ddiv (FP.l2d (pt p1)) (4616189618054758400 : UInt64)) (FP.ddiv (FP.l2d (pt p2)) (4616189618054758400 : UInt64)) (FP.ddiv (FP.l2d (pt p3)) (4616189618054758400 : UInt64)) h20 n0 O0 E_b19 F_url_b19 F_title_b19 F_body_b19 F_links_b19 (q_nn a2) (q_nn a3) (q_nn a4)) (W := 0) (by decide) (by decide) (by decide) (by decide) (by rw [hml]; rfl) (lenOf pd_3 rfl) rfl (Nat.le_of_eq rfl) (hb hby at_101) ?_
  intro v22 T22 L22 h22 X22 e22 q22
  obtain ⟨rv, n22, k22⟩ := q22
  replace rv : v22 = some (.double (FP.dadd (FP.dadd (FP.dadd (FP.ddiv (FP.l2d (pt p0)) (4616189618054758400 : UInt64)) (FP.ddiv (FP.l2d (pt p1)) (4616189618054758400 : UInt64))) (FP.ddiv (FP.l2d (pt p2)) (4616189618054758400 : UInt64))) (FP.ddiv (FP.l2d (pt p3)) (4616189618054758400 : UInt64)))) := rv
  subst rv
  have e22 := e22.trans k22
  have N22 := Fr.app N20 n22
  show Run p e below _ (T22.setTop (mkF m 104 #[.val (.int p0), .val (.int p1), .val (.int p2), .val (.int p3), .val (.long (pt p0)), .second, .val (.long (pt p1)), .second, .val (.long (pt p2)), .second, .val (.long (pt p3)), .second, .val (.double (FP.ddiv (FP.l2d (pt p0)) (4616189618054758400 : UInt64))), .second, .val (.double (FP.ddiv (FP.l2d (pt p1)) (4616189618054758400 : UInt64))), .second, .val (.double (FP.ddiv (FP.l2d (pt p2)) (4616189618054758400 : UInt64))), .second, .val (.double (FP.ddiv (FP.l2d (pt p3)) (4616189618054758400 : UInt64))), .second, .val (.ref b19), .val (.long ((((pt p0) + (pt p1)) + (pt p2)) + (pt p3))), .second, .val (.double (FP.ddiv (FP.l2d ((((pt p0) + (pt p1)) + (pt p2)) + (pt p3))) (4616189618054758400 : UInt64))), .second] [(.double (FP.dadd (FP.dadd (FP.dadd (FP.ddiv (FP.l2d (pt p0)) (4616189618054758400 : UInt64)) (FP.ddiv (FP.l2d (pt p1)) (4616189618054758400 : UInt64))) (FP.ddiv (FP.l2d (pt p2)) (4616189618054758400 : UInt64))) (FP.ddiv (FP.l2d (pt p3)) (4616189618054758400 : UInt64))))]))
  refine go (fun _ => XS.dload X22.here hx rfl (hb hby at_104) rfl) ?_
  show Run p e below _ (T22.setTop (mkF m 106 #[.val (.int p0), .val (.int p1), .val (.int p2), .val (.int p3), .val (.long (pt p0)), .second, .val (.long (pt p1)), .second, .val (.long (pt p2)), .second, .val (.long (pt p3)), .second, .val (.double (FP.ddiv (FP.l2d (pt p0)) (4616189618054758400 : UInt64))), .second, .val (.double (FP.ddiv (FP.l2d (pt p1)) (4616189618054758400 : UInt64))), .second, .val (.double (FP.ddiv (FP.l2d (pt p2)) (4616189618054758400 : UInt64))), .second, .val (.double (FP.ddiv (FP.l2d (pt p3)) (4616189618054758400 : UInt64))), .second, .val (.ref b19), .val (.long ((((pt p0) + (pt p1)) + (pt p2)) + (pt p3))), .second, .val (.double (FP.ddiv (FP.l2d ((((pt p0) + (pt p1)) + (pt p2)) + (pt p3))) (4616189618054758400 : UInt64))), .second] [(.double (FP.ddiv (FP.l2d ((((pt p0) + (pt p1)) + (pt p2)) + (pt p3))) (4616189618054758400 : UInt64))), (.double (FP.dadd (FP.dadd (FP.dadd (FP.ddiv (FP.l2d (pt p0)) (4616189618054758400 : UInt64)) (FP.ddiv (FP.l2d (pt p1)) (4616189618054758400 : UInt64))) (FP.ddiv (FP.l2d (pt p2)) (4616189618054758400 : UInt64))) (FP.ddiv (FP.l2d (pt p3)) (4616189618054758400 : UInt64))))]))
  have heq := FP.Core.val64_inj (a4 ▸ OwnQ.C4_nn _) (a4.trans v21.symm)
  refine go (fun _ => XS.dcmpS X22.here hx rfl (hb hby at_106) rfl (v := (0 : Int32)) (by rw [heq]; exact dcmpV_self (q_nn v21) .l)) ?_
  show Run p e below _ (T22.setTop (mkF m 107 #[.val (.int p0), .val (.int p1), .val (.int p2), .val (.int p3), .val (.long (pt p0)), .second, .val (.long (pt p1)), .second, .val (.long (pt p2)), .second, .val (.long (pt p3)), .second, .val (.double (FP.ddiv (FP.l2d (pt p0)) (4616189618054758400 : UInt64))), .second, .val (.double (FP.ddiv (FP.l2d (pt p1)) (4616189618054758400 : UInt64))), .second, .val (.double (FP.ddiv (FP.l2d (pt p2)) (4616189618054758400 : UInt64))), .second, .val (.double (FP.ddiv (FP.l2d (pt p3)) (4616189618054758400 : UInt64))), .second, .val (.ref b19), .val (.long ((((pt p0) + (pt p1)) + (pt p2)) + (pt p3))), .second, .val (.double (FP.ddiv (FP.l2d ((((pt p0) + (pt p1)) + (pt p2)) + (pt p3))) (4616189618054758400 : UInt64))), .second] [(.int (0 : Int32))]))
  refine go (fun _ => XS.ifNo X22.here hx rfl (hb hby at_107) rfl ((if0 _ _).trans (teq (by decide : (0 : Int32) = 0)).2)) ?_
  show Run p e below _ (T22.setTop (mkF m 110 #[.val (.int p0), .val (.int p1), .val (.int p2), .val (.int p3), .val (.long (pt p0)), .second, .val (.long (pt p1)), .second, .val (.long (pt p2)), .second, .val (.long (pt p3)), .second, .val (.double (FP.ddiv (FP.l2d (pt p0)) (4616189618054758400 : UInt64))), .second, .val (.double (FP.ddiv (FP.l2d (pt p1)) (4616189618054758400 : UInt64))), .second, .val (.double (FP.ddiv (FP.l2d (pt p2)) (4616189618054758400 : UInt64))), .second, .val (.double (FP.ddiv (FP.l2d (pt p3)) (4616189618054758400 : UInt64))), .second, .val (.ref b19), .val (.long ((((pt p0) + (pt p1)) + (pt p2)) + (pt p3))), .second, .val (.double (FP.ddiv (FP.l2d ((((pt p0) + (pt p1)) + (pt p2)) + (pt p3))) (4616189618054758400 : UInt64))), .second] []))
  refine go (fun _ => XS.iconst X22.here hx rfl (hb hby at_110)) ?_
  show Run p e below _ (T22.setTop (mkF m 111 #[.val (.int p0), .val (.int p1), .val (.int p2), .val (.int p3), .val (.long (pt p0)), .second, .val (.long (pt p1)), .second, .val (.long (pt p2)), .second, .val (.long (pt p3)), .second, .val (.double (FP.ddiv (FP.l2d (pt p0)) (4616189618054758400 : UInt64))), .second, .val (.double (FP.ddiv (FP.l2d (pt p1)) (4616189618054758400 : UInt64))), .second, .val (.double (FP.ddiv (FP.l2d (pt p2)) (4616189618054758400 : UInt64))), .second, .val (.double (FP.ddiv (FP.l2d (pt p3)) (4616189618054758400 : UInt64))), .second, .val (.ref b19), .val (.long ((((pt p0) + (pt p1)) + (pt p2)) + (pt p3))), .second, .val (.double (FP.ddiv (FP.l2d ((((pt p0) + (pt p1)) + (pt p2)) + (pt p3))) (4616189618054758400 : UInt64))), .second] [(.int (1 : Int32))]))
  refine go (fun _ => XS.goto X22.here hx rfl (pc0 := 111) (pc' := 115) rfl (hb hby at_111) (by decide) (by decide)) ?_
  show Run p e below _ (T22.setTop (mkF m 115 #[.val (.int p0), .val (.int p1), .val (.int p2), .val (.int p3), .val (.long (pt p0)), .second, .val (.long (pt p1)), .second, .val (.long (pt p2)), .second, .val (.long (pt p3)), .second, .val (.double (FP.ddiv (FP.l2d (pt p0)) (4616189618054758400 : UInt64))), .second, .val (.double (FP.ddiv (FP.l2d (pt p1)) (4616189618054758400 : UInt64))), .second, .val (.double (FP.ddiv (FP.l2d (pt p2)) (4616189618054758400 : UInt64))), .second, .val (.double (FP.ddiv (FP.l2d (pt p3)) (4616189618054758400 : UInt64))), .second, .val (.ref b19), .val (.long ((((pt p0) + (pt p1)) + (pt p2)) + (pt p3))), .second, .val (.double (FP.ddiv (FP.l2d ((((pt p0) + (pt p1)) + (pt p2)) + (pt p3))) (4616189618054758400 : UInt64))), .second] [(.int (1 : Int32))]))
  exact endN X22 hx hlk (t := .boolean) hret (by simp) (hb hby at_115) (⟨rfl, N22⟩) (by decide) (by decide)
set_option maxRecDepth 65536 in
set_option maxHeartbeats 40000000 in
theorem comes_1 {Post : Tables → Env → Array Value → State → Outcome → State → Prop} (hpost : ∀ tb e args s v u, (limb_1_1.after args s (.returned v) u = true ∧ limb_1_2.after args s (.returned v) u = true ∧ True) → FrameEnd s (.returned v) u (Jvm.fieldLocs frame_1_writes args s ++ Jvm.arrayLocs frame_1_arrays args s ++ Jvm.staticLocs frame_1_statics s) 16 128 → Post tb e args s (.returned v) u) :
    ArmFor flags0 classFile x code maxLocals ret World_1 tables_1 room_1 Calls_1 rest_1 Pre_1 Post := by
  intro l hfl _ _ p e ha hc hk s m args below hf hA hF happ hP
  obtain ⟨hcalls, hrest, hpre⟩ := hP
  obtain ⟨-, -, -, hnamed, -, -, -, hat⟩ := (Spec.applies_iff hf).mp happ
  obtain ⟨hg, hn⟩ := and_e (Cond.before_iff.mp (show (Jvm.Cond.and given_1 narrow_1).before args s = true from hpre))
  obtain ⟨h1, hg⟩ := and_e hg
  obtain ⟨g0, hg⟩ := and_e hg
  obtain ⟨g1, hg⟩ := and_e hg
  obtain ⟨g2, hg⟩ := and_e hg
  have g3 := hg
  obtain ⟨w0, w1, w2, w3, rfl⟩ : ∃ w0 w1 w2 w3 : Value, args = #[w0, w1, w2, w3] := by
    have hs : args.size = 4 := by simpa [Cond.value, given_1] using h1
    obtain ⟨L⟩ := args
    match L, hs with
    | [w0, w1, w2, w3], _ => exact ⟨w0, w1, w2, w3, rfl⟩
  have hw := fun d (hd : d ∈ tables_1) => atoms_spec (ws := Jvm.Cond.code x code maxLocals ret :: tables_1) hat d (List.mem_cons_of_mem _ hd)
  have hfit : Fit s := fun {y c} hc i hi => by
    obtain ⟨ha, rfl⟩ := Array.getElem?_eq_some_iff.mp hc
    have q := List.all_eq_true.mp ((Array.all_eq_true_iff_forall_mem.mp hF) _ (Array.getElem_mem ha)) i (List.mem_range.mpr hi)
    simpa [Array.getElem?_eq_getElem hi] using q
  obtain ⟨i0, ev0⟩ := is_v g0
  obtain rfl : w0 = (.int i0) := Option.some.inj ev0
  obtain ⟨i1, ev1⟩ := is_v g1
  obtain rfl : w1 = (.int i1) := Option.some.inj ev1
  obtain ⟨i2, ev2⟩ := is_v g2
  obtain rfl : w2 = (.int i2) := Option.some.inj ev2
  obtain ⟨i3, ev3⟩ := is_v g3
  obtain rfl : w3 = (.int i3) := Option.some.inj ev3
  obtain ⟨n, o, h1, h2, h3, _, L, rfl, ⟨rfl, N⟩, hq⟩ := rmlaw l s _ hw tables_1 i0 i1 i2 i3 s.heap s.heap.size (Old.start s) p e ha hc hk s m _ below hf ((Spec.applies_iff_loose hf).mp happ).1 ⟨rfl, State.Warmed39.refl s, rfl⟩ trivial
  refine ⟨n, _, h1, h2, h3, hpost _ _ _ _ _ _ ⟨Cond.after_iff.mpr rfl, Cond.after_iff.mpr (eq_i res_at (Term.int_eval (1)) rfl), trivial⟩ ⟨hq.1, hq.2.1, (hq.2.2.sift fun y hy => Or.inr (N y hy)).mono (by decide) (by decide)⟩⟩
theorem main_1_1 : Claimed_1_1 := comes_1 fun _ _ _ _ _ _ h hF => ⟨h.1, hF⟩
theorem main_1_2 : Claimed_1_2 := comes_1 fun _ _ _ _ _ _ h hF => ⟨h.2.1, hF⟩
end Jvm.Pilot.@@N@@
namespace Jvm.Pilot.@@N@@
open Jvm Jvm.ClassFile Sem Op Lib Jvm.Free Jvm.Stand Jvm.Pilot.@@N@@.Jvm.D
/-! MADE BY PROGRAM (witnessworld.py) out of the Statement's table words and the real class files: 10 classes; the members and pool entries that the words name. The judged class is class 1, her method 2. -/
namespace start1
open Jvm.ClassFile
def u (s : String) : CpInfo := .utf8 (stringToUtf16 s)
/-- a pool by its gaps: so many unusable entries, then the entry; so many at the end -/
def gap : Nat → List CpInfo → List CpInfo
  | 0, r => r
  | n + 1, r => .unusable :: gap n r
def poolList (es : List (Nat × CpInfo)) (last : Nat) : List CpInfo := es.foldr (fun e r => gap e.1 (e.2 :: r)) (gap last [])
def pool (es : List (Nat × CpInfo)) (last : Nat) : Array CpInfo := ⟨poolList es last⟩
def fileOf (pool : Array CpInfo) (this : Nat) (attrs : Array Attribute := #[]) (ms : Array MethodInfo := #[]) (fl : Nat := 33) (sup : Nat := 0) (ifs : Array Nat := #[]) (fds : Array FieldInfo := #[]) : ClassFile where
  minorVersion := 0
  majorVersion := 65
  constantPool := pool
  accessFlags := fl
  thisClass := this
  superClass := sup
  interfaces := ifs
  fields := fds
  methods := ms
  attributes := attrs
def plain (name : String) (sup : Option ClassId) : Class where
  name := name
  kind := .ordinary
  loader := none
  accessFlags := 33
  super := sup
  interfaces := #[]
  cf := none
  fields := #[]
  methods := #[]
  instanceTypes := #[]
  staticTypes := #[]
  resolved := #[]
  callSites := []
  init := .initialized
  statics := none
  mirror := none

def pool0 : Array CpInfo := pool [(5, u "<init>"), (0, u "()V"), (1, .class_ 10), (1, u "java/lang/Object")] 113

def k0c0 : Code := { maxStack := 0, maxLocals := 1, code := object_method_1_code, exceptionTable := #[], attributes := #[] }
def k0m0 : Method := { name := "<init>", desc := "()V", sig := { parameters := [], returnType := none }, accessFlags := 1, code := some k0c0 }
/-- java/lang/Object -/
def k0 : Class := { plain "java/lang/Object" none with
  accessFlags := 33
  interfaces := #[]
  cf := some (fileOf pool0 8 #[] #[{ accessFlags := 1, nameIndex := 5, descriptorIndex := 6, attributes := #[] }] 33 0 #[] #[])
  fields := #[]
  methods := #[k0m0]
  instanceTypes := #[]
  staticTypes := #[]
  resolved := Array.replicate 124 none
  statics := none }

def pool1 : Array CpInfo := pool [(2, .class_ 4), (1, u "java/lang/Object"), (0, u "<init>"), (0, u "()V"), (0, .integer 1048576), (0, .methodref 9 10), (0, .class_ 11), (0, .nameAndType 12 13), (0, u "com/example/visit_by_value/visitbyvalue/core/PageWeightTotalPinLaw"), (0, u "part"), (0, u "(I)J"), (0, .double 4616189618054758400), (1, .class_ 17), (0, u "com/example/visit_by_value/visitbyvalue/core/PageWeight"), (0, .methodref 16 19), (0, .nameAndType 5 20), (0, u "(DDDD)V"), (0, .methodref 16 22), (0, .nameAndType 23 24), (0, u "total"), (0, u "()D"), (2, u "law"), (0, u "(IIII)Z")] 3

def k1m0 : Method := { name := "<init>", desc := "()V", sig := { parameters := [], returnType := none }, accessFlags := 1, code := none }
def k1c1 : Code := { maxStack := 2, maxLocals := 1, code := method_2_code, exceptionTable := #[], attributes := #[] }
def k1m1 : Method := { name := "part", desc := "(I)J", sig := { parameters := [.int], returnType := some .long }, accessFlags := 10, code := some k1c1 }
def k1c2 : Code := { maxStack := 10, maxLocals := 25, code := code, exceptionTable := #[], attributes := #[] }
def k1m2 : Method := { name := "law", desc := "(IIII)Z", sig := { parameters := [.int, .int, .int, .int], returnType := some .boolean }, accessFlags := 9, code := some k1c2 }
/-- com/example/visit_by_value/visitbyvalue/core/PageWeightTotalPinLaw -/
def k1 : Class := { plain "com/example/visit_by_value/visitbyvalue/core/PageWeightTotalPinLaw" (some 0) with
  accessFlags := 49
  interfaces := #[]
  cf := some (fileOf pool1 9 #[] #[{ accessFlags := 1, nameIndex := 5, descriptorIndex := 6, attributes := #[] }, { accessFlags := 10, nameIndex := 12, descriptorIndex := 13, attributes := #[] }, { accessFlags := 9, nameIndex := 27, descriptorIndex := 28, attributes := #[] }] 49 2 #[] #[])
  fields := #[]
  methods := #[k1m0, k1m1, k1m2]
  instanceTypes := #[]
  staticTypes := #[]
  resolved := Array.replicate 32 none
  statics := none }

def pool2 : Array CpInfo := pool [(1, .methodref 2 3), (0, .class_ 4), (0, .nameAndType 5 6), (0, u "java/lang/Object"), (0, u "<init>"), (0, u "()V"), (0, .class_ 8), (0, u "java/lang/Record")] 13

def k2c0 : Code := { maxStack := 1, maxLocals := 1, code := jdk_30_method_1_code, exceptionTable := #[], attributes := #[] }
def k2m0 : Method := { name := "<init>", desc := "()V", sig := { parameters := [], returnType := none }, accessFlags := 4, code := some k2c0 }
/-- java/lang/Record -/
def k2 : Class := { plain "java/lang/Record" (some 0) with
  accessFlags := 1057
  interfaces := #[]
  cf := some (fileOf pool2 7 #[] #[{ accessFlags := 4, nameIndex := 5, descriptorIndex := 6, attributes := #[] }] 1057 2 #[] #[])
  fields := #[]
  methods := #[k2m0]
  instanceTypes := #[]
  staticTypes := #[]
  resolved := Array.replicate 22 none
  statics := none }

def pool3 : Array CpInfo := pool [(1, .methodref 2 3), (0, .class_ 4), (0, .nameAndType 5 6), (0, u "java/lang/Record"), (0, u "<init>"), (0, u "()V"), (0, .fieldref 8 9), (0, .class_ 10), (0, .nameAndType 11 12), (0, u "com/example/visit_by_value/visitbyvalue/core/PageWeight"), (0, u "url"), (0, u "D"), (0, .fieldref 8 14), (0, .nameAndType 15 12), (0, u "title"), (0, .fieldref 8 17), (0, .nameAndType 18 12), (0, u "body"), (0, .fieldref 8 20), (0, .nameAndType 21 12), (0, u "links"), (2, u "total"), (0, u "()D"), (12, u "(DDDD)V")] 32

def k3c0 : Code := { maxStack := 3, maxLocals := 9, code := prog_15_method_1_code, exceptionTable := #[], attributes := #[] }
def k3m0 : Method := { name := "<init>", desc := "(DDDD)V", sig := { parameters := [.double, .double, .double, .double], returnType := none }, accessFlags := 1, code := some k3c0 }
def k3c1 : Code := { maxStack := 4, maxLocals := 1, code := prog_15_method_2_code, exceptionTable := #[], attributes := #[] }
def k3m1 : Method := { name := "total", desc := "()D", sig := { parameters := [], returnType := some .double }, accessFlags := 1, code := some k3c1 }
/-- com/example/visit_by_value/visitbyvalue/core/PageWeight -/
def k3 : Class := { plain "com/example/visit_by_value/visitbyvalue/core/PageWeight" (some 2) with
  accessFlags := 49
  interfaces := #[]
  cf := some (fileOf pool3 8 #[] #[{ accessFlags := 1, nameIndex := 5, descriptorIndex := 38, attributes := #[] }, { accessFlags := 1, nameIndex := 24, descriptorIndex := 25, attributes := #[] }] 49 2 #[] #[{ accessFlags := 18, nameIndex := 11, descriptorIndex := 12, attributes := #[] }, { accessFlags := 18, nameIndex := 15, descriptorIndex := 12, attributes := #[] }, { accessFlags := 18, nameIndex := 18, descriptorIndex := 12, attributes := #[] }, { accessFlags := 18, nameIndex := 21, descriptorIndex := 12, attributes := #[] }])
  fields := #[{ name := "url", type := .double, accessFlags := 18, slot := 0, constantValue := 0 }, { name := "title", type := .double, accessFlags := 18, slot := 1, constantValue := 0 }, { name := "body", type := .double, accessFlags := 18, slot := 2, constantValue := 0 }, { name := "links", type := .double, accessFlags := 18, slot := 3, constantValue := 0 }]
  methods := #[k3m0, k3m1]
  instanceTypes := #[.double, .double, .double, .double]
  staticTypes := #[]
  resolved := Array.replicate 71 none
  statics := none }

def pool4 : Array CpInfo := pool [(1, u "java/lang/Cloneable"), (0, .class_ 1), (0, u "java/lang/Object"), (0, .class_ 3)] 3

/-- java/lang/Cloneable -/
def k4 : Class := { plain "java/lang/Cloneable" (some 0) with
  accessFlags := 1537
  interfaces := #[]
  cf := some (fileOf pool4 2 #[] #[] 1537 4 #[] #[])
  fields := #[]
  methods := #[]
  instanceTypes := #[]
  staticTypes := #[]
  resolved := Array.replicate 8 none
  statics := none }

def pool5 : Array CpInfo := pool [(1, u "java/io/Serializable"), (0, .class_ 1), (0, u "java/lang/Object"), (0, .class_ 3)] 3

/-- java/io/Serializable -/
def k5 : Class := { plain "java/io/Serializable" (some 0) with
  accessFlags := 1537
  interfaces := #[]
  cf := some (fileOf pool5 2 #[] #[] 1537 4 #[] #[])
  fields := #[]
  methods := #[]
  instanceTypes := #[]
  staticTypes := #[]
  resolved := Array.replicate 8 none
  statics := none }

/-- the primitive byte -/
def k6 : Class := { plain "byte" none with kind := .primitive 'B', accessFlags := 0x411 }
/-- [B -/
def k7 : Class := { plain "[B" (some 0) with kind := .array 6 .byte, interfaces := #[4, 5], accessFlags := 1041 }

/-- the primitive int -/
def k8 : Class := { plain "int" none with kind := .primitive 'I', accessFlags := 0x411 }
/-- [I -/
def k9 : Class := { plain "[I" (some 0) with kind := .array 8 .int, interfaces := #[4, 5], accessFlags := 1041 }

def heap : Heap := #[]
def classes : Array Class := #[k0, k1, k2, k3, k4, k5, k6, k7, k8, k9]
def interned : List (Array UInt16 × Addr) := []
def slotsUsed : Nat := 0
def theMethod : MethodId := ⟨1, 2⟩
def args0 : Array Value := #[.int 1, .int 2, .int 3, .int 4]
def aboutOver (below : List Frame) : State where
  vm := { classes := classes, interned := interned.toArray }
  heap := heap
  slotsUsed := slotsUsed
  threads := #[{ frames := .invoking theMethod args0 :: below }]
def below0 : List Frame := [.native { method := ⟨0, 0⟩, args := #[] }]
def about1 : State := aboutOver below0
def p0 : Program := .bare "" "" ""
def e0 : Env := launch0.env 0 0 0
theorem w_frames : about1.frames = Frame.invoking theMethod args0 :: below0 := rfl
set_option maxRecDepth 65536 in
theorem w_args : argsFit about1.vm theMethod args0 = true := by decide +kernel
set_option maxRecDepth 65536 in
theorem w_heap : heapFits about1 = true := by decide +kernel
set_option maxRecDepth 65536 in
theorem w_runnable : about1.curStatus? = some .runnable := by decide +kernel
set_option maxRecDepth 65536 in
theorem w_alone : about1.alone = true := by decide +kernel
set_option maxRecDepth 65536 in
theorem w_named : about1.methodNamed? x = some theMethod := by decide +kernel
set_option maxRecDepth 65536 in
theorem w_hears : about1.hears theMethod below0 = true := by decide +kernel
set_option maxRecDepth 65536 in
theorem w_ripe : about1.ripe theMethod args0 below0 = true := by decide +kernel
theorem w_running : about1.status = .running := rfl
set_option maxRecDepth 65536 in
theorem w_room : about1.hasRoom e0.platform room_1 = true :=
  launch0.hasRoom_least _ room_1 (by decide +kernel) (by decide +kernel) (by decide +kernel) (by decide +kernel) (by decide +kernel) (by decide +kernel)
theorem allAtoms_all (ts : List Jvm.Cond) (a : Array Jvm.Value) (st : Jvm.State) : (allAtoms ts).before a st = ts.all (fun c => c.before a st) := by
  induction ts with
  | nil => rfl
  | cons c t ih =>
    show (Jvm.Cond.and c (allAtoms t)).before a st = _
    rw [Jvm.Cond.before_and, ih, List.all_cons]
def words1 : List Jvm.Cond := Jvm.Cond.code x code maxLocals ret :: tables_1
/-- a 'code' word, met by the world's own term for the bytes: nothing is compared byte by byte -/
theorem code_word {y : MethodName} {bytes : ByteArray} {mx : Nat} {rt : Option FieldType} {a : Array Value} {s : State} {m : MethodId} {meth : Method} {c : Code} (h1 : s.methodNamed? y = some m) (h2 : s.vm.method? m = some meth) (h3 : meth.code = some c) (h4 : c.code = bytes)
    (h5 : (c.maxLocals == mx && c.exceptionTable.isEmpty && decide (c.maxStack ≤ mostOperands) && decide (meth.sig.returnType = rt) && !meth.locks && decide (parseMethodDescriptor y.desc = some meth.sig)) = true) : (Jvm.Cond.code y bytes mx rt).before a s = true := by
  simp only [Bool.and_eq_true, beq_iff_eq, Bool.not_eq_true', decide_eq_true_eq] at h5
  obtain ⟨⟨⟨⟨⟨g1, g2⟩, g3⟩, g4⟩, g5⟩, g6⟩ := h5
  simp [Cond.before, Cond.holds, Cond.value, h1, h2, h3, h4, g1, g2, g3, g4, g5, g6]
def isCode : Jvm.Cond → Bool
  | .code _ _ _ _ => true
  | _ => false
theorem all_split {L : List Jvm.Cond} {P : Jvm.Cond → Bool} (h1 : L.all (fun c => isCode c || P c) = true) (h2 : ∀ c ∈ L.filter isCode, P c = true) : L.all P = true := by
  refine List.all_eq_true.mpr fun c hc => ?_
  have h := List.all_eq_true.mp h1 c hc
  rcases Bool.eq_false_or_eq_true (isCode c) with hi | hi
  · exact h2 c (List.mem_filter.mpr ⟨hc, hi⟩)
  · simpa [hi] using h
set_option maxRecDepth 65536 in
theorem w_c0 : (Jvm.Cond.code x code maxLocals ret).before args0 about1 = true := code_word (m := ⟨1, 2⟩) (meth := k1m2) (c := k1c2) (by decide +kernel) rfl rfl rfl (by decide +kernel)
set_option maxRecDepth 65536 in
theorem w_c1 : (Jvm.Cond.code ({ cls := "com/example/visit_by_value/visitbyvalue/core/PageWeightTotalPinLaw", name := "part", desc := "(I)J" } : Jvm.MethodName) method_2_code (1 : Nat) (Option.some Jvm.ClassFile.FieldType.long)).before args0 about1 = true := code_word (m := ⟨1, 1⟩) (meth := k1m1) (c := k1c1) (by decide +kernel) rfl rfl rfl (by decide +kernel)
set_option maxRecDepth 65536 in
theorem w_c2 : (Jvm.Cond.code ({ cls := "com/example/visit_by_value/visitbyvalue/core/PageWeight", name := "<init>", desc := "(DDDD)V" } : Jvm.MethodName) prog_15_method_1_code (9 : Nat) (Option.none : Option Jvm.ClassFile.FieldType)).before args0 about1 = true := code_word (m := ⟨3, 0⟩) (meth := k3m0) (c := k3c0) (by decide +kernel) rfl rfl rfl (by decide +kernel)
set_option maxRecDepth 65536 in
theorem w_c3 : (Jvm.Cond.code ({ cls := "java/lang/Record", name := "<init>", desc := "()V" } : Jvm.MethodName) jdk_30_method_1_code (1 : Nat) (Option.none : Option Jvm.ClassFile.FieldType)).before args0 about1 = true := code_word (m := ⟨2, 0⟩) (meth := k2m0) (c := k2c0) (by decide +kernel) rfl rfl rfl (by decide +kernel)
set_option maxRecDepth 65536 in
theorem w_c4 : (Jvm.Cond.code ({ cls := "java/lang/Object", name := "<init>", desc := "()V" } : Jvm.MethodName) object_method_1_code (1 : Nat) (Option.none : Option Jvm.ClassFile.FieldType)).before args0 about1 = true := code_word (m := ⟨0, 0⟩) (meth := k0m0) (c := k0c0) (by decide +kernel) rfl rfl rfl (by decide +kernel)
set_option maxRecDepth 65536 in
theorem w_c5 : (Jvm.Cond.code ({ cls := "com/example/visit_by_value/visitbyvalue/core/PageWeight", name := "total", desc := "()D" } : Jvm.MethodName) prog_15_method_2_code (1 : Nat) (Option.some Jvm.ClassFile.FieldType.double)).before args0 about1 = true := code_word (m := ⟨3, 1⟩) (meth := k3m1) (c := k3c1) (by decide +kernel) rfl rfl rfl (by decide +kernel)
def codes1 : List Jvm.Cond := [Jvm.Cond.code x code maxLocals ret, Jvm.Cond.code ({ cls := "com/example/visit_by_value/visitbyvalue/core/PageWeightTotalPinLaw", name := "part", desc := "(I)J" } : Jvm.MethodName) method_2_code (1 : Nat) (Option.some Jvm.ClassFile.FieldType.long), Jvm.Cond.code ({ cls := "com/example/visit_by_value/visitbyvalue/core/PageWeight", name := "<init>", desc := "(DDDD)V" } : Jvm.MethodName) prog_15_method_1_code (9 : Nat) (Option.none : Option Jvm.ClassFile.FieldType), Jvm.Cond.code ({ cls := "java/lang/Record", name := "<init>", desc := "()V" } : Jvm.MethodName) jdk_30_method_1_code (1 : Nat) (Option.none : Option Jvm.ClassFile.FieldType), Jvm.Cond.code ({ cls := "java/lang/Object", name := "<init>", desc := "()V" } : Jvm.MethodName) object_method_1_code (1 : Nat) (Option.none : Option Jvm.ClassFile.FieldType), Jvm.Cond.code ({ cls := "com/example/visit_by_value/visitbyvalue/core/PageWeight", name := "total", desc := "()D" } : Jvm.MethodName) prog_15_method_2_code (1 : Nat) (Option.some Jvm.ClassFile.FieldType.double)]
set_option maxRecDepth 65536 in
theorem codes_eq : words1.filter isCode = codes1 := rfl
theorem w_codes : ∀ c ∈ words1.filter isCode, c.before args0 about1 = true := by
  rw [codes_eq]
  intro c hc
  simp only [codes1, List.mem_cons, List.not_mem_nil, or_false] at hc
  rcases hc with rfl | rfl | rfl | rfl | rfl | rfl
  · exact w_c0
  · exact w_c1
  · exact w_c2
  · exact w_c3
  · exact w_c4
  · exact w_c5
set_option maxRecDepth 65536 in
theorem w_t1 : (words1.take 24).all (fun c => isCode c || c.before args0 about1) = true := by decide +kernel
set_option maxRecDepth 65536 in
theorem w_t2 : (words1.drop 24).all (fun c => isCode c || c.before args0 about1) = true := by decide +kernel
theorem w_tables : (allAtoms (Jvm.Cond.code x code maxLocals ret :: tables_1)).before args0 about1 = true := by
  rw [allAtoms_all]
  show words1.all (fun c => c.before args0 about1) = true
  refine all_split ?_ w_codes
  rw [← List.take_append_drop 24 words1, List.all_append, w_t1, w_t2]
  rfl
set_option maxRecDepth 65536 in
theorem w_case : (Jvm.Cond.and given_1 narrow_1).before args0 about1 = true := by decide +kernel
theorem w_applies : (headSpec (Jvm.Cond.code x code maxLocals ret :: tables_1) room_1).applies x e0.platform about1 = true :=
  (Spec.applies_iff w_frames).mpr ⟨w_running, w_runnable, w_alone, w_named, w_hears, w_ripe, w_room, w_tables⟩
theorem atStart : AtStart classFile x code maxLocals ret World_1 tables_1 room_1 Calls_1 rest_1 Pre_1 launch0 p0 e0 about1 theMethod args0 below0 :=
  ⟨lists_1, trivial, launch0.admits_env _ _ _, launch0.least_env, fairChoices_fair.cas, fairChoices_fair.clock, w_frames, w_args, w_heap, w_applies, trivial, trivial, w_case⟩
end start1
theorem witness_1 : WitnessClaimed_1 := ⟨start1.p0, start1.e0, start1.about1, start1.theMethod, start1.args0, start1.below0, start1.atStart⟩
end Jvm.Pilot.@@N@@
